/-
  A slice of ZT and a slice of bytes that came in, as the walks want them.
-/
import Derived.Test.Qxb6600185aOffG
import Derived.Deep.Strs
import Derived.ProofKit
import Derived.OpenShut
import Derived.ChangeOld
namespace Go.Proofs.Qxb6600185a
open Go.ChangeShapes Go.WideShapes Go.ChangeAt Go.RowKit

theorem Try.cellsZ : Try.prog.cellsOf 38 = 3 := by kernel_rfl
theorem Try.cellsA : Try.prog.cellsOf 5 = 1 := by kernel_rfl
theorem Try.cellsB : Try.prog.cellsOf 32 = 1 := by kernel_rfl

/-- A cell that holds lies at a plain address. -/
theorem spot_none {w : World} {p : Addr} {v : Value} (h : w.cell? p = some v) : p.spot = none := by
  unfold World.cell? at h
  split at h
  · split at h
    · cases h
    · rename_i hs
      cases hp : p.spot with
      | none => rfl
      | some k => rw [hp] at hs; simp at hs
  · cases h

/-- A slice of ZT that came in. -/
theorem rdz_of {H : Type} {enc : TypeId × Value → H} {W : World} {a : Option Addr} {len cap : Nat} {fuel : Nat} {x : DataW H × List MemPlace}
    (hf : DataW.trod enc Try.prog W 0 (fun _ => true) true fuel 22 (Value.slice a len cap).cells.toList = some x) : ∃ zs, RdZ W a len zs ∧ (a = none → len = 0) ∧ len ≤ 9223372036854775807 ∧ ∀ t ∈ zs, 0 ≤ t.1 ∧ t.1 ≤ 255 := by
  rcases Deep.open_slice Try.underlying22 hf with ⟨hcs, _⟩ | ⟨y, l, c, m, n, D, Pl, hcs, _, hl, hm, hmm, _, hx⟩
  · simp [Value.cells] at hcs
    obtain ⟨rfl, rfl, rfl⟩ := hcs
    exact ⟨[], ⟨rfl, fun h => by omega⟩, fun _ => rfl, by simp, fun t ht => by cases ht⟩
  · simp [Value.cells] at hcs
    obtain ⟨rfl, rfl, rfl⟩ := hcs
    simp only [if_true] at hmm
    have each : ∀ i, i < len → ∃ t : Zt, W.cell? (y.add (i * 3)) = some (.int .u8 t.1) ∧ W.cell? (y.add (i * 3 + 1)) = some (.int .u16 t.2.1) ∧ W.cell? (y.add (i * 3 + 2)) = some (.int .u16 t.2.2) ∧ 0 ≤ t.1 ∧ t.1 ≤ 255 := by
      intro i hi
      obtain ⟨cs', h1, h2⟩ := hx i (by omega)
      rw [Try.cellsZ] at h1
      obtain ⟨_, hlen, hcell⟩ := World.cells?_some h1
      obtain ⟨y0, y1, y2, k, _, _, g0, g1, g2⟩ := Deep.trod_struct3 Try.underlying38 h2
      match cs', hlen with
      | [v0, v1, v2], _ =>
        simp [Try.cellsA, Try.cellsB] at g0 g1 g2
        obtain ⟨z0, e0, _, w0⟩ := DataW.trod_int Try.underlying5 g0
        obtain ⟨z1, e1, _, _⟩ := DataW.trod_int Try.underlying32 g1
        obtain ⟨z2, e2, _, _⟩ := DataW.trod_int Try.underlying32 g2
        simp at e0 e1 e2
        subst e0 e1 e2
        have c0 := hcell 0 (by omega)
        have c1 := hcell 1 (by omega)
        have c2 := hcell 2 (by omega)
        rw [Deep.add_add] at c0 c1 c2
        exact ⟨(z0, z1, z2), by simpa using c0, by simpa using c1, by simpa using c2, bounds_u8 w0⟩
    obtain ⟨q, hq⟩ := Deep.choose_lt each
    refine ⟨(List.range len).map q, ⟨by simp, fun hn => ?_⟩, (fun h => by cases h), by unfold maxLen at hm; omega, ?_⟩
    · have hs : y.spot = none := by
        have := (hq 0 hn).1
        rw [Nat.zero_mul] at this
        exact spot_none this
      obtain ⟨b, off, sp⟩ := y
      simp only at hs
      subst hs
      refine ⟨b, off, rfl, fun i hi => ?_⟩
      obtain ⟨c0, c1, c2, _, _⟩ := hq i hi
      rw [Addr.add_lit] at c0 c1 c2
      have e : (((List.range len).map q)[i]?.getD (0, 0, 0)) = q i := by simp [hi]
      rw [e]
      exact ⟨c0, c1, c2⟩
    · intro t ht
      obtain ⟨i, hi, rfl⟩ := List.mem_map.1 ht
      obtain ⟨_, _, _, h1, h2⟩ := hq i (List.mem_range.1 hi)
      exact ⟨h1, h2⟩

/-- A slice of bytes that came in. -/
theorem rdb_of {H : Type} {enc : TypeId × Value → H} {W : World} {a : Option Addr} {len cap : Nat} {fuel : Nat} {x : DataW H × List MemPlace}
    (hf : DataW.trod enc Try.prog W 0 (fun _ => true) true fuel 27 (Value.slice a len cap).cells.toList = some x) : RdB W a len ∧ len ≤ 9223372036854775807 := by
  rcases open_ints Try.underlying27 Try.underlying5 Try.cellsA hf with ⟨hcs, _⟩ | ⟨y, l, c, zs, hcs, _, hl, hm, hz, _, hcell, hwz⟩
  · simp [Value.cells] at hcs
    obtain ⟨rfl, rfl, rfl⟩ := hcs
    exact ⟨⟨fun _ => rfl, fun _ h => by cases h⟩, by simp⟩
  · simp [Value.cells] at hcs
    obtain ⟨rfl, rfl, rfl⟩ := hcs
    simp only [if_true] at hz
    refine ⟨⟨(fun h => by cases h), ?_⟩, by unfold maxLen at hm; omega⟩
    rintro z hz' i hi
    cases hz'
    exact ⟨_, hcell i (by omega)⟩
end Go.Proofs.Qxb6600185a
