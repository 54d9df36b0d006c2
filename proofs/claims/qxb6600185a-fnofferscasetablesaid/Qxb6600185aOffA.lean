/-
  Slices of ZT that are read: zzHasType (19), zzHasZT (35).
-/
import Derived.Test.Qxb6600185aRows
import Derived.WalkKit
import Derived.WalkSpells
import Derived.WalkLawsBesides
import Derived.Lib.SliceRun
import Derived.Deep.QuietTactic
import Derived.BigQuiet
import Derived.BigRegion
namespace Go.Proofs.Qxb6600185a
open Go.RowKit

/-- One transform as a law draws it: type, number, key length. -/
abbrev Zt := Int × Int × Int

/-- The cells of the i-th ZT of a row at ⟨b, off⟩. -/
def ZtAt (w : World) (b off i : Nat) (t : Zt) : Prop :=
  w.cell? ⟨b, off + i * 3, none⟩ = some (.int .u8 t.1) ∧ w.cell? ⟨b, off + i * 3 + 1, none⟩ = some (.int .u16 t.2.1) ∧ w.cell? ⟨b, off + i * 3 + 2, none⟩ = some (.int .u16 t.2.2)

/-- What is known of a slice of ZT that is read. -/
structure RdZ (w : World) (a : Option Addr) (n : Nat) (zs : List Zt) : Prop where
  len : zs.length = n
  row : 0 < n → ∃ b off, a = some ⟨b, off, none⟩ ∧ ∀ i, i < n → ZtAt w b off i (zs[i]?.getD (0, 0, 0))

theorem RdZ.cases {w : World} {a : Option Addr} {n : Nat} {zs : List Zt} (h : RdZ w a n zs) : n ≤ 0 ∨ (0 < n ∧ ∃ b off, a = some ⟨b, off, none⟩ ∧ b < w.heap.size ∧ ∀ i, i < n → ZtAt w b off i (zs[i]?.getD (0, 0, 0))) := by
  by_cases hn : 0 < n
  · obtain ⟨b, off, e, hc⟩ := h.row hn
    exact .inr ⟨hn, b, off, e, World.block_lt_of_cell? w ⟨b, off + 0 * 3, none⟩ (hc 0 hn).1, hc⟩
  · exact .inl (by omega)

theorem ZtAt.later {w w' : World} {B b off i : Nat} {t : Zt} (h : ZtAt w b off i t) (hb : Below B w w') (hB : b < B) : ZtAt w' b off i t :=
  ⟨(hb.cell (p := ⟨b, _, none⟩) hB).trans h.1, (hb.cell (p := ⟨b, _, none⟩) hB).trans h.2.1, (hb.cell (p := ⟨b, _, none⟩) hB).trans h.2.2⟩

theorem RdZ.later {w w' : World} {a : Option Addr} {n : Nat} {zs : List Zt} (h : RdZ w a n zs) (hb : Below w.heap.size w w') : RdZ w' a n zs := by
  refine ⟨h.len, fun hn => ?_⟩
  rcases h.cases with h0 | ⟨_, b, off, e, hlt, hc⟩
  · omega
  · exact ⟨b, off, e, fun i hi => (hc i hi).later hb hlt⟩

theorem belowN {B : Nat} {a w : World} (h : Below B a w) (n : Nat) : Below B a (w.drewN n) := ⟨h.os, h.tape, h.output, h.size, h.block⟩
theorem ret_b {a b : Bool} (h : a = b) : Ending.returned (.bool a) = .returned (.bool b) := by rw [h]

/-- Does a type stand among them? -/
def hasTy (zs : List Zt) (ty : Int) : Bool := zs.any fun t => t.1 == ty
theorem hasTy_take {zs : List Zt} {ty : Int} {k : Nat} (h : k < zs.length) (h0 : hasTy (zs.take k) ty = false) (hd : (zs[k]?.getD (0, 0, 0)).1 ≠ ty) : hasTy (zs.take (k + 1)) ty = false := by
  unfold hasTy at *
  rw [List.take_add_one, List.getElem?_eq_getElem h, List.any_append, h0]
  rw [List.getElem?_eq_getElem h] at hd
  simpa using hd
theorem hasTy_yes {zs : List Zt} {ty : Int} {k : Nat} (h : k < zs.length) (hd : (zs[k]?.getD (0, 0, 0)).1 = ty) : hasTy zs ty = true := by
  unfold hasTy
  rw [List.any_eq_true]
  rw [List.getElem?_eq_getElem h] at hd
  exact ⟨zs[k], List.getElem_mem h, by simpa using hd⟩

set_option maxHeartbeats 400000 in
theorem hasType19 (a : Option Addr) (n c : Nat) (zs : List Zt) (ty : Int) (w : World) (h : RdZ w a n zs) (m : n ≤ 9223372036854775807) :
    Calls Try.prog 19 #[.slice a n c, .int .u8 ty] w fun e w' => e = .returned (.bool (hasTy zs ty)) ∧ w' = w := by
  have hl : Hid (zs.length = n) := h.len
  rcases h.cases with h0 | ⟨h0, b, off, rfl, _, hc⟩
  all_goals
    clear h
    go_enter Try.func19, Try.ntmps19
    go_wp2
    go_loop [5] (fun i => ∃ k : Nat, k ≤ n ∧ i = .int .i64 k ∧ Hid (hasTy (zs.take k) ty = false)) (fun i => n - (intOf i).toNat)
    case atStart => exact ⟨0, Nat.zero_le _, rfl, rfl⟩
    case round =>
      obtain ⟨k, hk, rfl, hz⟩ := hrel
      by_cases hlt : k < n
      · try (exfalso; omega)
        all_goals
          obtain ⟨q1, q2, q3⟩ := hc k hlt
          clear hc
          by_cases hd : (zs[k]?.getD (0, 0, 0)).1 = ty
          · have HY : Hid (hasTy zs ty = true) := hasTy_yes (by rw [hl.out]; exact hlt) hd
            have hq : ((zs[k]?.getD (0, 0, 0)).1 == ty) = true := beq_iff_eq.2 hd
            clear hd
            go_wp2
            go_ret
            exact ⟨by rw [HY.out]; rfl, rfl⟩
          · have HY : Hid (hasTy (zs.take (k + 1)) ty = false) := hasTy_take (by rw [hl.out]; exact hlt) hz.out hd
            have hq : ((zs[k]?.getD (0, 0, 0)).1 == ty) = false := beq_eq_false_iff_ne.2 hd
            clear hd
            go_wp2
            go_round
            case rel => exact ⟨k + 1, by omega, by go_num, HY⟩
            case measure => simp [intOf]; omega
      · have HY : Hid (hasTy zs ty = false) := by have := hz.out; rwa [List.take_of_length_le (by rw [hl.out]; omega)] at this
        go_wp2
        go_ret
        exact ⟨by rw [HY.out]; rfl, rfl⟩

/-- Does a transform stand among them? -/
def hasZ (zs : List Zt) (t : Zt) : Bool := zs.any fun u => decide (u = t)
theorem hasZ_take {zs : List Zt} {t : Zt} {k : Nat} (h : k < zs.length) (h0 : hasZ (zs.take k) t = false) (hd : zs[k]?.getD (0, 0, 0) ≠ t) : hasZ (zs.take (k + 1)) t = false := by
  unfold hasZ at *
  rw [List.take_add_one, List.getElem?_eq_getElem h, List.any_append, h0]
  rw [List.getElem?_eq_getElem h] at hd
  simpa using hd
theorem hasZ_yes {zs : List Zt} {t : Zt} {k : Nat} (h : k < zs.length) (hd : zs[k]?.getD (0, 0, 0) = t) : hasZ zs t = true := by
  unfold hasZ
  rw [List.any_eq_true]
  rw [List.getElem?_eq_getElem h] at hd
  exact ⟨zs[k], List.getElem_mem h, by simpa using hd⟩

set_option maxHeartbeats 1000000 in
theorem hasZT35 (a : Option Addr) (n c : Nat) (zs : List Zt) (ty id kl : Int) (w : World) (h : RdZ w a n zs) (m : n ≤ 9223372036854775807) :
    Calls Try.prog 35 #[.slice a n c, .agg #[.int .u8 ty, .int .u16 id, .int .u16 kl]] w fun e w' => e = .returned (.bool (hasZ zs (ty, id, kl))) ∧ Below w.heap.size w w' := by
  have hl : Hid (zs.length = n) := h.len
  rcases h.cases with h0 | ⟨h0, b, off, rfl, hbl, hc⟩
  all_goals
    clear h
    go_enter Try.func35, Try.ntmps35
    go_wp2
    go_loopw [5] (fun i wr => ∃ k : Nat, k ≤ n ∧ i = .int .i64 k ∧ Hid (hasZ (zs.take k) (ty, id, kl) = false) ∧ Below (w.heap.size + 1) (w.alloc (.cells #[.int .u8 ty, .int .u16 id, .int .u16 kl] 38)) wr) (fun i _ => n - (intOf i).toNat)
    case atStart => exact ⟨0, Nat.zero_le _, rfl, rfl, Below.refl _ _⟩
    case round =>
      obtain ⟨k, hk, rfl, hz, hb⟩ := hrel
      have hB : Below w.heap.size w wr := ((Below.refl _ _).alloc (Nat.le_refl _) _).trans (hb.mono (by omega))
      by_cases hlt : k < n
      · try (exfalso; omega)
        all_goals
          obtain ⟨q1, q2, q3⟩ := (hc k hlt).later hB hbl
          have p0 : wr.cell? ⟨w.heap.size, 0, none⟩ = some (.int .u8 ty) := (hb.cell (p := ⟨w.heap.size, 0, none⟩) (by simp)).trans (by simp)
          have p1 : wr.cell? ⟨w.heap.size, 1, none⟩ = some (.int .u16 id) := (hb.cell (p := ⟨w.heap.size, 1, none⟩) (by simp)).trans (by simp)
          have p2 : wr.cell? ⟨w.heap.size, 2, none⟩ = some (.int .u16 kl) := (hb.cell (p := ⟨w.heap.size, 2, none⟩) (by simp)).trans (by simp)
          have hi1 : (k : Int) < (n : Int) := by omega
          clear hc
          have HN : Hid (zs[k]?.getD (0, 0, 0) ≠ (ty, id, kl) → hasZ (zs.take (k + 1)) (ty, id, kl) = false) := hasZ_take (by rw [hl.out]; exact hlt) hz.out
          have HY : Hid (zs[k]?.getD (0, 0, 0) = (ty, id, kl) → hasZ zs (ty, id, kl) = true) := hasZ_yes (by rw [hl.out]; exact hlt)
          generalize zs[k]?.getD (0, 0, 0) = t at *
          obtain ⟨x, y, z⟩ := t
          by_cases hx : x = ty
          · by_cases hy : y = id
            · by_cases hzz : z = kl
              · have HF : Hid (hasZ zs (ty, id, kl) = true) := HY.out (by rw [hx, hy, hzz])
                clear HN HY
                subst hx hy hzz
                go_wp2
                go_quiet (fail)
                go_wp2
                go_ret
                exact ⟨ret_b HF.out.symm, belowN hB _⟩
              · have HF : Hid (hasZ (zs.take (k + 1)) (ty, id, kl) = false) := HN.out (fun e => hzz (by cases e; rfl))
                have hq : (z == kl) = false := beq_eq_false_iff_ne.2 hzz
                clear HN HY hzz
                subst hx hy
                go_wp2
                go_quiet (fail)
                go_wp2
                go_roundw
                case rel => exact ⟨k + 1, by omega, by go_num, HF, belowN hb _⟩
                case measure => simp [intOf]; omega
            · have HF : Hid (hasZ (zs.take (k + 1)) (ty, id, kl) = false) := HN.out (fun e => hy (by cases e; rfl))
              have hq : (y == id) = false := beq_eq_false_iff_ne.2 hy
              clear HN HY hy
              subst hx
              go_wp2
              go_quiet (fail)
              go_wp2
              go_roundw
              case rel => exact ⟨k + 1, by omega, by go_num, HF, belowN hb _⟩
              case measure => simp [intOf]; omega
          · have HF : Hid (hasZ (zs.take (k + 1)) (ty, id, kl) = false) := HN.out (fun e => hx (by cases e; rfl))
            have hq : (x == ty) = false := beq_eq_false_iff_ne.2 hx
            clear HN HY hx
            go_wp2
            go_quiet (fail)
            go_wp2
            go_roundw
            case rel => exact ⟨k + 1, by omega, by go_num, HF, belowN hb _⟩
            case measure => simp [intOf]; omega
      · have HF : Hid (hasZ zs (ty, id, kl) = false) := by have := hz.out; rwa [List.take_of_length_le (by rw [hl.out]; omega)] at this
        go_wp2
        go_ret
        exact ⟨ret_b HF.out.symm, hB⟩
end Go.Proofs.Qxb6600185a
