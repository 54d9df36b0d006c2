/-
  Proposals: zzProposal (14), zzFullProposal (18), Group (43), Clip (44), DH (45), explicitDH (38).
-/
import Derived.Test.Qxb6600185aOffB
namespace Go.Proofs.Qxb6600185a
open Go.RowKit

/-- The cells of the i-th Transform of a row at ⟨b, off⟩. -/
def TrAt (w : World) (b off i : Nat) (t : Zt) : Prop :=
  w.cell? ⟨b, off + i * 4, none⟩ = some (.int .u8 t.1) ∧ w.cell? ⟨b, off + i * 4 + 1, none⟩ = some (.int .u16 t.2.1) ∧ w.cell? ⟨b, off + i * 4 + 2, none⟩ = some (.int .u16 t.2.2) ∧ w.cell? ⟨b, off + i * 4 + 3, none⟩ = some (.bool false)

/-- What is known of a slice of Transform that is read. -/
structure RdT (w : World) (a : Option Addr) (n : Nat) (zs : List Zt) : Prop where
  len : zs.length = n
  row : 0 < n → ∃ b off, a = some ⟨b, off, none⟩ ∧ ∀ i, i < n → TrAt w b off i (zs[i]?.getD (0, 0, 0))

theorem RdT.cases {w : World} {a : Option Addr} {n : Nat} {zs : List Zt} (h : RdT w a n zs) : n ≤ 0 ∨ (0 < n ∧ ∃ b off, a = some ⟨b, off, none⟩ ∧ b < w.heap.size ∧ ∀ i, i < n → TrAt w b off i (zs[i]?.getD (0, 0, 0))) := by
  by_cases hn : 0 < n
  · obtain ⟨b, off, e, hc⟩ := h.row hn
    exact .inr ⟨hn, b, off, e, World.block_lt_of_cell? w ⟨b, off + 0 * 4, none⟩ (hc 0 hn).1, hc⟩
  · exact .inl (by omega)
theorem TrAt.later {w w' : World} {B b off i : Nat} {t : Zt} (h : TrAt w b off i t) (hb : Below B w w') (hB : b < B) : TrAt w' b off i t :=
  ⟨(hb.cell (p := ⟨b, _, none⟩) hB).trans h.1, (hb.cell (p := ⟨b, _, none⟩) hB).trans h.2.1, (hb.cell (p := ⟨b, _, none⟩) hB).trans h.2.2.1, (hb.cell (p := ⟨b, _, none⟩) hB).trans h.2.2.2⟩
theorem RdT.later {w w' : World} {a : Option Addr} {n : Nat} {zs : List Zt} (h : RdT w a n zs) (hb : Below w.heap.size w w') : RdT w' a n zs := by
  refine ⟨h.len, fun hn => ?_⟩
  rcases h.cases with h0 | ⟨_, b, off, e, hlt, hc⟩
  · omega
  · exact ⟨b, off, e, fun i hi => (hc i hi).later hb hlt⟩
theorem OwnT.rd {w : World} {base : Nat} {v : Value} {zs : List Zt} (h : OwnT w base v zs) : ∃ a c, v = .slice a zs.length c ∧ RdT w a zs.length zs ∧ zs.length ≤ c ∧ (a = none → c = 0) := by
  rcases h.2 with ⟨h1, h0⟩ | ⟨g, cap, cur, rfl, hg, h3, h4, h5, h6, h7⟩
  · exact ⟨none, 0, by rw [h0]; exact h1, ⟨rfl, fun hn => by omega⟩, by omega, fun _ => rfl⟩
  · refine ⟨some ⟨g, 0, none⟩, cap, rfl, ⟨rfl, fun _ => ⟨g, 0, rfl, fun i hi => ?_⟩⟩, h4, fun e => by cases e⟩
    have key : ∀ j, j < zs.length * 4 → w.cell? ⟨g, 0 + j, none⟩ = (trV zs)[j]? := by
      intro j hj
      rw [Nat.zero_add, cell_of_row w g _ cur 56 (0, 0) h3, ← h7, List.getElem?_take, if_pos hj]
      simp
    obtain ⟨k1, k2, k3, k4⟩ := trV_at zs i hi
    unfold TrAt
    rw [Nat.add_assoc, Nat.add_assoc, Nat.add_assoc]
    exact ⟨(key _ (by omega)).trans k1, (key _ (by omega)).trans k2, (key _ (by omega)).trans k3, (key _ (by omega)).trans k4⟩

theorem OwnT.mono {w : World} {base base' : Nat} {v : Value} {zs : List Zt} (h : OwnT w base v zs) (hb : base' ≤ base) : OwnT w base' v zs := by
  refine ⟨h.1, ?_⟩
  rcases h.2 with h0 | ⟨g, cap, cur, rfl, hg, r⟩
  · exact .inl h0
  · exact .inr ⟨g, cap, cur, rfl, by omega, r⟩
/-- A row stays as it is where another block is written. -/
theorem OwnT.other {w : World} {base : Nat} {v : Value} {zs : List Zt} (h : OwnT w base v zs) {p : Addr} (hp : p.block < base) (u : Value) : OwnT (w.setCell p u) base v zs := by
  refine ⟨h.1, ?_⟩
  rcases h.2 with h0 | ⟨g, cap, cur, rfl, hg, hh, r⟩
  · exact .inl h0
  · exact .inr ⟨g, cap, cur, rfl, hg, by rw [Below.heap_setCell _ _ _ _ (by omega)]; exact hh, r⟩

/-- The result's block, in a world that has grown. -/
theorem block_cells {w w1 : World} {c0 c1 c2 c3 : Value} (hb : Below (w.heap.size + 1) (w.alloc (.cells #[c0, c1, c2, c3] 30)) w1) :
    w1.cell? ⟨w.heap.size, 0, none⟩ = some c0 ∧ w1.cell? ⟨w.heap.size, 1, none⟩ = some c1 ∧ w1.cell? ⟨w.heap.size, 2, none⟩ = some c2 ∧ w1.cell? ⟨w.heap.size, 3, none⟩ = some c3 ∧ ∀ j, w1.frozen? ⟨w.heap.size, j, none⟩ = false := by
  have hh : w1.heap[w.heap.size]? = some (.cells #[c0, c1, c2, c3] 30 (0, 0)) := by rw [hb.block _ (by omega)]; exact heap_alloc_new w _
  refine ⟨?_, ?_, ?_, ?_, fun j => frozen_of_row _ _ _ _ 30 hh⟩
  · rw [cell_of_row w1 _ 0 _ 30 (0, 0) hh]; rfl
  · rw [cell_of_row w1 _ 1 _ 30 (0, 0) hh]; rfl
  · rw [cell_of_row w1 _ 2 _ 30 (0, 0) hh]; rfl
  · rw [cell_of_row w1 _ 3 _ 30 (0, 0) hh]; rfl

/-- The end of a proposal's making: the four stores. -/
theorem prop_end {w w1 : World} {o : Obj} {v u0 u1 u2 u3 : Value} {zs : List Zt} (ho : OwnT w1 (w.heap.size + 1) v zs) (hb : Below (w.heap.size + 1) (w.alloc o) w1) :
    OwnT ((((w1.setCell ⟨w.heap.size, 0, none⟩ u0).setCell ⟨w.heap.size, 1, none⟩ u1).setCell ⟨w.heap.size, 2, none⟩ u2).setCell ⟨w.heap.size, 3, none⟩ u3) w.heap.size v zs ∧
    Below w.heap.size w ((((w1.setCell ⟨w.heap.size, 0, none⟩ u0).setCell ⟨w.heap.size, 1, none⟩ u1).setCell ⟨w.heap.size, 2, none⟩ u2).setCell ⟨w.heap.size, 3, none⟩ u3) := by
  refine ⟨((((ho.other (by simp) _).other (by simp) _).other (by simp) _).other (by simp) _).mono (by omega), ?_⟩
  exact (((((((Below.refl _ _).alloc (Nat.le_refl _) o).trans (hb.mono (by omega))).setCell (p := ⟨w.heap.size, 0, none⟩) (Nat.le_refl _) _).setCell (p := ⟨w.heap.size, 1, none⟩) (Nat.le_refl _) _).setCell (p := ⟨w.heap.size, 2, none⟩) (Nat.le_refl _) _).setCell (p := ⟨w.heap.size, 3, none⟩) (Nat.le_refl _) _)

set_option maxHeartbeats 1000000 in
theorem prop14 (proto : Int) (a : Option Addr) (n c : Nat) (zs : List Zt) (w : World) (h : RdZ w a n zs) (ha : a = none → n = 0) (m : n ≤ 65536) :
    Calls Try.prog 14 #[.int .u8 proto, .slice a n c] w fun e w' => ∃ v, e = .returned (.agg #[.int .u8 0, .int .u8 proto, .slice none 0 0, v]) ∧ OwnT w' w.heap.size v zs ∧ Below w.heap.size w w' := by
  have H : Hid (RdZ w a n zs) := h
  have HA : Hid (a = none → n = 0) := ha
  clear h ha
  go_enter Try.func14, Try.ntmps14
  go_wp2_with fail
  refine (trans34 a n c zs _ (H.out.later ((Below.refl _ _).alloc (Nat.le_refl _) _)) HA.out m).mono ?_
  rintro e w1 ⟨v, rfl, ho, hb⟩
  have hsz : (w.alloc (.cells #[.int .u8 0, .int .u8 0, .slice none 0 0, .slice none 0 0] 30)).heap.size = w.heap.size + 1 := by simp
  rw [hsz] at ho hb
  obtain ⟨k0, k1, k2, k3, kf⟩ := block_cells hb
  obtain ⟨av, cv, ev, _⟩ := ho.rd
  subst ev
  have E := fun u0 u1 u2 u3 => prop_end (u0 := u0) (u1 := u1) (u2 := u2) (u3 := u3) ho hb
  have f0 := kf 0
  have f1 := kf 1
  have f2 := kf 2
  have f3 := kf 3
  have hz : w.heap.size < w1.heap.size := by have := hb.size; simp at this; omega
  have HE : Hid (∀ u0 u1 u2 u3, OwnT ((((w1.setCell ⟨w.heap.size, 0, none⟩ u0).setCell ⟨w.heap.size, 1, none⟩ u1).setCell ⟨w.heap.size, 2, none⟩ u2).setCell ⟨w.heap.size, 3, none⟩ u3) w.heap.size (.slice av zs.length cv) zs ∧
    Below w.heap.size w ((((w1.setCell ⟨w.heap.size, 0, none⟩ u0).setCell ⟨w.heap.size, 1, none⟩ u1).setCell ⟨w.heap.size, 2, none⟩ u2).setCell ⟨w.heap.size, 3, none⟩ u3)) := E
  clear E ho hb kf H HA hsz
  go_wp2
  refine bodyPost_ret (v := .agg #[.int .u8 0, .int .u8 proto, .slice none 0 0, .slice av zs.length cv]) (by simp [results, Try.results14, go_sem, k0, k1, k2, k3]) rfl ⟨_, rfl, HE.out _ _ _ _⟩

set_option maxHeartbeats 1000000 in
theorem prop18 (proto num : Int) (a2 : Option Addr) (n2 c2 : Nat) (a : Option Addr) (n c : Nat) (zs : List Zt) (w : World) (h : RdZ w a n zs) (ha : a = none → n = 0) (m : n ≤ 65536) :
    Calls Try.prog 18 #[.int .u8 proto, .int .u8 num, .slice a2 n2 c2, .slice a n c] w fun e w' => ∃ v, e = .returned (.agg #[.int .u8 num, .int .u8 proto, .slice a2 n2 c2, v]) ∧ OwnT w' w.heap.size v zs ∧ Below w.heap.size w w' := by
  have H : Hid (RdZ w a n zs) := h
  have HA : Hid (a = none → n = 0) := ha
  clear h ha
  go_enter Try.func18, Try.ntmps18
  go_wp2_with fail
  refine (trans34 a n c zs _ (H.out.later ((Below.refl _ _).alloc (Nat.le_refl _) _)) HA.out m).mono ?_
  rintro e w1 ⟨v, rfl, ho, hb⟩
  have hsz : (w.alloc (.cells #[.int .u8 0, .int .u8 0, .slice none 0 0, .slice none 0 0] 30)).heap.size = w.heap.size + 1 := by simp
  rw [hsz] at ho hb
  obtain ⟨k0, k1, k2, k3, kf⟩ := block_cells hb
  obtain ⟨av, cv, ev, _⟩ := ho.rd
  subst ev
  have E := fun u0 u1 u2 u3 => prop_end (u0 := u0) (u1 := u1) (u2 := u2) (u3 := u3) ho hb
  have f0 := kf 0
  have f1 := kf 1
  have f2 := kf 2
  have f3 := kf 3
  have hz : w.heap.size < w1.heap.size := by have := hb.size; simp at this; omega
  have HE : Hid (∀ u0 u1 u2 u3, OwnT ((((w1.setCell ⟨w.heap.size, 0, none⟩ u0).setCell ⟨w.heap.size, 1, none⟩ u1).setCell ⟨w.heap.size, 2, none⟩ u2).setCell ⟨w.heap.size, 3, none⟩ u3) w.heap.size (.slice av zs.length cv) zs ∧
    Below w.heap.size w ((((w1.setCell ⟨w.heap.size, 0, none⟩ u0).setCell ⟨w.heap.size, 1, none⟩ u1).setCell ⟨w.heap.size, 2, none⟩ u2).setCell ⟨w.heap.size, 3, none⟩ u3)) := E
  clear E ho hb kf H HA hsz
  go_wp2
  refine bodyPost_ret (v := .agg #[.int .u8 num, .int .u8 proto, .slice a2 n2 c2, .slice av zs.length cv]) (by simp [results, Try.results18, go_sem, k0, k1, k2, k3]) rfl ⟨_, rfl, HE.out _ _ _ _⟩


/-- Group's answer: some number, and whether there is a D-H transform. -/
def GroupEnd (e : Ending) (b : Bool) : Prop := ∃ id, e = .returned (.tuple #[.int .u16 id, .bool b])
theorem groupEnd {id : Int} {b c : Bool} (h : b = c) : GroupEnd (.returned (.tuple #[.int .u16 id, .bool b])) c := ⟨id, by rw [h]⟩

set_option maxHeartbeats 1000000 in
theorem group43 (x0 x1 : Int) (a2 : Option Addr) (n2 c2 : Nat) (a : Option Addr) (n c : Nat) (zs : List Zt) (w : World) (h : RdT w a n zs) (m : n ≤ 9223372036854775807) :
    Calls Try.prog 43 #[.agg #[.int .u8 x0, .int .u8 x1, .slice a2 n2 c2, .slice a n c]] w fun e w' => GroupEnd e (hasTy zs 4) ∧ Below w.heap.size w w' := by
  have hl : Hid (zs.length = n) := h.len
  rcases h.cases with h0 | ⟨h0, b, off, rfl, hbl, hc⟩
  all_goals
    clear h
    go_enter Try.func43, Try.ntmps43
    go_wp2
    go_loopw [9] (fun i wr => ∃ k : Nat, k ≤ n ∧ i = .int .i64 k ∧ Hid (hasTy (zs.take k) 4 = false) ∧ Below w.heap.size w wr) (fun i _ => n - (intOf i).toNat)
    case atStart => exact ⟨0, Nat.zero_le _, rfl, rfl, (Below.refl _ _).alloc (Nat.le_refl _) _⟩
    case round =>
      obtain ⟨k, hk, rfl, hz, hb⟩ := hrel
      by_cases hlt : k < n
      · try (exfalso; omega)
        all_goals
          obtain ⟨q1, q2, q3, q4⟩ := (hc k hlt).later hb hbl
          have hi1 : (k : Int) < (n : Int) := by omega
          clear hc
          have HN : Hid ((zs[k]?.getD (0, 0, 0)).1 ≠ 4 → hasTy (zs.take (k + 1)) 4 = false) := hasTy_take (by rw [hl.out]; exact hlt) hz.out
          have HY : Hid ((zs[k]?.getD (0, 0, 0)).1 = 4 → hasTy zs 4 = true) := hasTy_yes (by rw [hl.out]; exact hlt)
          generalize zs[k]?.getD (0, 0, 0) = t at *
          obtain ⟨x, y, z⟩ := t
          have hB := fun o => hb.alloc hb.size o
          by_cases hx : x = 4
          · have HF : Hid (hasTy zs 4 = true) := HY.out hx
            have hq : (x == 4) = true := beq_iff_eq.2 hx
            clear HN HY hx
            go_wp2
            go_ret2
            exact ⟨groupEnd HF.out.symm, hB _⟩
          · have HF : Hid (hasTy (zs.take (k + 1)) 4 = false) := HN.out hx
            have hq : (x == 4) = false := beq_eq_false_iff_ne.2 hx
            clear HN HY hx
            go_wp2
            go_roundw
            case rel => exact ⟨k + 1, by omega, by go_num, HF, hB _⟩
            case measure => simp [intOf]; omega
      · have HF : Hid (hasTy zs 4 = false) := by have := hz.out; rwa [List.take_of_length_le (by rw [hl.out]; omega)] at this
        go_wp2
        go_ret2
        exact ⟨groupEnd HF.out.symm, hb⟩

set_option maxHeartbeats 400000 in
theorem clip44 (a : Option Addr) (n c : Nat) (w : World) (hn : n ≤ c) (_hc : c ≤ 9223372036854775807) :
    Calls Try.prog 44 #[.slice a n c] w fun e w' => e = .returned (.slice a n n) ∧ w' = w := by
  go_enter Try.func44, Try.ntmps44
  go_wp2
  go_ret
  exact ⟨rfl, rfl⟩

set_option maxHeartbeats 400000 in
theorem dh45 (g : Int) (w : World) :
    Calls Try.prog 45 #[.int .u16 g] w fun e w' => e = .returned (.agg #[.int .u8 4, .int .u16 g, .int .u16 0, .bool false]) ∧ Below w.heap.size w w' := by
  go_enter Try.func45, Try.ntmps45
  go_wp2
  refine bodyPost_ret (v := .agg #[.int .u8 4, .int .u16 g, .int .u16 0, .bool false]) (by simp [results, Try.results45, go_sem]) rfl ⟨rfl, ?_⟩
  exact (Below.refl _ _).alloc (Nat.le_refl _) _
end Go.Proofs.Qxb6600185a
