/-
  explicitDH (38), slices.Index (46), slices.Contains (39).
-/
import Derived.Test.Qxb6600185aOffC
namespace Go.Proofs.Qxb6600185a
open Go.RowKit

/-- The transforms with D-H NONE added where there is no D-H transform. -/
def expl (zs : List Zt) : List Zt := if hasTy zs 4 then zs else zs ++ [(4, 0, 0)]
theorem expl_yes {zs : List Zt} (h : hasTy zs 4 = true) : expl zs = zs := by unfold expl; rw [if_pos h]
theorem expl_no {zs : List Zt} (h : hasTy zs 4 = false) : expl zs = zs ++ [(4, 0, 0)] := by unfold expl; rw [if_neg (by rw [h]; simp)]
theorem expl_len (zs : List Zt) : (expl zs).length ≤ zs.length + 1 := by unfold expl; split <;> simp

theorem expl_pos (zs : List Zt) : 0 < (expl zs).length := by
  cases h : hasTy zs 4 with
  | true =>
    rw [expl_yes h]
    cases zs with
    | nil => simp [hasTy] at h
    | cons t l => simp
  | false => rw [expl_no h]; simp

theorem TrAt.cellAt {w : World} {b off n : Nat} {zs : List Zt} (hl : zs.length = n) (hc : ∀ i, i < n → TrAt w b off i (zs[i]?.getD (0, 0, 0))) (j : Nat) (u : Value) (hj : (trV zs)[j]? = some u) : w.cell? ⟨b, off + j, none⟩ = some u := by
  have hjl : j < (trV zs).length := (List.getElem?_eq_some_iff.1 hj).1
  rw [trV_len] at hjl
  obtain ⟨k, r, hr, rfl⟩ : ∃ k r, r < 4 ∧ j = k * 4 + r := ⟨j / 4, j % 4, by omega, by omega⟩
  have hk : k < zs.length := by omega
  obtain ⟨t1, t2, t3, t4⟩ := trV_at zs k hk
  obtain ⟨c1, c2, c3, c4⟩ := hc k (by omega)
  match r, hr with
  | 0, _ => rw [Nat.add_zero] at hj ⊢; rw [t1] at hj; rw [← hj]; exact c1
  | 1, _ => rw [t2] at hj; rw [← hj, ← Nat.add_assoc]; exact c2
  | 2, _ => rw [t3] at hj; rw [← hj, ← Nat.add_assoc]; exact c3
  | 3, _ => rw [t4] at hj; rw [← hj, ← Nat.add_assoc]; exact c4

theorem none_cells (w : World) (j : Nat) (u : Value) (hj : ([.int .u8 4, .int .u16 0, .int .u16 0, .bool false] : List Value)[j]? = some u) : (w.alloc (.cells #[.int .u8 4, .int .u16 0, .int .u16 0, .bool false] 56)).cell? ((⟨w.heap.size, 0, none⟩ : Addr).add j) = some u := by
  rw [Addr.add_lit, Nat.zero_add, cell_of_row _ w.heap.size _ #[.int .u8 4, .int .u16 0, .int .u16 0, .bool false] 56 (0, 0) (heap_alloc_new w _), ← hj]
  simp

set_option maxHeartbeats 1000000 in
theorem expl38 (x0 x1 : Int) (a2 : Option Addr) (n2 c2 : Nat) (a : Option Addr) (n c : Nat) (zs : List Zt) (w : World) (h : RdT w a n zs) (ha : a = none → n = 0) (m : n ≤ 65536) (hnc : n ≤ c) (hc : c ≤ 9223372036854775807) :
    Calls Try.prog 38 #[.agg #[.int .u8 x0, .int .u8 x1, .slice a2 n2 c2, .slice a n c]] w fun e w' => ∃ a' c', e = .returned (.slice a' (expl zs).length c') ∧ RdT w' a' (expl zs).length (expl zs) ∧ Below w.heap.size w w' := by
  have hl : Hid (zs.length = n) := h.len
  have H : Hid (RdT w a n zs) := h
  have HA : Hid (a = none → n = 0) := ha
  obtain ⟨i0, hi, hz0, hz1, hz2⟩ := info_parts Try.info56
  clear h ha
  go_enter Try.func38, Try.ntmps38
  go_wp2_with fail
  refine (group43 x0 x1 a2 n2 c2 a n c zs _ (H.out.later ((Below.refl _ _).alloc (Nat.le_refl _) _)) (by omega)).mono ?_
  rintro e w1 ⟨⟨id, rfl⟩, hb⟩
  have hsz : (w.alloc (.cells #[.int .u8 x0, .int .u8 x1, .slice a2 n2 c2, .slice a n c] 30)).heap.size = w.heap.size + 1 := by simp
  rw [hsz] at hb
  obtain ⟨k0, k1, k2, k3, kf⟩ := block_cells hb
  have bel1 : Below w.heap.size w w1 := ((Below.refl _ _).alloc (Nat.le_refl _) _).trans (hb.mono (by omega))
  clear kf hsz
  cases hty : hasTy zs 4 with
  | true =>
    have HE : Hid (expl zs = zs) := expl_yes hty
    clear hty hb
    go_wp2
    go_ret
    refine ⟨a, c, ?_, ?_, bel1⟩
    · rw [HE.out, hl.out]; rfl
    · rw [HE.out, hl.out]; exact H.out.later bel1
  | false =>
    have HE : Hid (expl zs = zs ++ [(4, 0, 0)]) := expl_no hty
    clear hty hb
    go_wp2_with fail
    refine (clip44 a n c w1 hnc hc).mono ?_
    rintro e w2 ⟨rfl, rfl⟩
    go_wp2_with fail
    refine (dh45 0 _).mono ?_
    rintro e w3 ⟨rfl, b3⟩
    have bel3 := bel1.trans (b3.mono bel1.size)
    clear b3
    go_wp2_with (first | (at_builtin; refine wpList_append_grows _ rfl _ _ 28 rfl 56 i0 (.agg #[.int .u8 0, .int .u16 0, .int .u16 0, .bool false]) 4 8 Try.underlying28 hi hz0 hz1 hz2 rfl (by decide) a n n (trV zs) rfl ?g1 ?g2 ?g3 ⟨w3.heap.size, 0, none⟩ 1 1 [.int .u8 4, .int .u16 0, .int .u16 0, .bool false] rfl rfl ?g4 ?g5 (by omega) (by unfold maxLen; omega) (by omega) ?_) | go_in)
    case g1 => intro e; exact ⟨HA.out e, HA.out e⟩
    case g2 => rw [trV_len, hl.out]
    case g3 =>
      intro b' hb' j u hj
      rcases (H.out.later bel3).cases with h0 | ⟨_, b, off, rfl, hlt, hc'⟩
      · have : zs = [] := List.eq_nil_of_length_eq_zero (by rw [hl.out]; omega)
        rw [this] at hj
        simp [trV] at hj
      · cases hb'
        rw [Addr.add_lit]
        have := TrAt.cellAt hl.out hc' j u hj
        rw [← this]
        exact World.cell?_of_block (Below.heap_alloc _ _ _ hlt)
    case g4 => exact none_cells w3
    case g5 => intro u hu; simp at hu; rcases hu with rfl | rfl | rfl <;> rfl
    intro v' w4 ho hg
    have hO : OwnT w4 w3.heap.size v' (expl zs) := by
      unfold OwnT
      rw [HE.out, trV_append, List.length_append, hl.out]
      have : (w3.alloc (.cells #[.int .u8 4, .int .u16 0, .int .u16 0, .bool false] 56)).heap.size = w3.heap.size + 1 := by simp
      have ho' : OwnT w4 (w3.heap.size + 1) v' (zs ++ [(4, 0, 0)]) := by
        unfold OwnT
        rw [trV_append, List.length_append, hl.out]
        exact ho
      have := ho'.mono (base' := w3.heap.size) (by omega)
      unfold OwnT at this
      rw [trV_append, List.length_append, hl.out] at this
      exact this
    have bel4 : Below w.heap.size w w4 := (bel3.alloc bel3.size _).grown hg (by have := bel3.size; simp; omega) (by simp)
    obtain ⟨a', c', ev, rd, _⟩ := hO.rd
    subst ev
    clear ho hg hO
    go_wp2
    go_ret
    exact ⟨a', c', rfl, rd, bel4⟩

/-- Index's answer: a place, or less than 0. -/
def IdxEnd (e : Ending) (b : Bool) : Prop := ∃ i : Int, e = .returned (.int .i64 i) ∧ (0 ≤ i ↔ b = true)
theorem idx_yes {k : Nat} {b : Bool} (h : b = true) : IdxEnd (.returned (.int .i64 (k : Int))) b := ⟨k, rfl, by simp [h]⟩
theorem idx_no {b : Bool} (h : b = false) : IdxEnd (.returned (.int .i64 (-1))) b := ⟨-1, rfl, by simp [h]⟩

set_option maxHeartbeats 1000000 in
theorem index46 (a : Option Addr) (n c : Nat) (zs : List Zt) (ty id kl : Int) (w : World) (h : RdT w a n zs) (m : n ≤ 65537) :
    Calls Try.prog 46 #[.slice a n c, .agg #[.int .u8 ty, .int .u16 id, .int .u16 kl, .bool false]] w fun e w' => IdxEnd e (hasZ zs (ty, id, kl)) ∧ Below w.heap.size w w' := by
  have hl : Hid (zs.length = n) := h.len
  rcases h.cases with h0 | ⟨h0, b, off, rfl, hbl, hc⟩
  all_goals
    clear h
    go_enter Try.func46, Try.ntmps46
    go_wp2
    go_loopw [8] (fun i wr => ∃ k : Nat, k ≤ n ∧ i = .int .i64 k ∧ Hid (hasZ (zs.take k) (ty, id, kl) = false) ∧ Below (w.heap.size + 1) (w.alloc (.cells #[.int .u8 ty, .int .u16 id, .int .u16 kl, .bool false] 56)) wr) (fun i _ => n - (intOf i).toNat)
    case atStart => exact ⟨0, Nat.zero_le _, rfl, rfl, Below.refl _ _⟩
    case round =>
      obtain ⟨k, hk, rfl, hz, hb⟩ := hrel
      have hB : Below w.heap.size w wr := ((Below.refl _ _).alloc (Nat.le_refl _) _).trans (hb.mono (by omega))
      by_cases hlt : k < n
      · try (exfalso; omega)
        all_goals
          obtain ⟨q1, q2, q3, q4⟩ := (hc k hlt).later hB hbl
          have p0 : wr.cell? ⟨w.heap.size, 0, none⟩ = some (.int .u8 ty) := (hb.cell (p := ⟨w.heap.size, 0, none⟩) (by simp)).trans (by simp)
          have p1 : wr.cell? ⟨w.heap.size, 1, none⟩ = some (.int .u16 id) := (hb.cell (p := ⟨w.heap.size, 1, none⟩) (by simp)).trans (by simp)
          have p2 : wr.cell? ⟨w.heap.size, 2, none⟩ = some (.int .u16 kl) := (hb.cell (p := ⟨w.heap.size, 2, none⟩) (by simp)).trans (by simp)
          have p3 : wr.cell? ⟨w.heap.size, 3, none⟩ = some (.bool false) := (hb.cell (p := ⟨w.heap.size, 3, none⟩) (by simp)).trans (by simp)
          have hi1 : (k : Int) < (n : Int) := by omega
          clear hc
          have HN : Hid (zs[k]?.getD (0, 0, 0) ≠ (ty, id, kl) → hasZ (zs.take (k + 1)) (ty, id, kl) = false) := hasZ_take (by rw [hl.out]; exact hlt) hz.out
          have HY : Hid (zs[k]?.getD (0, 0, 0) = (ty, id, kl) → hasZ zs (ty, id, kl) = true) := hasZ_yes (by rw [hl.out]; exact hlt)
          generalize zs[k]?.getD (0, 0, 0) = t at *
          obtain ⟨x, y, z⟩ := t
          by_cases he : (x, y, z) = (ty, id, kl)
          · have HF : Hid (hasZ zs (ty, id, kl) = true) := HY.out he
            cases he
            clear HN HY
            go_wp2
            go_region
            go_wp2
            go_ret
            exact ⟨idx_yes HF.out, hB.drew⟩
          · have HF : Hid (hasZ (zs.take (k + 1)) (ty, id, kl) = false) := HN.out he
            have hne : ¬ ty = x ∨ (ty = x ∧ ¬ id = y) ∨ (ty = x ∧ id = y ∧ ¬ kl = z) := by
              by_cases h1 : ty = x
              · by_cases h2 : id = y
                · exact .inr (.inr ⟨h1, h2, fun h3 => he (by rw [h1, h2, h3])⟩)
                · exact .inr (.inl ⟨h1, h2⟩)
              · exact .inl h1
            clear HN HY he
            rcases hne with h1 | ⟨h1, h2⟩ | ⟨h1, h2, h3⟩
            · go_wp2
              go_region
              go_wp2
              go_roundw
              case rel => exact ⟨k + 1, by omega, by go_num, HF, hb.drew⟩
              case measure => simp [intOf]; omega
            · subst h1
              go_wp2
              go_region
              go_wp2
              go_roundw
              case rel => exact ⟨k + 1, by omega, by go_num, HF, hb.drew⟩
              case measure => simp [intOf]; omega
            · subst h1 h2
              go_wp2
              go_region
              go_wp2
              go_roundw
              case rel => exact ⟨k + 1, by omega, by go_num, HF, hb.drew⟩
              case measure => simp [intOf]; omega
      · have HF : Hid (hasZ zs (ty, id, kl) = false) := by have := hz.out; rwa [List.take_of_length_le (by rw [hl.out]; omega)] at this
        go_wp2
        go_ret
        exact ⟨idx_no HF.out, hB⟩

set_option maxHeartbeats 1000000 in
theorem contains39 (a : Option Addr) (n c : Nat) (zs : List Zt) (ty id kl : Int) (w : World) (h : RdT w a n zs) (m : n ≤ 65537) :
    Calls Try.prog 39 #[.slice a n c, .agg #[.int .u8 ty, .int .u16 id, .int .u16 kl, .bool false]] w fun e w' => e = .returned (.bool (hasZ zs (ty, id, kl))) ∧ Below w.heap.size w w' := by
  have H : Hid (RdT w a n zs) := h
  clear h
  go_enter Try.func39, Try.ntmps39
  go_wp2_with fail
  refine (index46 a n c zs ty id kl _ (H.out.later ((Below.refl _ _).alloc (Nat.le_refl _) _)) m).mono ?_
  rintro e w1 ⟨⟨i, rfl, hi⟩, hb⟩
  have bel : Below w.heap.size w w1 := ((Below.refl _ _).alloc (Nat.le_refl _) _).trans (hb.mono (by simp))
  clear hb
  cases hz : hasZ zs (ty, id, kl) with
  | true =>
    have h0 : 0 ≤ i := hi.2 hz
    have HZ : Hid (hasZ zs (ty, id, kl) = true) := hz
    clear hi hz
    go_wp2
    go_ret
    exact ⟨ret_b HZ.out.symm, bel⟩
  | false =>
    have h0 : i < 0 := by rcases Int.lt_or_le i 0 with h | h; exact h; rw [hi.1 h] at hz; cases hz
    have HZ : Hid (hasZ zs (ty, id, kl) = false) := hz
    have hd : decide (0 ≤ i) = false := decide_eq_false (by omega)
    clear hi hz
    go_wp2
    go_ret
    exact ⟨ret_b HZ.out.symm, bel⟩
end Go.Proofs.Qxb6600185a
