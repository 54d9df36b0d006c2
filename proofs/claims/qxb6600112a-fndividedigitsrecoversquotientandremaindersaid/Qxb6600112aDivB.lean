/-
  CmpNum (16), EqBytes (21), CloneBytes (12).
-/
import Derived.Test.Qxb6600112aDivA
namespace Go.Proofs.Qxb6600112a
open Go.RowKit

/-- rxb1CmpNum. -/
def cmpN (a b : List Int) : Int := Dg.cmpL (Dg.strip a) (Dg.strip b)

set_option maxHeartbeats 1000000 in
theorem cmpNum16 (a0 a1 : Option Addr) (n0 n1 c0 c1 : Nat) (z0 z1 : List Int) (w : World) (h0 : RdB w a0 n0 z0) (h1 : RdB w a1 n1 z1) (m0 : n0 ≤ 4611686018427387904) (m1 : n1 ≤ 4611686018427387904) (q0 : n0 ≤ c0) (q1 : n1 ≤ c1) :
    Calls Try.prog 16 #[.slice a0 n0 c0, .slice a1 n1 c1] w fun e w' => e = .returned (.int .i64 (cmpN z0 z1)) ∧ Below w.heap.size w w' := by
  have t0 := Dg.strip_length z0
  have t1 := Dg.strip_length z1
  rw [h0.len] at t0
  rw [h1.len] at t1
  have H0 : Hid (RdB w a0 n0 z0) := h0
  have H1 : Hid (RdB w a1 n1 z1) := h1
  clear h0 h1
  go_enter Try.func16, Try.ntmps16
  go_wp2_with fail
  refine (strip20 a0 n0 c0 z0 w H0.out (by omega) q0).mono ?_
  rintro e w' ⟨a0', c0', rfl, r0, k0, ew⟩
  subst ew
  have R0 := r0
  clear r0
  go_wp2_with fail
  refine (strip20 a1 n1 c1 z1 _ H1.out (by omega) q1).mono ?_
  rintro e w' ⟨a1', c1', rfl, r1, k1, ew⟩
  subst ew
  have HN : Hid (cmpN z0 z1 = Dg.cmpL (Dg.strip z0) (Dg.strip z1)) := rfl
  clear H0 H1
  generalize Dg.strip z0 = s0 at *
  generalize Dg.strip z1 = s1 at *
  generalize hp0 : s0.length = p0 at *
  generalize hp1 : s1.length = p1 at *
  clear hp0 hp1
  by_cases hne : p0 = p1
  · subst hne
    have HC : Hid (Dg.cmpL s0 s1 = Dg.cmpSame s0 s1) := cmpL_same _ _ (by rw [R0.len, r1.len])
    have e0 : Hid (s0.length = p0) := R0.len
    have e1 : Hid (s1.length = p0) := r1.len
    have H0 : Hid (RdB _ a0' p0 s0) := R0
    have H1 : Hid (RdB _ a1' p0 s1) := r1
    have l0 := R0.nil
    have l1 := r1.nil
    clear R0 r1
    rcases a0' with _ | x0 <;> rcases a1' with _ | x1
    all_goals
      first | (have y0 : p0 ≤ 0 := Nat.le_of_eq (l0 rfl)) | (have y0 : p0 ≤ 0 := Nat.le_of_eq (l1 rfl)) | skip
      clear l0 l1
      go_wp2
      go_loopw [5] (fun i wr => ∃ k : Nat, k ≤ p0 ∧ i = .int .i64 k ∧ Hid (∀ i, i < k → s0[i]?.getD 0 = s1[i]?.getD 0) ∧ Below w'.heap.size w' wr) (fun i _ => p0 - (intOf i).toNat)
      case atStart => exact ⟨0, Nat.zero_le _, rfl, (fun i hi => by omega), Below.refl _ _⟩
      case round =>
        obtain ⟨k, hk, rfl, hz, hb⟩ := hrel
        by_cases hlt : k < p0
        · try (exfalso; omega)
          all_goals
            have k0 := (H0.out.later hb).cell x0 rfl k hlt
            have k1 := (H1.out.later hb).cell x1 rfl k hlt
            have hi1 : (k : Int) < (p0 : Int) := by omega
            by_cases hd : s0[k]?.getD 0 = s1[k]?.getD 0
            · have hd' : (s0[k]?.getD 0 != s1[k]?.getD 0) = false := by rw [bne_eq_false_iff_eq]; exact hd
              have hz' : Hid (∀ i, i < k + 1 → s0[i]?.getD 0 = s1[i]?.getD 0) := fun i hi => by
                by_cases e : i < k
                · exact hz.out i e
                · rw [show i = k by omega]; exact hd
              clear hd
              go_wp2
              go_region
              go_wp2
              go_roundw
              case rel => exact ⟨k + 1, by omega, by go_num, hz', hb.drew⟩
              case measure => simp [intOf]; omega
            · have hd' : (s0[k]?.getD 0 != s1[k]?.getD 0) = true := bne_iff_ne.2 hd
              have F : Hid (Dg.cmpL s0 s1 = if s0[k]?.getD 0 < s1[k]?.getD 0 then -1 else 1) := HC.out.trans (Dg.cmpSame_at s0 s1 k (by rw [e0.out, e1.out]) (by rw [e0.out]; exact hlt) hz.out hd)
              by_cases hs : s0[k]?.getD 0 < s1[k]?.getD 0
              · have F' : Hid (Dg.cmpL s0 s1 = -1) := by have := F.out; rwa [if_pos hs] at this
                clear F hd
                go_wp2
                go_region
                go_wp2
                go_region
                go_wp2
                go_ret
                exact ⟨ret_i64 (by rw [HN.out, F'.out]), hb.drew.drew⟩
              · have F' : Hid (Dg.cmpL s0 s1 = 1) := by have := F.out; rwa [if_neg hs] at this
                clear F hd
                go_wp2
                go_region
                go_wp2
                go_region
                go_wp2
                go_ret
                exact ⟨ret_i64 (by rw [HN.out, F'.out]), hb.drew.drew⟩
        · have F : Hid (Dg.cmpL s0 s1 = 0) := HC.out.trans (Dg.cmpSame_eq _ _ (by rw [e0.out, e1.out]) (fun i hi => hz.out i (by rw [e0.out] at hi; omega)))
          go_wp2
          go_ret
          exact ⟨ret_i64 (by rw [HN.out, F.out]), hb⟩
  · have F : Hid (Dg.cmpL s0 s1 = if p0 < p1 then -1 else 1) := by have := cmpL_diff s0 s1 (by rw [R0.len, r1.len]; exact hne); rwa [R0.len, r1.len] at this
    clear R0 r1
    by_cases hs : p0 < p1
    · have F' : Hid (Dg.cmpL s0 s1 = -1) := by have := F.out; rwa [if_pos hs] at this
      clear hne F
      go_wp2
      go_ret
      exact ⟨ret_i64 (by rw [HN.out, F'.out]), Below.refl _ _⟩
    · have F' : Hid (Dg.cmpL s0 s1 = 1) := by have := F.out; rwa [if_neg hs] at this
      have hs' : p1 < p0 := by omega
      clear hne F hs
      go_wp2
      go_ret
      exact ⟨ret_i64 (by rw [HN.out, F'.out]), Below.refl _ _⟩

/-! ### EqBytes -/
theorem list_eq_of (a b : List Int) (h : a.length = b.length) (he : ∀ i, i < a.length → a[i]?.getD 0 = b[i]?.getD 0) : a = b := by
  apply List.ext_getElem h
  intro i h1 h2
  have := he i h1
  rwa [List.getElem?_eq_getElem h1, List.getElem?_eq_getElem h2] at this

set_option maxHeartbeats 1000000 in
/-- Equal rows: true. -/
theorem eqBytes21 (a0 a1 : Option Addr) (n c0 c1 : Nat) (zs : List Int) (w : World) (h0 : RdB w a0 n zs) (h1 : RdB w a1 n zs) (m0 : n ≤ 9223372036854775807) :
    Calls Try.prog 21 #[.slice a0 n c0, .slice a1 n c1] w fun e w' => e = .returned (.bool true) ∧ Below w.heap.size w w' := by
  have H0 : Hid (RdB w a0 n zs) := h0
  have H1 : Hid (RdB w a1 n zs) := h1
  have l0 := h0.nil
  have l1 := h1.nil
  clear h0 h1
  rcases a0 with _ | x0 <;> rcases a1 with _ | x1
  all_goals
    first | (have y0 : n ≤ 0 := Nat.le_of_eq (l0 rfl)) | (have y0 : n ≤ 0 := Nat.le_of_eq (l1 rfl)) | skip
    clear l0 l1
    go_enter Try.func21, Try.ntmps21
    go_wp2
    go_loopw [5] (fun i wr => ∃ k : Nat, k ≤ n ∧ i = .int .i64 k ∧ Below w.heap.size w wr) (fun i _ => n - (intOf i).toNat)
    case atStart => exact ⟨0, Nat.zero_le _, rfl, Below.refl _ _⟩
    case round =>
      obtain ⟨k, hk, rfl, hb⟩ := hrel
      by_cases hlt : k < n
      · try (exfalso; omega)
        all_goals
          have k0 := (H0.out.later hb).cell x0 rfl k hlt
          have k1 := (H1.out.later hb).cell x1 rfl k hlt
          have hi1 : (k : Int) < (n : Int) := by omega
          go_wp2
          go_region
          go_wp2
          go_roundw
          case rel => exact ⟨k + 1, by omega, by go_num, hb.drew⟩
          case measure => simp [intOf]; omega
      · go_wp2
        go_ret
        exact ⟨rfl, hb⟩

/-! ### CloneBytes -/
theorem Try.info5 : (Try.prog.info? 5).map (fun i => (i.zero, i.size, i.bytes)) = some (some (.int .u8 0), 1, 1) := by kernel_rfl
theorem Try.size5 : (Try.prog.info? 5).map (·.size) = some 1 := by kernel_rfl

def bytV (zs : List Int) : List Value := zs.map (Value.int .u8)
theorem bytV_len (zs : List Int) : (bytV zs).length = zs.length := by simp [bytV]
theorem bytV_at (zs : List Int) (k : Nat) (h : k < zs.length) : (bytV zs)[k]? = some (.int .u8 (zs[k]?.getD 0)) := by simp [bytV, h]
theorem bytV_append (a b : List Int) : bytV (a ++ b) = bytV a ++ bytV b := by simp [bytV]
theorem bytV_set (a : List Int) (k : Nat) (x : Int) : bytV (a.set k x) = (bytV a).set k (.int .u8 x) := by simp [bytV, List.map_set]

/-- A row of bytes that the run itself has made, at its head. -/
def OwnB (w : World) (base : Nat) (v : Value) (zs : List Int) : Prop := w.ownsRow base 5 1 v zs.length (bytV zs)

theorem OwnB.rd {w : World} {base : Nat} {v : Value} {zs : List Int} (h : OwnB w base v zs) : ∃ a c, v = .slice a zs.length c ∧ RdB w a zs.length zs ∧ zs.length ≤ c := by
  rcases h.2 with ⟨h1, h0⟩ | ⟨g, cap, cur, rfl, hg, h3, h4, h5, h6, h7⟩
  · exact ⟨none, 0, by rw [h0]; exact h1, ⟨rfl, (fun _ => h0), (fun x hx => by cases hx)⟩, by omega⟩
  · refine ⟨some ⟨g, 0, none⟩, cap, rfl, ⟨rfl, (fun hx => by cases hx), ?_⟩, h4⟩
    rintro x hx i hi
    cases hx
    rw [Addr.add_lit, cell_of_row w g _ cur 5 (0, 0) h3]
    have e1 : (cur.toList.take (zs.length * 1))[i]? = some (.int .u8 (zs[i]?.getD 0)) := by rw [h7]; exact bytV_at _ _ hi
    rw [List.getElem?_take, if_pos (by omega)] at e1
    simpa using e1
theorem OwnB.keep {w w' : World} {base : Nat} {v : Value} {ss : List Int} (h : OwnB w base v ss) (hk : ∀ k, v.ownBlock = some k → w'.heap[k]? = w.heap[k]?) : OwnB w' base v ss := by
  refine ⟨h.1, ?_⟩
  rcases h.2 with h0 | ⟨g, cap, cur, rfl, hb, hg, r⟩
  · exact .inl h0
  · exact .inr ⟨g, cap, cur, rfl, hb, by rw [hk g rfl]; exact hg, r⟩
theorem OwnB.below {w w' : World} {base : Nat} {v : Value} {ss : List Int} (h : OwnB w base v ss) (hb : Below w.heap.size w w') : OwnB w' base v ss :=
  h.keep fun k hk => hb.block k (World.ownsRow.lt h k hk).2

/-- A made row whose elements are stored one by one: the cells and what a store leaves. -/
theorem row_store {wr : World} {B n k : Nat} {e : TypeId} {L : List Value} {u old : Value} {w : World}
    (ho : wr.ownsRow B e 1 (.slice (some ⟨B, 0, none⟩) n n) n L) (hk : k < n) (hold : L[k]? = some old) (hb : Below B w wr) :
    wr.cell? ⟨B, k, none⟩ = some old ∧ wr.frozen? ⟨B, k, none⟩ = false ∧ (wr.setCell ⟨B, k, none⟩ u).ownsRow B e 1 (.slice (some ⟨B, 0, none⟩) n n) n (L.set k u) ∧ Below B w (wr.setCell ⟨B, k, none⟩ u) :=
  ⟨by rw [ho.cellAt k (by omega)]; exact hold, ho.frozenAt k, (ho.stored k u).1, hb.setCell (Nat.le_refl _) _⟩

/-- The first k of xs, then zeros. -/
def fillB (xs : List Int) (k : Nat) : List Int := xs.take k ++ List.replicate (xs.length - k) 0
theorem fillB_len (xs : List Int) (k : Nat) (h : k ≤ xs.length) : (fillB xs k).length = xs.length := by simp [fillB]; omega
theorem fillB_zero (xs : List Int) : fillB xs 0 = List.replicate xs.length 0 := by simp [fillB]
theorem fillB_all (xs : List Int) : fillB xs xs.length = xs := by simp [fillB]
theorem fillB_step (xs : List Int) (k : Nat) (h : k < xs.length) : (fillB xs k).set k (xs[k]?.getD 0) = fillB xs (k + 1) := by
  unfold fillB
  have e : xs.length - k = (xs.length - (k + 1)) + 1 := by omega
  have hl : (xs.take k).length = k := by simp; omega
  rw [List.set_append_right _ _ (by omega), hl, Nat.sub_self, e, List.replicate_succ, List.set_cons_zero, List.take_add_one, List.getElem?_eq_getElem h, List.append_assoc]
  rfl

set_option maxHeartbeats 1000000 in
theorem clone12 (a : Option Addr) (n c : Nat) (zs : List Int) (w : World) (h : RdB w a n zs) (m : n ≤ 65536) :
    Calls Try.prog 12 #[.slice a n c] w fun e w' => ∃ v, e = .returned v ∧ OwnB w' w.heap.size v zs ∧ Below w.heap.size w w' := by
  have hq := fun w a n c => Lib.run_eql_slice_nil (P := Try.prog) w 22 5 a n c 0 0 Try.underlying22
  rcases a with _ | x
  · have z := h.nil rfl
    subst n
    have : zs = [] := List.eq_nil_of_length_eq_zero h.len
    subst zs
    go_enter Try.func12, Try.ntmps12
    go_wp2
    go_ret
    exact ⟨_, rfl, World.ownsRow_nil _ _ _ _, Below.refl _ _⟩
  · have hl : Hid (zs.length = n) := h.len
    have H : Hid (RdB w (some x) n zs) := h
    clear h
    obtain ⟨i0, hi, hz0, hz1, hz2⟩ := info_parts Try.info5
    go_enter Try.func12, Try.ntmps12
    go_wp2_with (first | (at_make; refine wpList_make_full _ rfl _ _ 22 rfl w.heap.size 5 i0 (.int .u8 0) 1 Try.underlying22 hi hz0 hz1 .i64 .i64 _ _ n rfl rfl rfl rfl ?b2 ?b3 (Nat.le_refl _) ?_) | go_in)
    case b2 => rw [hz2]; omega
    case b3 => unfold maxLen; omega
    intro w1 ho hg
    have hb : Below w.heap.size w w1 := (Below.refl _ _).grown hg (Nat.le_refl _) (by simp)
    have ho0 : w1.ownsRow w.heap.size 5 1 (.slice (some ⟨w.heap.size, 0, none⟩) n n) n (bytV (fillB zs 0)) := by
      rw [fillB_zero, hl.out]
      rw [toList_madeCells_one] at ho
      simpa [bytV] using ho
    clear ho hg
    go_wp2
    go_loopw [4] (fun i wr => ∃ k : Nat, k ≤ n ∧ i = .int .i64 k ∧ wr.ownsRow w.heap.size 5 1 (.slice (some ⟨w.heap.size, 0, none⟩) n n) n (bytV (fillB zs k)) ∧ Below w.heap.size w wr) (fun i _ => n - (intOf i).toNat)
    case atStart => exact ⟨0, Nat.zero_le _, rfl, ho0, hb⟩
    case round =>
      clear ho0 hb
      obtain ⟨k, hk, rfl, ho, hb⟩ := hrel
      by_cases hlt : k < n
      · obtain ⟨q1, q2, q3, q4⟩ := row_store (u := .int .u8 (zs[k]?.getD 0)) ho hlt (bytV_at _ _ (by rw [fillB_len _ _ (by rw [hl.out]; exact hk), hl.out]; exact hlt)) hb
        rw [← bytV_set, fillB_step _ _ (by rw [hl.out]; exact hlt)] at q3
        have q5 := (H.out.later hb).cell x rfl k hlt
        clear ho hb
        go_wp2
        go_roundw
        case rel => exact ⟨k + 1, by omega, by go_num, q3, q4⟩
        case measure => simp [intOf]; omega
      · have e : Hid (k = zs.length) := by have := hl.out; show k = zs.length; omega
        go_wp2
        go_ret
        refine ⟨_, rfl, ?_, hb⟩
        rw [e.out, fillB_all] at ho
        unfold OwnB
        rw [hl.out]
        exact ho

end Go.Proofs.Qxb6600112a
