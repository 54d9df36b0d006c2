/-
  FnSplitUnescapedLookBack (6): the walk.
-/
import Derived.Test.Qxb6600185aSplitA
namespace Go.Proofs.Qxb6600185a
open Go.RowKit Sp

theorem OwnS.at {w : World} {base : Nat} {v : Value} {ss : List ByteArray} (h : OwnS w base v ss) (hl : 0 < ss.length) :
    ∃ g cap : Nat, v = .slice (some ⟨g, 0, none⟩) ss.length cap ∧ g < w.heap.size ∧ ∀ k, k < ss.length → w.cell? ⟨g, k, none⟩ = some (.string (ss[k]?.getD ByteArray.empty)) := by
  rcases h.2 with ⟨_, h0⟩ | ⟨g, cap, cur, rfl, _, hg, _, _, _, ht⟩
  · omega
  · refine ⟨g, cap, rfl, (Array.getElem?_eq_some_iff.1 hg).1, fun k hk => ?_⟩
    rw [cell_of_row w g _ cur 9 (0, 0) hg]
    have e1 : (cur.toList.take (ss.length * 1))[k]? = some (.string (ss[k]?.getD ByteArray.empty)) := by rw [ht]; exact strV_at _ _ hk
    rw [List.getElem?_take, if_pos (by omega)] at e1
    simpa using e1

theorem splitS_len (s : ByteArray) (sep : Int) : 0 < (splitS s sep).length ∧ (splitS s sep).length ≤ s.size + 1 := by
  unfold splitS
  have := parts_len s sep s.size
  simp
  omega

set_option maxHeartbeats 1000000 in
theorem look_walk (s : ByteArray) (sep : Int) (w : World) (hs : s.size ≤ 9223372036854775807) :
    Calls Try.prog 6 #[.string s, .int .u8 sep] w fun e w' => e = .returned (.bool true) ∧ Below w.heap.size w w' := by
  go_enter Try.func6, Try.ntmps6
  go_wp2_with fail
  refine (zzb22 s sep w hs).mono ?_
  rintro e w' ⟨⟨b, rfl⟩, rfl⟩
  cases b
  · go_wp2
    go_ret
    exact ⟨rfl, Below.refl _ _⟩
  by_cases hbig : s.size ≤ 1048576
  · go_wp2_with fail
    refine (zzsplit23 s sep _ hbig).mono ?_
    rintro e w1 ⟨v1, rfl, o1, b1⟩
    go_wp2_with fail
    refine (model24 s sep _ hbig).mono ?_
    rintro e w2 ⟨v2, rfl, o2, b2⟩
    obtain ⟨hl0, hl1⟩ := splitS_len s sep
    obtain ⟨g1, c1, e1, hg1, k1⟩ := o1.at hl0
    obtain ⟨g2, c2, e2, hg2, k2⟩ := o2.at hl0
    subst e1 e2
    have k1' : ∀ k, k < (splitS s sep).length → w2.cell? ⟨g1, k, none⟩ = some (.string ((splitS s sep)[k]?.getD ByteArray.empty)) := fun k hk => (b2.cell (p := ⟨g1, k, none⟩) hg1).trans (k1 k hk)
    have hg1' : g1 < w2.heap.size := by have := b2.size; omega
    have bel : Below w'.heap.size w' w2 := b1.trans (b2.mono b1.size)
    clear o1 o2 b1 b2 k1
    generalize splitS s sep = L at *
    generalize hn : L.length = n at *
    have K1 : Hid (∀ k, k < n → w2.cell? ⟨g1, k, none⟩ = some (.string (L[k]?.getD ByteArray.empty))) := k1'
    have K2 : Hid (∀ k, k < n → w2.cell? ⟨g2, k, none⟩ = some (.string (L[k]?.getD ByteArray.empty))) := k2
    clear k1' k2 hn
    go_wp2
    go_loopw [7] (fun i wr => ∃ k : Nat, k ≤ n ∧ i = .int .i64 k ∧ Below w2.heap.size w2 wr) (fun i _ => n - (intOf i).toNat)
    case atStart => exact ⟨0, Nat.zero_le _, rfl, Below.refl _ _⟩
    case round =>
      obtain ⟨k, hk, rfl, hb⟩ := hrel
      by_cases hlt : k < n
      · have k1 := (hb.cell (p := ⟨g1, k, none⟩) hg1').trans (K1.out k hlt)
        have k2 := (hb.cell (p := ⟨g2, k, none⟩) hg2).trans (K2.out k hlt)
        have hi1 : (k : Int) < (n : Int) := by omega
        go_wp2
        go_region
        go_wp2
        go_roundw
        case rel => exact ⟨k + 1, by omega, by go_num, hb.drew⟩
        case measure => simp [intOf]; omega
      · go_wp2
        go_ret
        exact ⟨rfl, bel.trans (hb.mono bel.size)⟩
  · have hbig : 1048576 < s.size := by omega
    go_wp2_with fail
    go_ret
    exact ⟨rfl, Below.refl _ _⟩
end Go.Proofs.Qxb6600185a
