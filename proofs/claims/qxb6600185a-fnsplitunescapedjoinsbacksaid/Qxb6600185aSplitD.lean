/-
  FnSplitUnescapedJoinsBack (7): the walk.
-/
import Derived.Test.Qxb6600185aSplitC
namespace Go.Proofs.Qxb6600185a
open Go.RowKit Sp

set_option maxHeartbeats 2000000 in
theorem joins_walk (s : ByteArray) (sep : Int) (w : World) (hs : s.size ≤ 9223372036854775807) :
    Calls Try.prog 7 #[.string s, .int .u8 sep] w fun e w' => e = .returned (.bool true) ∧ Below w.heap.size w w' := by
  go_enter Try.func7, Try.ntmps7
  go_wp2_with fail
  refine (zzb25 s sep w hs).mono ?_
  rintro e w' ⟨⟨b, rfl⟩, rfl⟩
  cases b
  · go_wp2
    go_ret
    exact ⟨rfl, Below.refl _ _⟩
  by_cases hbig : s.size ≤ 1048576
  · go_wp2_with fail
    refine (zzsplit23 s sep _ hbig).mono ?_
    rintro e w1 ⟨v1, rfl, o1, b1⟩
    obtain ⟨hl0, hl1⟩ := splitS_len s sep
    obtain ⟨g1, c1, e1, hg1, k1⟩ := o1.at hl0
    subst e1
    have hj : joinTo sep (splitS s sep) (splitS s sep).length = nums s := joinTo_split s sep
    have HX : Hid (strOfNums (joinTo sep (splitS s sep) (splitS s sep).length) = s) := by
      show strOfNums (joinTo sep (splitS s sep) (splitS s sep).length) = s
      rw [hj, strOfNums_nums]
    have HJ : Hid ((joinTo sep (splitS s sep) (splitS s sep).length).length ≤ 1048576) := by
      show (joinTo sep (splitS s sep) (splitS s sep).length).length ≤ 1048576
      rw [hj, nums_len]; exact hbig
    have hA : (splitS s sep).length ≤ countTo s sep s.size + 1 := by rw [split_count]; have := cuts_le s sep s.size; omega
    have HB : Hid (countTo s 92 s.size = 0 → (splitS s sep).length = countTo s sep s.size + 1) := fun h => by rw [split_count, cuts_plain h s.size (Nat.le_refl _)]
    have HC : Hid (sep = 92 → (splitS s sep).length = 1) := fun h => by rw [split_count, h, cuts_bs]; rfl
    have hcb := count_le s sep s.size
    have hcb2 := count_le s 92 s.size
    clear o1 hj
    generalize splitS s sep = L at *
    generalize hn : L.length = n at *
    have HN : Hid (L.length = n) := hn
    have K1 : Hid (∀ k, k < n → w1.cell? ⟨g1, k, none⟩ = some (.string (L[k]?.getD ByteArray.empty))) := k1
    clear k1 hn
    go_wp2_with fail
    refine (join26 g1 n c1 L sep w1 hg1 HN.out (by omega) HJ.out K1.out).mono ?_
    rintro e w2 ⟨rfl, b2⟩
    rw [HX.out]
    have bel : Below w'.heap.size w' w2 := b1.trans (b2.mono b1.size)
    clear HX HJ K1 HN b1 b2
    go_wp2_with fail
    refine (count27 s sep w2 hbig).mono ?_
    rintro e w3 ⟨rfl, rfl⟩
    go_wp2_with fail
    refine (count27 s 92 _ hbig).mono ?_
    rintro e w4 ⟨rfl, rfl⟩
    generalize countTo s sep s.size = m at *
    generalize countTo s 92 s.size = m92 at *
    by_cases h92 : sep = 92
    · have h1 : n = 1 := HC.out h92
      have hq : (sep == 92) = true := beq_iff_eq.2 h92
      by_cases hz : m92 = 0
      · have h2 := HB.out hz
        have hm : m = 0 := by omega
        clear HB HC h92 h2 hA
        subst hz h1 hm
        go_wp2
        go_ret
        exact ⟨rfl, bel⟩
      · have hq2 : ((m92 : Int) == 0) = false := beq_eq_false_iff_ne.2 (by omega)
        clear HB HC h92
        subst h1
        go_wp2
        go_ret
        exact ⟨rfl, bel⟩
    · have hq : (sep == 92) = false := beq_eq_false_iff_ne.2 h92
      by_cases hz : m92 = 0
      · have h2 := HB.out hz
        clear HB HC h92 hA
        subst hz h2
        go_wp2
        go_ret
        exact ⟨rfl, bel⟩
      · have hq2 : ((m92 : Int) == 0) = false := beq_eq_false_iff_ne.2 (by omega)
        clear HB HC h92
        go_wp2
        go_ret
        exact ⟨rfl, bel⟩
  · have hbig : 1048576 < s.size := by omega
    go_wp2_with fail
    go_ret
    exact ⟨rfl, Below.refl _ _⟩
end Go.Proofs.Qxb6600185a
