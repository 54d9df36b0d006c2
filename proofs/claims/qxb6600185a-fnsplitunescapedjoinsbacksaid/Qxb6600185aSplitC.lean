/-
  zzCountByte (27), zzJoin (26), FnSplitUnescapedJoinsBack (7).
-/
import Derived.Test.Qxb6600185aSplitB
import Derived.Test.Qxb6600185aSplitQ
import Derived.Laws.BytesArg
namespace Go.Proofs.Qxb6600185a
open Go.RowKit Sp

theorem ret_i64 {a b : Int} (h : a = b) : Ending.returned (.int .i64 a) = .returned (.int .i64 b) := by rw [h]

set_option maxHeartbeats 400000 in
theorem count27 (s : ByteArray) (c : Int) (w : World) (hs : s.size ≤ 1048576) :
    Calls Try.prog 27 #[.string s, .int .u8 c] w fun e w' => e = .returned (.int .i64 (countTo s c s.size)) ∧ w' = w := by
  go_enter Try.func27, Try.ntmps27
  go_wp2
  go_loop [5, 6] (fun nv iv => ∃ k : Nat, k ≤ s.size ∧ iv = .int .i64 k ∧ nv = .int .i64 (countTo s c k)) (fun _ iv => s.size - (intOf iv).toNat)
  case atStart => exact ⟨0, Nat.zero_le _, rfl, rfl⟩
  case round =>
    obtain ⟨k, hk, rfl, rfl⟩ := hrel
    have hb := count_le s c k
    by_cases hlt : k < s.size
    · have hc := ch_at s k hlt
      by_cases he : ch s k = c
      · have HY : Hid (countTo s c (k + 1) = countTo s c k + 1) := count_yes he
        have hq : (ch s k == c) = true := beq_iff_eq.2 he
        clear he
        generalize countTo s c k = m at *
        go_wp2
        go_round
        case rel => exact ⟨k + 1, by omega, by go_num, by rw [HY.out]; go_num⟩
        case measure => simp [intOf]; omega
      · have HY : Hid (countTo s c (k + 1) = countTo s c k) := count_no he
        have hq : (ch s k == c) = false := beq_eq_false_iff_ne.2 he
        clear he
        generalize countTo s c k = m at *
        go_wp2
        go_round
        case rel => exact ⟨k + 1, by omega, by go_num, by rw [HY.out]⟩
        case measure => simp [intOf]; omega
    · have hkn : k = s.size := by omega
      subst hkn
      go_wp2
      go_ret
      exact ⟨rfl, rfl⟩

theorem Try.info5 : (Try.prog.info? 5).map (fun i => (i.zero, i.size, i.bytes)) = some (some (.int .u8 0), 1, 1) := by kernel_rfl

def bytV (zs : List Int) : List Value := zs.map (Value.int .u8)
theorem bytV_len (zs : List Int) : (bytV zs).length = zs.length := by simp [bytV]
theorem bytV_at (zs : List Int) (k : Nat) (h : k < zs.length) : (bytV zs)[k]? = some (.int .u8 (zs.getD k 0)) := by simp [bytV, h]
theorem bytV_append (a b : List Int) : bytV (a ++ b) = bytV a ++ bytV b := by simp [bytV]

/-- A slice of bytes that the run itself has made. -/
def OwnB (w : World) (base : Nat) (v : Value) (zs : List Int) : Prop := w.ownsRow base 5 1 v zs.length (bytV zs)

/-- One byte more. -/
theorem ownB_snoc {w w1 wr : World} {v v' : Value} {L : List Int} {t : Int} {n : Nat} {o : Obj} (hn : L.length = n) (hb : Below w.heap.size w wr) (ho : wr.ownsRow w.heap.size 5 1 v L.length (bytV L))
    (ho' : w1.ownsRow w.heap.size 5 1 v' (n + 1) (bytV L ++ [.int .u8 t])) (hg : (wr.alloc o).grownBy w1 v.ownBlock) :
    OwnB w1 w.heap.size v' (L ++ [t]) ∧ Below w.heap.size w w1 := by
  have hsz := hb.size
  refine ⟨?_, (hb.alloc hsz o).grown hg (by simp; omega) (fun k hk => (ho.lt k hk).1)⟩
  subst hn
  unfold OwnB
  rw [bytV_append, List.length_append]
  exact ho'

theorem strOfNums_nums (s : ByteArray) : strOfNums (nums s) = s := by
  unfold strOfNums nums
  rw [List.map_map]
  have e : ((fun n : Int => UInt8.ofNat n.toNat) ∘ fun b : UInt8 => (b.toNat : Int)) = id := by
    funext b
    simp
  rw [e, List.map_id]

/-- 'string(b)' of an owned row. -/
theorem OwnB.text {w : World} {base : Nat} {v : Value} {zs : List Int} (h : OwnB w base v zs) : (convert 27 9 v).run Try.prog w = .ok (.string (strOfNums zs)) w := by
  rcases h.2 with ⟨rfl, h0⟩ | ⟨g, cap, cur, rfl, _, hg, _, _, _, ht⟩
  · have : zs = [] := List.eq_nil_of_length_eq_zero h0
    subst this
    exact run_convert_bytes_nil w 27 5 Try.underlying27 Try.underlying5 0 0 9 Try.underlying9
  · refine run_convert_bytes_arg w 27 5 Try.underlying27 Try.underlying5 g 0 zs.length cap zs rfl (fun i hi => ?_) 9 Try.underlying9
    rw [Nat.zero_add, cell_of_row w g _ cur 5 (0, 0) hg]
    have e1 : (cur.toList.take (zs.length * 1))[i]? = some (.int .u8 (zs.getD i 0)) := by rw [ht]; exact bytV_at _ _ hi
    rw [List.getElem?_take, if_pos (by omega)] at e1
    simpa using e1

set_option maxHeartbeats 2000000 in
theorem join26 (g n cap : Nat) (P : List ByteArray) (sep : Int) (w : World) (hg : g < w.heap.size) (hP : P.length = n) (hn : n ≤ 1048577) (hJ : (joinTo sep P n).length ≤ 1048576)
    (hc : ∀ k, k < n → w.cell? ⟨g, k, none⟩ = some (.string (P[k]?.getD ByteArray.empty))) :
    Calls Try.prog 26 #[.slice (some ⟨g, 0, none⟩) n cap, .int .u8 sep] w fun e w' => e = .returned (.string (strOfNums (joinTo sep P n))) ∧ Below w.heap.size w w' := by
  obtain ⟨i0, hi, hz0, hz1, hz2⟩ := info_parts Try.info5
  have HP : Hid (P.length = n) := hP
  have HJ : Hid ((joinTo sep P n).length ≤ 1048576) := hJ
  have HC : Hid (∀ k, k < n → w.cell? ⟨g, k, none⟩ = some (.string (P[k]?.getD ByteArray.empty))) := hc
  clear hP hJ hc
  go_enter Try.func26, Try.ntmps26
  go_wp2
  go_loopw [5, 6] (fun bv iv wr => ∃ k : Nat, k ≤ n ∧ iv = .int .i64 k ∧ OwnB wr w.heap.size bv (joinTo sep P k) ∧ Below w.heap.size w wr) (fun _ iv _ => n - (intOf iv).toNat)
  case atStart => exact ⟨0, Nat.zero_le _, rfl, World.ownsRow_nil _ _ _ _, Below.refl _ _⟩
  case round =>
    obtain ⟨k, hk, rfl, ho, hb⟩ := hrel
    by_cases hlt : k < n
    · have hcell := (hb.cell (p := ⟨g, k, none⟩) hg).trans (HC.out k hlt)
      have HL : Hid ((joinTo sep P (k + 1)).length ≤ 1048576) := by
        have h1 := joinTo_mono sep P (k + 1) n (by omega)
        have h2 := HJ.out
        show (joinTo sep P (k + 1)).length ≤ 1048576
        omega
      have HS : Hid (joinTo sep P (k + 1) = joinTo sep P k ++ ((if 0 < k then [sep] else []) ++ nums (P[k]?.getD ByteArray.empty))) := joinTo_succ _ _ _
      generalize P[k]?.getD ByteArray.empty = p at *
      by_cases hk0 : 0 < k
      · have hs1 : joinTo sep P (k + 1) = (joinTo sep P k ++ [sep]) ++ nums p := by have := HS.out; rw [if_pos hk0] at this; rw [this, List.append_assoc]
        have hl1 : (joinTo sep P k ++ [sep]).length + p.size ≤ 1048576 := by have := HL.out; rwa [hs1, List.length_append, nums_len] at this
        have HS : Hid (joinTo sep P (k + 1) = (joinTo sep P k ++ [sep]) ++ nums p) := hs1
        have ho2 : wr.ownsRow w.heap.size 5 1 u5 (joinTo sep P k).length (bytV (joinTo sep P k)) := ho
        have hl3 : (joinTo sep P k).length + 1 + p.size ≤ 1048576 := by simpa using hl1
        clear hs1 HL
        generalize joinTo sep P k = J at *
        go_wp2_with (first | (at_builtin; refine wpList_append_own _ rfl _ _ 27 rfl w.heap.size 5 i0 (.int .u8 0) 1 1 Try.underlying27 hi hz0 hz1 hz2 rfl (by decide) _ _ _ rfl (ho2.alloc _) ⟨wr.heap.size, 0, none⟩ 1 1 [.int .u8 sep] rfl rfl (cell_one_new _ _ _) (by intro u hu; simp at hu; subst hu; rfl) (by unfold maxLen; omega) (by omega) (by have := hb.size; simp; omega) ?_) | go_in)
        intro v' w2 hown' hgrow _
        obtain ⟨R1, R2⟩ := ownB_snoc rfl hb ho2 hown' hgrow
        have hcell2 := (R2.cell (p := ⟨g, k, none⟩) hg).trans ((hb.cell (p := ⟨g, k, none⟩) hg).symm.trans hcell)
        clear ho ho2 hown' hgrow hb hcell
        generalize J ++ [sep] = B0 at *
        go_wp2
        go_loopw [5, 8] (fun bv jv wx => ∃ j : Nat, j ≤ p.size ∧ jv = .int .i64 j ∧ OwnB wx w.heap.size bv (B0 ++ (nums p).take j) ∧ Below w.heap.size w wx) (fun _ jv _ => p.size - (intOf jv).toNat)
        case atStart => exact ⟨0, Nat.zero_le _, rfl, by simpa using R1, R2⟩
        case round =>
          clear R1 R2
          obtain ⟨j, hj, rfl, ho, hb⟩ := hrel
          by_cases hlt2 : j < p.size
          · have hcj := ch_at p j hlt2
            have HT : Hid ((nums p).take (j + 1) = (nums p).take j ++ [ch p j]) := take_nums p j hlt2
            have ho2 : wr.ownsRow w.heap.size 5 1 u5 (B0 ++ (nums p).take j).length (bytV (B0 ++ (nums p).take j)) := ho
            have hl2 : (B0 ++ (nums p).take j).length ≤ 1048576 := by rw [List.length_append, List.length_take, nums_len]; omega
            generalize hB : B0 ++ (nums p).take j = B at *
            have HB : Hid (B0 ++ (nums p).take j = B) := hB
            clear hB
            go_wp2_with (first | (at_builtin; refine wpList_append_own _ rfl _ _ 27 rfl w.heap.size 5 i0 (.int .u8 0) 1 1 Try.underlying27 hi hz0 hz1 hz2 rfl (by decide) _ _ _ rfl (ho2.alloc _) ⟨wr.heap.size, 0, none⟩ 1 1 [.int .u8 (ch p j)] rfl rfl (cell_one_new _ _ _) (by intro u hu; simp at hu; subst hu; rfl) (by unfold maxLen; omega) (by omega) (by have := hb.size; simp; omega) ?_) | go_in)
            intro v' w2 hown' hgrow _
            obtain ⟨R1, R2⟩ := ownB_snoc rfl hb ho2 hown' hgrow
            rw [← HB.out, List.append_assoc, ← HT.out] at R1
            clear ho ho2 hown' hgrow hb
            go_wp2
            go_roundw
            case rel => exact ⟨j + 1, by omega, by go_num, R1, R2⟩
            case measure => simp [intOf]; omega
          · have R3 : OwnB wr w.heap.size u5 (joinTo sep P (k + 1)) := by
              rw [List.take_of_length_le (by rw [nums_len]; omega)] at ho
              rw [HS.out]; exact ho
            clear ho
            go_wp2
            go_roundw
            case rel => exact ⟨k + 1, by omega, by go_num, R3, hb⟩
            case measure => simp [intOf]; omega
      · have hs1 : joinTo sep P (k + 1) = joinTo sep P k ++ nums p := by have := HS.out; rwa [if_neg hk0, List.nil_append] at this
        have hl1 : (joinTo sep P k).length + p.size ≤ 1048576 := by have := HL.out; rwa [hs1, List.length_append, nums_len] at this
        have HS : Hid (joinTo sep P (k + 1) = joinTo sep P k ++ nums p) := hs1
        have R1 := ho
        have R2 := hb
        clear hs1 HL ho hb
        generalize joinTo sep P k = B0 at *
        go_wp2
        go_loopw [5, 8] (fun bv jv wx => ∃ j : Nat, j ≤ p.size ∧ jv = .int .i64 j ∧ OwnB wx w.heap.size bv (B0 ++ (nums p).take j) ∧ Below w.heap.size w wx) (fun _ jv _ => p.size - (intOf jv).toNat)
        case atStart => exact ⟨0, Nat.zero_le _, rfl, by simpa using R1, R2⟩
        case round =>
          clear R1 R2
          obtain ⟨j, hj, rfl, ho, hb⟩ := hrel
          by_cases hlt2 : j < p.size
          · have hcj := ch_at p j hlt2
            have HT : Hid ((nums p).take (j + 1) = (nums p).take j ++ [ch p j]) := take_nums p j hlt2
            have ho2 : wr.ownsRow w.heap.size 5 1 u5 (B0 ++ (nums p).take j).length (bytV (B0 ++ (nums p).take j)) := ho
            have hl2 : (B0 ++ (nums p).take j).length ≤ 1048576 := by rw [List.length_append, List.length_take, nums_len]; omega
            generalize hB : B0 ++ (nums p).take j = B at *
            have HB : Hid (B0 ++ (nums p).take j = B) := hB
            clear hB
            go_wp2_with (first | (at_builtin; refine wpList_append_own _ rfl _ _ 27 rfl w.heap.size 5 i0 (.int .u8 0) 1 1 Try.underlying27 hi hz0 hz1 hz2 rfl (by decide) _ _ _ rfl (ho2.alloc _) ⟨wr.heap.size, 0, none⟩ 1 1 [.int .u8 (ch p j)] rfl rfl (cell_one_new _ _ _) (by intro u hu; simp at hu; subst hu; rfl) (by unfold maxLen; omega) (by omega) (by have := hb.size; simp; omega) ?_) | go_in)
            intro v' w2 hown' hgrow _
            obtain ⟨R1, R2⟩ := ownB_snoc rfl hb ho2 hown' hgrow
            rw [← HB.out, List.append_assoc, ← HT.out] at R1
            clear ho ho2 hown' hgrow hb
            go_wp2
            go_roundw
            case rel => exact ⟨j + 1, by omega, by go_num, R1, R2⟩
            case measure => simp [intOf]; omega
          · have R3 : OwnB wr w.heap.size u5 (joinTo sep P (k + 1)) := by
              rw [List.take_of_length_le (by rw [nums_len]; omega)] at ho
              rw [HS.out]; exact ho
            clear ho
            go_wp2
            go_roundw
            case rel => exact ⟨k + 1, by omega, by go_num, R3, hb⟩
            case measure => simp [intOf]; omega
    · have hkn : k = n := by omega
      subst hkn
      have ht := ho.text
      clear ho
      go_wp2
      go_ret
      exact ⟨rfl, hb⟩
end Go.Proofs.Qxb6600185a
