/-
  subtractDigits (32), AddNum (17).
-/
import Derived.Test.Qxb6600112aDivB
namespace Go.Proofs.Qxb6600112a
open Go.RowKit Dg

/-- Zeros, then the k lowest digits. -/
def rzero (m : Nat) (T : List Int) : List Int := List.replicate m 0 ++ T

theorem rzero_len (m : Nat) (T : List Int) : (rzero m T).length = m + T.length := by simp [rzero]
theorem rzero_step (m : Nat) (T : List Int) (d : Int) : (rzero (m + 1) T).set m d = rzero m (d :: T) := by
  unfold rzero
  rw [List.replicate_succ', List.append_assoc, List.set_append_right _ _ (by simp)]
  simp

/-- A store into the row, from the right. -/
theorem row_right {wr w : World} {B n j k : Nat} {T : List Int} (d : Int) (hn : n = j + (k + 1)) (hT : T.length = k)
    (ho : wr.ownsRow B 5 1 (.slice (some ⟨B, 0, none⟩) n n) n (bytV (rzero (n - k) T))) (hb : Below B w wr) :
    wr.cell? ⟨B, j, none⟩ = some (.int .u8 0) ∧ wr.frozen? ⟨B, j, none⟩ = false ∧
    (wr.setCell ⟨B, j, none⟩ (.int .u8 d)).ownsRow B 5 1 (.slice (some ⟨B, 0, none⟩) n n) n (bytV (rzero (n - (k + 1)) (d :: T))) ∧ Below B w (wr.setCell ⟨B, j, none⟩ (.int .u8 d)) := by
  have e : n - k = j + 1 := by omega
  have e2 : n - (k + 1) = j := by omega
  rw [e] at ho
  have hl : j < (rzero (j + 1) T).length := by rw [rzero_len]; omega
  obtain ⟨q1, q2, q3, q4⟩ := row_store (u := .int .u8 d) ho (by omega) (bytV_at _ _ hl) hb
  rw [← bytV_set, rzero_step] at q3
  rw [e2]
  refine ⟨?_, q2, q3, q4⟩
  rw [q1]
  congr 2
  unfold rzero
  rw [List.getElem?_append_left (by simp)]
  simp

theorem sub_rel {T za zb : List Int} {bo x y : Int} {k : Nat} (h : T.length = k ∧ Dig T ∧ val T - bo * pw k = low za k - low zb k) (hr : 0 ≤ (10 + x - bo - y) % 10 ∧ (10 + x - bo - y) % 10 ≤ 9)
    (gx : low za (k + 1) = x * pw k + low za k) (gy : low zb (k + 1) = y * pw k + low zb k) :
    Hid (((10 + x - bo - y) % 10 :: T).length = k + 1 ∧ Dig ((10 + x - bo - y) % 10 :: T) ∧ val ((10 + x - bo - y) % 10 :: T) - (1 - (10 + x - bo - y) / 10) * pw (k + 1) = low za (k + 1) - low zb (k + 1)) :=
  ⟨by simp [h.1], h.2.1.cons hr.1 hr.2, by rw [gx, gy]; exact sub_step h.1 h.2.2⟩

set_option maxHeartbeats 1000000 in
theorem subtract32 (a0 a1 : Option Addr) (la lb c0 c1 : Nat) (za zb : List Int) (w : World) (h0 : RdB w a0 la za) (h1 : RdB w a1 lb zb) (m0 : la ≤ 65536) (hll : lb ≤ la) (da : Dig za) (db : Dig zb) (hge : val zb ≤ val za) :
    Calls Try.prog 32 #[.slice a0 la c0, .slice a1 lb c1] w fun e w' => ∃ v T, e = .returned v ∧ OwnB w' w.heap.size v T ∧ T.length = la ∧ Dig T ∧ val T = val za - val zb ∧ Below w.heap.size w w' := by
  have e0 : Hid (za.length = la) := h0.len
  have e1 : Hid (zb.length = lb) := h1.len
  have H0 : Hid (RdB w a0 la za) := h0
  have H1 : Hid (RdB w a1 lb zb) := h1
  have l0 := h0.nil
  have l1 := h1.nil
  have DA : Hid (Dig za) := da
  have DB : Hid (Dig zb) := db
  have HGE : Hid (val zb ≤ val za) := hge
  obtain ⟨i0, hi, hz0, hz1, hz2⟩ := info_parts Try.info5
  clear h0 h1 da db hge
  rcases a0 with _ | x0 <;> rcases a1 with _ | x1
  all_goals
    first | (have y0 : la ≤ 0 := Nat.le_of_eq (l0 rfl)) | skip
    first | (have y1 : lb ≤ 0 := Nat.le_of_eq (l1 rfl)) | skip
    clear l0 l1
    go_enter Try.func32, Try.ntmps32
    go_wp2_with (first | (at_make; refine wpList_make_full _ rfl _ _ 22 rfl w.heap.size 5 i0 (.int .u8 0) 1 Try.underlying22 hi hz0 hz1 .i64 .i64 _ _ la rfl rfl rfl rfl (by rw [hz2]; omega) (by unfold maxLen; omega) (Nat.le_refl _) ?_) | go_in)
    intro w1 ho hg
    have hb : Below w.heap.size w w1 := (Below.refl _ _).grown hg (Nat.le_refl _) (by simp)
    have ho0 : w1.ownsRow w.heap.size 5 1 (.slice (some ⟨w.heap.size, 0, none⟩) la la) la (bytV (rzero (la - 0) [])) := by
      rw [toList_madeCells_one] at ho
      simpa [bytV, rzero] using ho
    clear ho hg
    go_wp2
    go_loopw [6, 7] (fun b i wr => ∃ (k : Nat) (bo : Int) (T : List Int), k ≤ la ∧ i = .int .i64 ((k : Int) + 1) ∧ b = .int .u8 bo ∧ 0 ≤ bo ∧ bo ≤ 1 ∧ Hid (T.length = k ∧ Dig T ∧ val T - bo * pw k = low za k - low zb k) ∧
        wr.ownsRow w.heap.size 5 1 (.slice (some ⟨w.heap.size, 0, none⟩) la la) la (bytV (rzero (la - k) T)) ∧ Below w.heap.size w wr) (fun _ i _ => la + 1 - (intOf i).toNat)
    case atStart => exact ⟨0, 0, [], Nat.zero_le _, rfl, rfl, by omega, by omega, ⟨rfl, dig_nil, by simp [low_zero, val_nil]⟩, ho0, hb⟩
    case round =>
      clear ho0 hb
      obtain ⟨k, bo, T, hk, rfl, rfl, hb0, hb1, hT, ho, hb⟩ := hrel
      by_cases hlt : k < la
      · try (exfalso; omega)
        all_goals
          obtain ⟨j, hj⟩ : ∃ j : Nat, la = j + (k + 1) := ⟨la - (k + 1), by omega⟩
          have hx := DA.out.at j
          have k0 := (H0.out.later hb).cell x0 rfl j (by omega)
          have gx : Hid (low za (k + 1) = za[j]?.getD 0 * pw k + low za k) := by
            have := low_succ za k (by rw [e0.out]; exact hlt)
            rwa [e0.out, show la - (k + 1) = j by omega] at this
          generalize za[j]?.getD 0 = x at *
          have hidx : (la : Int) - ((k : Int) + 1) = (j : Int) := by omega
          have hjl : j < la := by omega
          by_cases hbl : k < lb
          · try (exfalso; omega)
            all_goals
              obtain ⟨j', hj'⟩ : ∃ j' : Nat, lb = j' + (k + 1) := ⟨lb - (k + 1), by omega⟩
              have hy := DB.out.at j'
              have k1 := (H1.out.later hb).cell x1 rfl j' (by omega)
              have gy : Hid (low zb (k + 1) = zb[j']?.getD 0 * pw k + low zb k) := by
                have := low_succ zb k (by rw [e1.out]; exact hbl)
                rwa [e1.out, show lb - (k + 1) = j' by omega] at this
              generalize zb[j']?.getD 0 = y at *
              have hidx' : (lb : Int) - ((k : Int) + 1) = (j' : Int) := by omega
              have hjl' : j' < lb := by omega
              obtain ⟨r1, r2, r3, r4⟩ := row_right ((10 + x - bo - y) % 10) hj hT.out.1 ho hb
              have HJ : Hid (la = j + (k + 1)) := hj
              have HJ' : Hid (lb = j' + (k + 1)) := hj'
              clear hj hj' ho hb
              go_wp2
              go_roundw
              case rel => exact ⟨k + 1, 1 - (10 + x - bo - y) / 10, (10 + x - bo - y) % 10 :: T, by omega, by go_num, rfl, by omega, by omega, sub_rel hT.out (by omega) gx.out gy.out, r3, r4⟩
              case measure => simp [intOf]; omega
          · have gy : Hid (low zb (k + 1) = 0 * pw k + low zb k) := by
              show low zb (k + 1) = 0 * pw k + low zb k
              rw [low_all _ _ (by rw [e1.out]; omega), low_all _ _ (by rw [e1.out]; omega)]; omega
            obtain ⟨r1, r2, r3, r4⟩ := row_right ((10 + x - bo) % 10) hj hT.out.1 ho hb
            have HJ : Hid (la = j + (k + 1)) := hj
            clear hj ho hb
            have hle : ¬ ((k : Int) + 1 ≤ (lb : Int)) := by omega
            go_wp2
            go_roundw
            case rel =>
              have hs := sub_rel (y := 0) hT.out (by omega) gx.out gy.out
              rw [show (10 + x - bo - 0 : Int) = 10 + x - bo by omega] at hs
              exact ⟨k + 1, 1 - (10 + x - bo) / 10, (10 + x - bo) % 10 :: T, by omega, by go_num, rfl, by omega, by omega, hs, r3, r4⟩
            case measure => simp [intOf]; omega
      · have hkl : k = la := by omega
        subst hkl
        obtain ⟨t1, t2, t3⟩ := hT.out
        rw [low_all _ _ (by rw [e0.out]; exact Nat.le_refl _), low_all _ _ (by rw [e1.out]; exact hll)] at t3
        obtain ⟨u1, u2⟩ := sub_end t1 t2 t3 hb0 HGE.out
        have U2 : Hid (val T = val za - val zb) := u2
        have T1 : Hid (T.length = k) := t1
        have T2 : Hid (Dig T) := t2
        clear u1 u2 t1 t2 t3 hT
        go_wp2
        go_ret
        refine ⟨_, T, rfl, ?_, T1.out, T2.out, U2.out, hb⟩
        rw [Nat.sub_self] at ho
        unfold OwnB
        rw [T1.out]
        exact ho
end Go.Proofs.Qxb6600112a
