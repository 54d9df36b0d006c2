/-
  AddNum (17).
-/
import Derived.Test.Qxb6600112aDivC
namespace Go.Proofs.Qxb6600112a
open Go.RowKit Dg

theorem add_rel {T za zb : List Int} {s c x y : Int} {k : Nat} (h : T.length = k ∧ Dig T ∧ val T + c * pw k = low za k + low zb k) (hs : s = c + x + y) (hr : 0 ≤ s % 10 ∧ s % 10 ≤ 9)
    (gx : low za (k + 1) = x * pw k + low za k) (gy : low zb (k + 1) = y * pw k + low zb k) :
    Hid ((s % 10 :: T).length = k + 1 ∧ Dig (s % 10 :: T) ∧ val (s % 10 :: T) + (s / 10) * pw (k + 1) = low za (k + 1) + low zb (k + 1)) :=
  ⟨by simp [h.1], h.2.1.cons hr.1 hr.2, by rw [gx, gy]; exact add_step h.1 h.2.2 hs⟩

theorem low_past (zs : List Int) (n k : Nat) (hn : zs.length = n) (h : n ≤ k) : low zs (k + 1) = 0 * pw k + low zs k := by
  rw [low_all _ _ (by omega), low_all _ _ (by omega)]; omega

theorem low_in (zs : List Int) (n k j : Nat) (hn : zs.length = n) (hj : n = j + (k + 1)) : low zs (k + 1) = zs[j]?.getD 0 * pw k + low zs k := by
  have := low_succ zs k (by omega)
  rwa [hn, show n - (k + 1) = j by omega] at this

/-- The end of an addition: the carry goes ahead. -/
theorem add_end {T za zb : List Int} {c : Int} {n : Nat} (h : T.length = n ∧ Dig T ∧ val T + c * pw n = low za n + low zb n) (hc0 : 0 ≤ c) (hc1 : c ≤ 1) (ha : za.length ≤ n) (hb : zb.length ≤ n) :
    Dig (c :: T) ∧ val (c :: T) = val za + val zb := by
  obtain ⟨h1, h2, h3⟩ := h
  refine ⟨h2.cons hc0 (by omega), ?_⟩
  rw [val_cons, h1]
  rw [low_all _ _ ha, low_all _ _ hb] at h3
  omega

set_option maxHeartbeats 2000000 in
theorem add17_ge (a0 a1 : Option Addr) (la lb c0 c1 : Nat) (za zb : List Int) (w : World) (h0 : RdB w a0 la za) (h1 : RdB w a1 lb zb) (m0 : la ≤ 65536) (m1 : lb ≤ 65536) (da : Dig za) (db : Dig zb) (hab : lb ≤ la) :
    Calls Try.prog 17 #[.slice a0 la c0, .slice a1 lb c1] w fun e w' => ∃ v T, e = .returned v ∧ OwnB w' w.heap.size v T ∧ T.length ≤ la + lb + 1 ∧ Dig T ∧ val T = val za + val zb ∧ Below w.heap.size w w' := by
  have e0 : Hid (za.length = la) := h0.len
  have e1 : Hid (zb.length = lb) := h1.len
  have H0 : Hid (RdB w a0 la za) := h0
  have H1 : Hid (RdB w a1 lb zb) := h1
  have l0 := h0.nil
  have l1 := h1.nil
  have DA : Hid (Dig za) := da
  have DB : Hid (Dig zb) := db
  obtain ⟨i0, hi, hz0, hz1, hz2⟩ := info_parts Try.info5
  clear h0 h1 da db
  rcases a0 with _ | x0 <;> rcases a1 with _ | x1
  all_goals
    first | (have y0 : la ≤ 0 := Nat.le_of_eq (l0 rfl)) | skip
    first | (have y1 : lb ≤ 0 := Nat.le_of_eq (l1 rfl)) | skip
    clear l0 l1
    try (exfalso; omega)
  all_goals
    go_enter Try.func17, Try.ntmps17
    go_wp2_with (first | (at_make; refine wpList_make_full _ rfl _ _ 22 rfl w.heap.size 5 i0 (.int .u8 0) 1 Try.underlying22 hi hz0 hz1 .i64 .i64 _ _ (la + 1) rfl rfl (by omega) (by omega) (by rw [hz2]; omega) (by unfold maxLen; omega) (Nat.le_refl _) ?_) | go_in)
    intro w1 ho hg
    have hb : Below w.heap.size w w1 := (Below.refl _ _).grown hg (Nat.le_refl _) (by simp)
    have ho0 : w1.ownsRow w.heap.size 5 1 (.slice (some ⟨w.heap.size, 0, none⟩) (la + 1) (la + 1)) (la + 1) (bytV (rzero (la + 1 - 0) [])) := by
      rw [toList_madeCells_one] at ho
      simpa [bytV, rzero] using ho
    clear ho hg
    go_wp2
    go_loopw [7, 8] (fun cv i wr => ∃ (k : Nat) (c : Int) (T : List Int), k ≤ la ∧ i = .int .i64 k ∧ cv = .int .i64 c ∧ 0 ≤ c ∧ c ≤ 1 ∧ Hid (T.length = k ∧ Dig T ∧ val T + c * pw k = low za k + low zb k) ∧
        wr.ownsRow w.heap.size 5 1 (.slice (some ⟨w.heap.size, 0, none⟩) (la + 1) (la + 1)) (la + 1) (bytV (rzero (la + 1 - k) T)) ∧ Below w.heap.size w wr) (fun _ i _ => la - (intOf i).toNat)
    case atStart => exact ⟨0, 0, [], Nat.zero_le _, rfl, rfl, by omega, by omega, ⟨rfl, dig_nil, by simp [low_zero, val_nil]⟩, ho0, hb⟩
    case round =>
      clear ho0 hb
      obtain ⟨k, c, T, hk, rfl, rfl, hc0, hc1, hT, ho, hb⟩ := hrel
      by_cases hlt : k < la
      · try (exfalso; omega)
        all_goals
          obtain ⟨j, hj⟩ : ∃ j : Nat, la = j + k := ⟨la - k, by omega⟩
          have hidx : (la : Int) - (k : Int) = (j : Int) := by omega
          have hjl : j < la + 1 := by omega
          have hjp : 0 < j := by omega
          obtain ⟨j1, hjO⟩ : ∃ j1 : Nat, la = j1 + (k + 1) := ⟨la - (k + 1), by omega⟩
          have hD := DA.out.at j1
          have kD := (H0.out.later hb).cell x0 rfl j1 (by omega)
          have gD : Hid (low za (k + 1) = za[j1]?.getD 0 * pw k + low za k) := low_in _ _ _ _ e0.out hjO
          have hidx1 : (la : Int) - 1 - (k : Int) = (j1 : Int) := by omega
          have hjl1 : j1 < la := by omega
          generalize za[j1]?.getD 0 = p at *
          by_cases hsm : k < lb
          · try (exfalso; omega)
            all_goals
              obtain ⟨j2, hj2⟩ : ∃ j2 : Nat, lb = j2 + (k + 1) := ⟨lb - (k + 1), by omega⟩
              have hS := DB.out.at j2
              have kS := (H1.out.later hb).cell x1 rfl j2 (by omega)
              have gS : Hid (low zb (k + 1) = zb[j2]?.getD 0 * pw k + low zb k) := low_in _ _ _ _ e1.out hj2
              have hidx2 : (lb : Int) - 1 - (k : Int) = (j2 : Int) := by omega
              have hjl2 : j2 < lb := by omega
              generalize zb[j2]?.getD 0 = q at *
              obtain ⟨r1, r2, r3, r4⟩ := row_right ((c + p + q) % 10) (show la + 1 = j + (k + 1) by omega) hT.out.1 ho hb
              have HJ : Hid (la = j + k ∧ la = j1 + (k + 1) ∧ lb = j2 + (k + 1)) := ⟨hj, hjO, hj2⟩
              clear hj hjO hj2 ho hb
              go_wp2
              go_roundw
              case rel => exact ⟨k + 1, (c + p + q) / 10, (c + p + q) % 10 :: T, by omega, by go_num, rfl, by omega, by omega, add_rel hT.out rfl (by omega) gD.out gS.out, r3, r4⟩
              case measure => simp [intOf]; omega
          · have gS : Hid (low zb (k + 1) = 0 * pw k + low zb k) := low_past _ _ _ e1.out (by omega)
            obtain ⟨r1, r2, r3, r4⟩ := row_right ((c + p) % 10) (show la + 1 = j + (k + 1) by omega) hT.out.1 ho hb
            have HJ : Hid (la = j + k ∧ la = j1 + (k + 1)) := ⟨hj, hjO⟩
            clear hj hjO ho hb
            go_wp2
            go_roundw
            case rel => exact ⟨k + 1, (c + p) / 10, (c + p) % 10 :: T, by omega, by go_num, rfl, by omega, by omega, add_rel hT.out (show c + p = c + p + 0 by omega) (by omega) gD.out gS.out, r3, r4⟩
            case measure => simp [intOf]; omega
      · have hkn : k = la := by omega
        subst hkn
        obtain ⟨t1, t2⟩ := add_end hT.out hc0 hc1 (by rw [e0.out]; omega) (by rw [e1.out]; omega)
        have T1 : Hid (Dig (c :: T)) := t1
        have T2 : Hid (val (c :: T) = val za + val zb) := t2
        have T3 : Hid (T.length = k) := hT.out.1
        obtain ⟨r1, r2, r3, r4⟩ := row_right c (show k + 1 = 0 + (k + 1) by omega) hT.out.1 ho hb
        clear t1 t2 hT ho hb
        go_wp2
        go_ret
        refine ⟨_, c :: T, rfl, ?_, by rw [List.length_cons, T3.out]; omega, T1.out, T2.out, r4⟩
        rw [Nat.sub_self] at r3
        unfold OwnB
        rw [List.length_cons, T3.out]
        exact r3

set_option maxHeartbeats 2000000 in
theorem add17_lt (a0 a1 : Option Addr) (la lb c0 c1 : Nat) (za zb : List Int) (w : World) (h0 : RdB w a0 la za) (h1 : RdB w a1 lb zb) (m0 : la ≤ 65536) (m1 : lb ≤ 65536) (da : Dig za) (db : Dig zb) (hab : la < lb) :
    Calls Try.prog 17 #[.slice a0 la c0, .slice a1 lb c1] w fun e w' => ∃ v T, e = .returned v ∧ OwnB w' w.heap.size v T ∧ T.length ≤ la + lb + 1 ∧ Dig T ∧ val T = val za + val zb ∧ Below w.heap.size w w' := by
  have e0 : Hid (za.length = la) := h0.len
  have e1 : Hid (zb.length = lb) := h1.len
  have H0 : Hid (RdB w a0 la za) := h0
  have H1 : Hid (RdB w a1 lb zb) := h1
  have l0 := h0.nil
  have l1 := h1.nil
  have DA : Hid (Dig za) := da
  have DB : Hid (Dig zb) := db
  obtain ⟨i0, hi, hz0, hz1, hz2⟩ := info_parts Try.info5
  clear h0 h1 da db
  rcases a0 with _ | x0 <;> rcases a1 with _ | x1
  all_goals
    first | (have y0 : la ≤ 0 := Nat.le_of_eq (l0 rfl)) | skip
    first | (have y1 : lb ≤ 0 := Nat.le_of_eq (l1 rfl)) | skip
    clear l0 l1
    try (exfalso; omega)
  all_goals
    go_enter Try.func17, Try.ntmps17
    go_wp2_with (first | (at_make; refine wpList_make_full _ rfl _ _ 22 rfl w.heap.size 5 i0 (.int .u8 0) 1 Try.underlying22 hi hz0 hz1 .i64 .i64 _ _ (lb + 1) rfl rfl (by omega) (by omega) (by rw [hz2]; omega) (by unfold maxLen; omega) (Nat.le_refl _) ?_) | go_in)
    intro w1 ho hg
    have hb : Below w.heap.size w w1 := (Below.refl _ _).grown hg (Nat.le_refl _) (by simp)
    have ho0 : w1.ownsRow w.heap.size 5 1 (.slice (some ⟨w.heap.size, 0, none⟩) (lb + 1) (lb + 1)) (lb + 1) (bytV (rzero (lb + 1 - 0) [])) := by
      rw [toList_madeCells_one] at ho
      simpa [bytV, rzero] using ho
    clear ho hg
    go_wp2
    go_loopw [7, 8] (fun cv i wr => ∃ (k : Nat) (c : Int) (T : List Int), k ≤ lb ∧ i = .int .i64 k ∧ cv = .int .i64 c ∧ 0 ≤ c ∧ c ≤ 1 ∧ Hid (T.length = k ∧ Dig T ∧ val T + c * pw k = low za k + low zb k) ∧
        wr.ownsRow w.heap.size 5 1 (.slice (some ⟨w.heap.size, 0, none⟩) (lb + 1) (lb + 1)) (lb + 1) (bytV (rzero (lb + 1 - k) T)) ∧ Below w.heap.size w wr) (fun _ i _ => lb - (intOf i).toNat)
    case atStart => exact ⟨0, 0, [], Nat.zero_le _, rfl, rfl, by omega, by omega, ⟨rfl, dig_nil, by simp [low_zero, val_nil]⟩, ho0, hb⟩
    case round =>
      clear ho0 hb
      obtain ⟨k, c, T, hk, rfl, rfl, hc0, hc1, hT, ho, hb⟩ := hrel
      by_cases hlt : k < lb
      · try (exfalso; omega)
        all_goals
          obtain ⟨j, hj⟩ : ∃ j : Nat, lb = j + k := ⟨lb - k, by omega⟩
          have hidx : (lb : Int) - (k : Int) = (j : Int) := by omega
          have hjl : j < lb + 1 := by omega
          have hjp : 0 < j := by omega
          obtain ⟨j1, hjO⟩ : ∃ j1 : Nat, lb = j1 + (k + 1) := ⟨lb - (k + 1), by omega⟩
          have hD := DB.out.at j1
          have kD := (H1.out.later hb).cell x1 rfl j1 (by omega)
          have gD : Hid (low zb (k + 1) = zb[j1]?.getD 0 * pw k + low zb k) := low_in _ _ _ _ e1.out hjO
          have hidx1 : (lb : Int) - 1 - (k : Int) = (j1 : Int) := by omega
          have hjl1 : j1 < lb := by omega
          generalize zb[j1]?.getD 0 = p at *
          by_cases hsm : k < la
          · try (exfalso; omega)
            all_goals
              obtain ⟨j2, hj2⟩ : ∃ j2 : Nat, la = j2 + (k + 1) := ⟨la - (k + 1), by omega⟩
              have hS := DA.out.at j2
              have kS := (H0.out.later hb).cell x0 rfl j2 (by omega)
              have gS : Hid (low za (k + 1) = za[j2]?.getD 0 * pw k + low za k) := low_in _ _ _ _ e0.out hj2
              have hidx2 : (la : Int) - 1 - (k : Int) = (j2 : Int) := by omega
              have hjl2 : j2 < la := by omega
              generalize za[j2]?.getD 0 = q at *
              obtain ⟨r1, r2, r3, r4⟩ := row_right ((c + q + p) % 10) (show lb + 1 = j + (k + 1) by omega) hT.out.1 ho hb
              have HJ : Hid (lb = j + k ∧ lb = j1 + (k + 1) ∧ la = j2 + (k + 1)) := ⟨hj, hjO, hj2⟩
              clear hj hjO hj2 ho hb
              go_wp2
              go_roundw
              case rel => exact ⟨k + 1, (c + q + p) / 10, (c + q + p) % 10 :: T, by omega, by go_num, rfl, by omega, by omega, add_rel hT.out rfl (by omega) gS.out gD.out, r3, r4⟩
              case measure => simp [intOf]; omega
          · have gS : Hid (low za (k + 1) = 0 * pw k + low za k) := low_past _ _ _ e0.out (by omega)
            obtain ⟨r1, r2, r3, r4⟩ := row_right ((c + p) % 10) (show lb + 1 = j + (k + 1) by omega) hT.out.1 ho hb
            have HJ : Hid (lb = j + k ∧ lb = j1 + (k + 1)) := ⟨hj, hjO⟩
            clear hj hjO ho hb
            go_wp2
            go_roundw
            case rel => exact ⟨k + 1, (c + p) / 10, (c + p) % 10 :: T, by omega, by go_num, rfl, by omega, by omega, add_rel hT.out (show c + p = c + 0 + p by omega) (by omega) gS.out gD.out, r3, r4⟩
            case measure => simp [intOf]; omega
      · have hkn : k = lb := by omega
        subst hkn
        obtain ⟨t1, t2⟩ := add_end hT.out hc0 hc1 (by rw [e0.out]; omega) (by rw [e1.out]; omega)
        have T1 : Hid (Dig (c :: T)) := t1
        have T2 : Hid (val (c :: T) = val za + val zb) := t2
        have T3 : Hid (T.length = k) := hT.out.1
        obtain ⟨r1, r2, r3, r4⟩ := row_right c (show k + 1 = 0 + (k + 1) by omega) hT.out.1 ho hb
        clear t1 t2 hT ho hb
        go_wp2
        go_ret
        refine ⟨_, c :: T, rfl, ?_, by rw [List.length_cons, T3.out]; omega, T1.out, T2.out, r4⟩
        rw [Nat.sub_self] at r3
        unfold OwnB
        rw [List.length_cons, T3.out]
        exact r3

theorem add17 (a0 a1 : Option Addr) (la lb c0 c1 : Nat) (za zb : List Int) (w : World) (h0 : RdB w a0 la za) (h1 : RdB w a1 lb zb) (m0 : la ≤ 65536) (m1 : lb ≤ 65536) (da : Dig za) (db : Dig zb) :
    Calls Try.prog 17 #[.slice a0 la c0, .slice a1 lb c1] w fun e w' => ∃ v T, e = .returned v ∧ OwnB w' w.heap.size v T ∧ T.length ≤ la + lb + 1 ∧ Dig T ∧ val T = val za + val zb ∧ Below w.heap.size w w' := by
  rcases Nat.lt_or_ge la lb with h | h
  · exact add17_lt a0 a1 la lb c0 c1 za zb w h0 h1 m0 m1 da db h
  · exact add17_ge a0 a1 la lb c0 c1 za zb w h0 h1 m0 m1 da db h
end Go.Proofs.Qxb6600112a
