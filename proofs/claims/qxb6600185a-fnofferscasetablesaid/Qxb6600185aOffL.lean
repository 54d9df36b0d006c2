/-
  zzOffersModel (15).
-/
import Derived.Test.Qxb6600185aOffK
namespace Go.Proofs.Qxb6600185a
open Go.RowKit

theorem RdZ.at {w : World} {a : Option Addr} {n k : Nat} {zs : List Zt} (h : RdZ w a n zs) (hk : k < n) : ∃ b off, a = some ⟨b, off, none⟩ ∧ b < w.heap.size ∧ ZtAt w b off k (zs[k]?.getD (0, 0, 0)) := by
  rcases h.cases with h0 | ⟨_, b, off, e, h1, h2⟩
  · omega
  · exact ⟨b, off, e, h1, h2 k hk⟩

set_option maxHeartbeats 4000000 in
theorem model15 (p1 p2 : Int) (a b : Option Addr) (n c m d : Nat) (zs ys : List Zt) (w : World) (h : RdZ w a n zs) (h' : RdZ w b m ys) (hn : n ≤ 65536) (hm : m ≤ 65536) :
    Calls Try.prog 15 #[.int .u8 p1, .slice a n c, .int .u8 p2, .slice b m d] w fun e w' => e = .returned (.bool (modelB p1 zs p2 ys)) ∧ Below w.heap.size w w' := by
  have hl : Hid (zs.length = n) := h.len
  have hl' : Hid (ys.length = m) := h'.len
  have H : Hid (RdZ w a n zs) := h
  have H' : Hid (RdZ w b m ys) := h'
  clear h h'
  by_cases hp : p1 = p2
  · subst hp
    have HM : Hid (modelB p1 zs p1 ys = (zs.all (m1 ys) && (ys.all (m2 zs) && mEnd (hasTy zs 4) (hasTy ys 4) zs ys))) := by show _ = _; unfold modelB; simp
    go_enter Try.func15, Try.ntmps15
    go_wp2
    go_loopw [9] (fun i wr => ∃ k : Nat, k ≤ n ∧ i = .int .i64 k ∧ Hid ((zs.take k).all (m1 ys) = true) ∧ Below w.heap.size w wr) (fun i _ => n - (intOf i).toNat)
    case atStart => exact ⟨0, Nat.zero_le _, rfl, rfl, Below.refl _ _⟩
    case round =>
      obtain ⟨k, hk, rfl, hz, hb⟩ := hrel
      by_cases hlt : k < n
      · obtain ⟨g, off, e2, hbl, hc⟩ := H.out.at hlt
        subst e2
        obtain ⟨q1, q2, q3⟩ := hc.later hb hbl
        have hi1 : (k : Int) < (n : Int) := by omega
        have HN : Hid (m1 ys (zs[k]?.getD (0, 0, 0)) = true → (zs.take (k + 1)).all (m1 ys) = true) := allF_take (by rw [hl.out]; exact hlt) hz.out
        have HY : Hid (m1 ys (zs[k]?.getD (0, 0, 0)) = false → zs.all (m1 ys) = false) := allF_bad (by rw [hl.out]; exact hlt)
        clear hc
        generalize zs[k]?.getD (0, 0, 0) = t at *
        obtain ⟨x, y, z⟩ := t
        by_cases hx : x = 4
        · have HF : Hid ((zs.take (k + 1)).all (m1 ys) = true) := HN.out (by rw [hx]; rfl)
          have hq : (x != 4) = false := by simp [hx]
          clear HN HY hx
          go_wp2
          go_roundw
          case rel => exact ⟨k + 1, by omega, by go_num, HF, hb⟩
          case measure => simp [intOf]; omega
        · have hq : (x != 4) = true := by simp [hx]
          have HE : Hid (m1 ys (x, y, z) = hasTy ys x) := by show (x == 4 || hasTy ys x) = _; rw [beq_eq_false_iff_ne.2 hx, Bool.false_or]
          clear hx
          go_wp2_with fail
          refine (hasType19 b m d ys x wr (H'.out.later hb) (by omega)).mono ?_
          rintro e w1 ⟨rfl, rfl⟩
          cases hT : hasTy ys x with
          | true =>
            have HF : Hid ((zs.take (k + 1)).all (m1 ys) = true) := HN.out (by rw [HE.out, hT])
            clear HN HY HE hT
            go_wp2
            go_roundw
            case rel => exact ⟨k + 1, by omega, by go_num, HF, hb⟩
            case measure => simp [intOf]; omega
          | false =>
            have HF : Hid (zs.all (m1 ys) = false) := HY.out (by rw [HE.out, hT])
            clear HN HY HE hT
            go_wp2
            go_ret
            exact ⟨ret_b (by rw [HM.out, HF.out]; rfl), hb⟩
      · have HF : Hid (zs.all (m1 ys) = true) := by have := hz.out; rwa [List.take_of_length_le (by rw [hl.out]; omega)] at this
        have HM2 : Hid (modelB p1 zs p1 ys = (ys.all (m2 zs) && mEnd (hasTy zs 4) (hasTy ys 4) zs ys)) := by show _ = _; rw [HM.out, HF.out, Bool.true_and]
        clear HF HM hz
        go_wp2
        go_loopw [10] (fun i wr => ∃ k : Nat, k ≤ m ∧ i = .int .i64 k ∧ Hid ((ys.take k).all (m2 zs) = true) ∧ Below w.heap.size w wr) (fun i _ => m - (intOf i).toNat)
        case atStart => exact ⟨0, Nat.zero_le _, rfl, rfl, hb⟩
        case round =>
          clear hb hk hlt
          obtain ⟨k, hk, rfl, hz, hb⟩ := hrel
          by_cases hlt : k < m
          · obtain ⟨g, off, e2, hbl, hc⟩ := H'.out.at hlt
            subst e2
            obtain ⟨q1, q2, q3⟩ := hc.later hb hbl
            have hi1 : (k : Int) < (m : Int) := by omega
            have HN : Hid (m2 zs (ys[k]?.getD (0, 0, 0)) = true → (ys.take (k + 1)).all (m2 zs) = true) := allF_take (by rw [hl'.out]; exact hlt) hz.out
            have HY : Hid (m2 zs (ys[k]?.getD (0, 0, 0)) = false → ys.all (m2 zs) = false) := allF_bad (by rw [hl'.out]; exact hlt)
            clear hc
            generalize ys[k]?.getD (0, 0, 0) = t at *
            obtain ⟨x, y, z⟩ := t
            by_cases hx : x = 4
            · have HF : Hid ((ys.take (k + 1)).all (m2 zs) = true) := HN.out (by rw [hx]; rfl)
              have hq : (x == 4) = true := by simp [hx]
              clear HN HY hx
              go_wp2
              go_roundw
              case rel => exact ⟨k + 1, by omega, by go_num, HF, hb⟩
              case measure => simp [intOf]; omega
            · have hq : (x == 4) = false := by simp [hx]
              have HE : Hid (m2 zs (x, y, z) = hasZ zs (x, y, z)) := by show (x == 4 || hasZ zs (x, y, z)) = _; rw [beq_eq_false_iff_ne.2 hx, Bool.false_or]
              clear hx
              go_wp2_with fail
              refine (hasZT35 a n c zs x y z wr (H.out.later hb) (by omega)).mono ?_
              rintro e w1 ⟨rfl, b1⟩
              have hb1 := hb.trans (b1.mono hb.size)
              cases hT : hasZ zs (x, y, z) with
              | true =>
                have HF : Hid ((ys.take (k + 1)).all (m2 zs) = true) := HN.out (by rw [HE.out, hT])
                clear HN HY HE hT b1 hb
                go_wp2
                go_roundw
                case rel => exact ⟨k + 1, by omega, by go_num, HF, hb1⟩
                case measure => simp [intOf]; omega
              | false =>
                have HF : Hid (ys.all (m2 zs) = false) := HY.out (by rw [HE.out, hT])
                clear HN HY HE hT b1 hb
                go_wp2
                go_ret
                exact ⟨ret_b (by rw [HM2.out, HF.out]; rfl), hb1⟩
          · have HF : Hid (ys.all (m2 zs) = true) := by have := hz.out; rwa [List.take_of_length_le (by rw [hl'.out]; omega)] at this
            have HM3 : Hid (modelB p1 zs p1 ys = mEnd (hasTy zs 4) (hasTy ys 4) zs ys) := by show _ = _; rw [HM2.out, HF.out, Bool.true_and]
            clear HF HM2 hz
            go_wp2_with fail
            refine (hasType19 a n c zs 4 wr (H.out.later hb) (by omega)).mono ?_
            rintro e w1 ⟨rfl, rfl⟩
            go_wp2_with fail
            refine (hasType19 b m d ys 4 w1 (H'.out.later hb) (by omega)).mono ?_
            rintro e w2 ⟨rfl, rfl⟩
            cases hP : hasTy ys 4 with
            | false =>
              cases hO : hasTy zs 4 with
              | false =>
                have HF : Hid (modelB p1 zs p1 ys = true) := by show _ = _; rw [HM3.out, hP, hO]; rfl
                clear hP hO HM3
                go_wp2
                go_ret
                exact ⟨ret_b HF.out.symm, hb⟩
              | true =>
                have HF : Hid (modelB p1 zs p1 ys = hasZ zs (4, 0, 0)) := by show _ = _; rw [HM3.out, hP, hO]; rfl
                clear hP hO HM3
                go_wp2_with fail
                refine (hasZT35 a n c zs 4 0 0 w2 (H.out.later hb) (by omega)).mono ?_
                rintro e w3 ⟨rfl, b3⟩
                have hb3 := hb.trans (b3.mono hb.size)
                clear b3 hb
                go_wp2
                go_ret
                exact ⟨ret_b HF.out.symm, hb3⟩
            | true =>
              obtain ⟨ho, hO⟩ : ∃ ho, hasTy zs 4 = ho := ⟨_, rfl⟩
              have HM4 : Hid (modelB p1 zs p1 ys = ys.all (m3 ho zs)) := by show _ = _; rw [HM3.out, hP, hO]; rfl
              rw [hO]
              clear hP hO HM3
              cases ho with
              | true =>
                go_wp2
                go_loopw [13] (fun i wr => ∃ k : Nat, k ≤ m ∧ i = .int .i64 k ∧ Hid ((ys.take k).all (m3 true zs) = true) ∧ Below w.heap.size w wr) (fun i _ => m - (intOf i).toNat)
                case atStart => exact ⟨0, Nat.zero_le _, rfl, rfl, hb⟩
                case round =>
                  clear hb hk hlt
                  obtain ⟨k, hk, rfl, hz, hb⟩ := hrel
                  by_cases hlt : k < m
                  · obtain ⟨g, off, e2, hbl, hc⟩ := H'.out.at hlt
                    subst e2
                    obtain ⟨q1, q2, q3⟩ := hc.later hb hbl
                    have hi1 : (k : Int) < (m : Int) := by omega
                    have HN : Hid (m3 true zs (ys[k]?.getD (0, 0, 0)) = true → (ys.take (k + 1)).all (m3 true zs) = true) := allF_take (by rw [hl'.out]; exact hlt) hz.out
                    have HY : Hid (m3 true zs (ys[k]?.getD (0, 0, 0)) = false → ys.all (m3 true zs) = false) := allF_bad (by rw [hl'.out]; exact hlt)
                    have hbA := fun o => hb.alloc hb.size o
                    have HBA : Hid (∀ o, Below w.heap.size w (wr.alloc o)) := hbA
                    clear hc hbA
                    generalize ys[k]?.getD (0, 0, 0) = t at *
                    obtain ⟨x, y, z⟩ := t
                    by_cases hx : x = 4
                    · have HE : Hid (m3 true zs (x, y, z) = hasZ zs (x, y, z)) := by show (!(x == 4) || hasZ zs (x, y, z)) = _; rw [beq_iff_eq.2 hx]; rfl
                      have hq : (x != 4) = false := by simp [hx]
                      clear hx
                      go_wp2_with fail
                      refine (hasZT35 a n c zs x y z _ (H.out.later (HBA.out _)) (by omega)).mono ?_
                      rintro e w5 ⟨rfl, b5⟩
                      have hb5 := (HBA.out _).trans (b5.mono (HBA.out _).size)
                      cases hT : hasZ zs (x, y, z) with
                      | true =>
                        have HF : Hid ((ys.take (k + 1)).all (m3 true zs) = true) := HN.out (by rw [HE.out, hT])
                        clear HN HY HE hT b5 hb HBA
                        go_wp2
                        go_roundw
                        case rel => exact ⟨k + 1, by omega, by go_num, HF, hb5⟩
                        case measure => simp [intOf]; omega
                      | false =>
                        have HF : Hid (ys.all (m3 true zs) = false) := HY.out (by rw [HE.out, hT])
                        clear HN HY HE hT b5 hb HBA
                        go_wp2
                        go_ret
                        exact ⟨ret_b (by rw [HM4.out, HF.out]), hb5⟩
                    · have HF : Hid ((ys.take (k + 1)).all (m3 true zs) = true) := HN.out (by show (!(x == 4) || _) = _; rw [beq_eq_false_iff_ne.2 hx]; rfl)
                      have hq : (x != 4) = true := by simp [hx]
                      clear HN HY hx
                      go_wp2
                      go_roundw
                      case rel => exact ⟨k + 1, by omega, by go_num, HF, HBA.out _⟩
                      case measure => simp [intOf]; omega
                  · have HF : Hid (ys.all (m3 true zs) = true) := by have := hz.out; rwa [List.take_of_length_le (by rw [hl'.out]; omega)] at this
                    go_wp2
                    go_ret
                    exact ⟨ret_b (by rw [HM4.out, HF.out]), hb⟩
              | false =>
                go_wp2
                go_loopw [13] (fun i wr => ∃ k : Nat, k ≤ m ∧ i = .int .i64 k ∧ Hid ((ys.take k).all (m3 false zs) = true) ∧ Below w.heap.size w wr) (fun i _ => m - (intOf i).toNat)
                case atStart => exact ⟨0, Nat.zero_le _, rfl, rfl, hb⟩
                case round =>
                  clear hb hk hlt
                  obtain ⟨k, hk, rfl, hz, hb⟩ := hrel
                  by_cases hlt : k < m
                  · obtain ⟨g, off, e2, hbl, hc⟩ := H'.out.at hlt
                    subst e2
                    obtain ⟨q1, q2, q3⟩ := hc.later hb hbl
                    have hi1 : (k : Int) < (m : Int) := by omega
                    have HN : Hid (m3 false zs (ys[k]?.getD (0, 0, 0)) = true → (ys.take (k + 1)).all (m3 false zs) = true) := allF_take (by rw [hl'.out]; exact hlt) hz.out
                    have HY : Hid (m3 false zs (ys[k]?.getD (0, 0, 0)) = false → ys.all (m3 false zs) = false) := allF_bad (by rw [hl'.out]; exact hlt)
                    have hbA := fun o => hb.alloc hb.size o
                    have HBA : Hid (∀ o, Below w.heap.size w (wr.alloc o)) := hbA
                    clear hc hbA
                    generalize ys[k]?.getD (0, 0, 0) = t at *
                    obtain ⟨x, y, z⟩ := t
                    by_cases hx : x = 4
                    · have HE : Hid (m3 false zs (x, y, z) = (y == 0 && z == 0)) := by show (!(x == 4) || _) = _; rw [beq_iff_eq.2 hx]; rfl
                      have hq : (x != 4) = false := by simp [hx]
                      clear hx
                      by_cases hy : y = 0
                      · have hqy : (y != 0) = false := by simp [hy]
                        by_cases hzz : z = 0
                        · have hqz : (z != 0) = false := by simp [hzz]
                          have HF : Hid ((ys.take (k + 1)).all (m3 false zs) = true) := HN.out (by rw [HE.out, hy, hzz]; rfl)
                          clear HN HY HE hy hzz
                          go_wp2
                          go_roundw
                          case rel => exact ⟨k + 1, by omega, by go_num, HF, HBA.out _⟩
                          case measure => simp [intOf]; omega
                        · have hqz : (z != 0) = true := by simp [hzz]
                          have HF : Hid (ys.all (m3 false zs) = false) := HY.out (by rw [HE.out, hy]; simp [hzz])
                          clear HN HY HE hy hzz
                          go_wp2
                          go_ret
                          exact ⟨ret_b (by rw [HM4.out, HF.out]), HBA.out _⟩
                      · have hqy : (y != 0) = true := by simp [hy]
                        have HF : Hid (ys.all (m3 false zs) = false) := HY.out (by rw [HE.out]; simp [hy])
                        clear HN HY HE hy
                        go_wp2
                        go_ret
                        exact ⟨ret_b (by rw [HM4.out, HF.out]), HBA.out _⟩
                    · have HF : Hid ((ys.take (k + 1)).all (m3 false zs) = true) := HN.out (by show (!(x == 4) || _) = _; rw [beq_eq_false_iff_ne.2 hx]; rfl)
                      have hq : (x != 4) = true := by simp [hx]
                      clear HN HY hx
                      go_wp2
                      go_roundw
                      case rel => exact ⟨k + 1, by omega, by go_num, HF, HBA.out _⟩
                      case measure => simp [intOf]; omega
                  · have HF : Hid (ys.all (m3 false zs) = true) := by have := hz.out; rwa [List.take_of_length_le (by rw [hl'.out]; omega)] at this
                    go_wp2
                    go_ret
                    exact ⟨ret_b (by rw [HM4.out, HF.out]), hb⟩
  · have HM : Hid (modelB p1 zs p2 ys = false) := by show _ = _; unfold modelB; simp [hp]
    have hq : (p1 != p2) = true := bne_iff_ne.2 hp
    clear hp
    go_enter Try.func15, Try.ntmps15
    go_wp2
    go_ret
    exact ⟨ret_b HM.out.symm, Below.refl _ _⟩
end Go.Proofs.Qxb6600185a
