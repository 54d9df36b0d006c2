/-
  MulNum (18).
-/
import Derived.Test.Qxb6600112aDivD
import Derived.Test.Qxb6600112aDigitsM
import Derived.BigRegion
namespace Go.Proofs.Qxb6600112a
open Go.RowKit Dg

theorem Try.info3 : (Try.prog.info? 3).map (fun i => (i.zero, i.size, i.bytes)) = some (some (.int .i64 0), 1, 8) := by kernel_rfl

def intV (zs : List Int) : List Value := zs.map (Value.int .i64)
theorem intV_len (zs : List Int) : (intV zs).length = zs.length := by simp [intV]
theorem intV_at (zs : List Int) (k : Nat) (h : k < zs.length) : (intV zs)[k]? = some (.int .i64 (zs[k]?.getD 0)) := by simp [intV, h]
theorem intV_set (a : List Int) (k : Nat) (x : Int) : intV (a.set k x) = (intV a).set k (.int .i64 x) := by simp [intV, List.map_set]

/-- The row of ints, owned at its head. -/
def OwnI (w : World) (B n : Nat) (acc : List Int) : Prop := w.ownsRow B 3 1 (.slice (some ⟨B, 0, none⟩) n n) n (intV acc)

theorem OwnI.cell {w : World} {B n : Nat} {acc : List Int} (h : OwnI w B n acc) (hl : acc.length = n) (k : Nat) (hk : k < n) : w.cell? ⟨B, k, none⟩ = some (.int .i64 (acc[k]?.getD 0)) ∧ w.frozen? ⟨B, k, none⟩ = false :=
  ⟨by rw [h.cellAt k (by omega)]; exact intV_at _ _ (by omega), h.frozenAt k⟩
theorem OwnI.store {w : World} {B n : Nat} {acc : List Int} (h : OwnI w B n acc) (k : Nat) (x : Int) : OwnI (w.setCell ⟨B, k, none⟩ (.int .i64 x)) B n (acc.set k x) := by
  unfold OwnI
  rw [intV_set]
  exact (World.ownsRow.stored h k _).1

theorem OwnI.drew {w : World} {B n : Nat} {acc : List Int} (h : OwnI w B n acc) : OwnI w.drew B n acc := h

/-- Bounds on a row. -/
def Bd (acc : List Int) (M : Int) : Prop := ∀ i : Nat, 0 ≤ acc[i]?.getD 0 ∧ acc[i]?.getD 0 ≤ M
theorem Bd.set {acc : List Int} {M M' : Int} (h : Bd acc M) (hM : M ≤ M') (k : Nat) (x : Int) (hx : 0 ≤ x ∧ x ≤ M') : Bd (acc.set k x) M' := by
  intro i
  rw [List.getElem?_set]
  have := h i
  split
  · split
    · exact hx
    · simp; omega
  · omega
theorem Bd.mono {acc : List Int} {M M' : Int} (h : Bd acc M) (hM : M ≤ M') : Bd acc M' := fun i => ⟨(h i).1, by have := (h i).2; omega⟩
theorem Bd.zeros (n : Nat) : Bd (List.replicate n 0) 0 := by
  intro i
  rw [List.getElem?_replicate]
  split <;> simp

/-- A row of zeros is the number 0. -/
theorem val_zeros (n : Nat) : val (List.replicate n 0) = 0 := by
  induction n with
  | zero => rfl
  | succ n ih => rw [List.replicate_succ, val_cons, ih]; omega

theorem OwnB.mono {w : World} {base base' : Nat} {v : Value} {ss : List Int} (h : OwnB w base v ss) (hb : base' ≤ base) : OwnB w base' v ss := by
  refine ⟨h.1, ?_⟩
  rcases h.2 with h0 | ⟨g, cap, cur, rfl, hg, r⟩
  · exact .inl h0
  · exact .inr ⟨g, cap, cur, rfl, by omega, r⟩

structure MulIn (za zb : List Int) (la lb i j : Nat) (acc : List Int) : Prop where
  len : acc.length = la + lb
  num : val acc = top za i * val zb + za[i]?.getD 0 * pw (la - (i + 1)) * top zb j
  bd : Bd acc (331776 * i + 81 * j)
structure MulOut (za zb : List Int) (la lb i : Nat) (acc : List Int) : Prop where
  len : acc.length = la + lb
  num : val acc = top za i * val zb
  bd : Bd acc (331776 * i)

theorem MulOut.enter {za zb acc : List Int} {la lb i : Nat} (h : MulOut za zb la lb i acc) : MulIn za zb la lb i 0 acc :=
  ⟨h.len, by rw [h.num, top_zero]; omega, by have := h.bd; intro k; have := this k; omega⟩
theorem MulIn.leave {za zb acc : List Int} {la lb i j : Nat} (h : MulIn za zb la lb i j acc) (ha : za.length = la) (hb : zb.length = lb) (hi : i < la) (hj : j = lb) (hm : lb ≤ 4096) : MulOut za zb la lb (i + 1) acc := by
  subst hj
  refine ⟨h.len, ?_, h.bd.mono (by omega)⟩
  rw [h.num, top_all zb _ (by omega), mul_row ha hi]
theorem MulIn.step {za zb acc : List Int} {la lb i j : Nat} (h : MulIn za zb la lb i j acc) (hb : zb.length = lb) (hi : i < la) (hj : j < lb) (x : Int) (hx : x = acc[i + j + 1]?.getD 0 + za[i]?.getD 0 * zb[j]?.getD 0)
    (hxy : 0 ≤ za[i]?.getD 0 * zb[j]?.getD 0 ∧ za[i]?.getD 0 * zb[j]?.getD 0 ≤ 81) : MulIn za zb la lb i (j + 1) (acc.set (i + j + 1) x) := by
  subst hx
  refine ⟨by simpa using h.len, mul_step hb h.len hi hj h.num, h.bd.set (by omega) _ _ ?_⟩
  have := h.bd (i + j + 1)
  omega

theorem prod_le {x y : Int} (hx : 0 ≤ x ∧ x ≤ 9) (hy : 0 ≤ y ∧ y ≤ 9) : 0 ≤ x * y ∧ x * y ≤ 81 := by
  refine ⟨Int.mul_nonneg hx.1 hy.1, ?_⟩
  have h1 := Int.mul_le_mul_of_nonneg_right hx.2 hy.1
  omega

set_option maxHeartbeats 2000000 in
theorem mul18 (a0 a1 : Option Addr) (la lb c0 c1 : Nat) (za zb : List Int) (w : World) (h0 : RdB w a0 la za) (h1 : RdB w a1 lb zb) (m0 : la ≤ 4096) (m1 : lb ≤ 4096) (hlb : 0 < lb) (da : Dig za) (db : Dig zb) :
    Calls Try.prog 18 #[.slice a0 la c0, .slice a1 lb c1] w fun e w' => ∃ v T, e = .returned v ∧ OwnB w' w.heap.size v T ∧ T.length ≤ 8192 ∧ Dig T ∧ val T = val za * val zb ∧ Below w.heap.size w w' := by
  have e0 : Hid (za.length = la) := h0.len
  have e1 : Hid (zb.length = lb) := h1.len
  have H0 : Hid (RdB w a0 la za) := h0
  have H1 : Hid (RdB w a1 lb zb) := h1
  have l0 := h0.nil
  have DA : Hid (Dig za) := da
  have DB : Hid (Dig zb) := db
  obtain ⟨i0, hi, hz0, hz1, hz2⟩ := info_parts Try.info5
  obtain ⟨i3, hi3, hy0, hy1, hy2⟩ := info_parts Try.info3
  rcases a1 with _ | x1
  · have := h1.nil rfl; omega
  clear h0 h1 da db
  rcases a0 with _ | x0
  all_goals
    first | (have y0 : la ≤ 0 := Nat.le_of_eq (l0 rfl)) | skip
    clear l0
    go_enter Try.func18, Try.ntmps18
    go_wp2_with (first | (at_make; refine wpList_make_full _ rfl _ _ 44 rfl w.heap.size 3 i3 (.int .i64 0) 1 Try.underlying44 hi3 hy0 hy1 .i64 .i64 _ _ (la + lb) rfl rfl (by omega) (by omega) (by rw [hy2]; omega) (by unfold maxLen; omega) (Nat.le_refl _) ?_) | go_in)
    intro w1 ho hg
    have hb : Below w.heap.size w w1 := (Below.refl _ _).grown hg (Nat.le_refl _) (by simp)
    have ho0 : OwnI w1 w.heap.size (la + lb) (List.replicate (la + lb) 0) := by
      rw [toList_madeCells_one] at ho
      simpa [intV, OwnI] using ho
    have hM0 : MulOut za zb la lb 0 (List.replicate (la + lb) 0) := ⟨by simp, by rw [val_zeros, top_zero]; omega, Bd.zeros _⟩
    clear ho hg
    go_wp2
    go_loopw [6] (fun iv wr => ∃ (i : Nat) (acc : List Int), i ≤ la ∧ iv = .int .i64 i ∧ MulOut za zb la lb i acc ∧ OwnI wr w.heap.size (la + lb) acc ∧ Below w.heap.size w wr) (fun iv _ => la - (intOf iv).toNat)
    case atStart => exact ⟨0, _, Nat.zero_le _, rfl, hM0, ho0, hb⟩
    case round =>
      clear ho0 hb hM0
      obtain ⟨i, acc, hi1, rfl, hM, ho, hb⟩ := hrel
      by_cases hlt : i < la
      · try (exfalso; omega)
        all_goals
          have hM' := hM.enter
          clear hM
          go_wp2
          go_loopw [7] (fun jv wr => ∃ (j : Nat) (acc : List Int), j ≤ lb ∧ jv = .int .i64 j ∧ MulIn za zb la lb i j acc ∧ OwnI wr w.heap.size (la + lb) acc ∧ Below w.heap.size w wr) (fun jv _ => lb - (intOf jv).toNat)
          case atStart => exact ⟨0, _, Nat.zero_le _, rfl, hM', ho, hb⟩
          case round =>
            clear ho hb hM'
            obtain ⟨j, acc, hj1, rfl, hM, ho, hb⟩ := hrel
            by_cases hltj : j < lb
            · have hx := DA.out.at i
              have hy := DB.out.at j
              have hxy := prod_le hx hy
              have kx := (H0.out.later hb).cell x0 rfl i hlt
              have ky := (H1.out.later hb).cell x1 rfl j hltj
              obtain ⟨kc, kf⟩ := ho.cell hM.len (i + j + 1) (by omega)
              have hacc := hM.bd (i + j + 1)
              have hS := hM.step e1.out hlt hltj _ rfl hxy
              have hO := ho.store (i + j + 1) (acc[i + j + 1]?.getD 0 + za[i]?.getD 0 * zb[j]?.getD 0)
              have hB := hb.setCell (p := ⟨w.heap.size, i + j + 1, none⟩) (Nat.le_refl _) (.int .i64 (acc[i + j + 1]?.getD 0 + za[i]?.getD 0 * zb[j]?.getD 0))
              have HS : Hid (MulIn za zb la lb i (j + 1) (acc.set (i + j + 1) (acc[i + j + 1]?.getD 0 + za[i]?.getD 0 * zb[j]?.getD 0))) := hS
              have g1 : (0 : Int) ≤ (i : Int) + (j : Int) + 1 := by omega
              have g2 : (i : Int) + (j : Int) + 1 < (la : Int) + (lb : Int) := by omega
              have g3 : (i : Int) < (la : Int) := by omega
              have g4 : (j : Int) < (lb : Int) := by omega
              clear hS hM ho hb
              generalize hX : za[i]?.getD 0 = x at *
              generalize hY : zb[j]?.getD 0 = y at *
              generalize hZ : acc[i + j + 1]?.getD 0 = z at *
              have HX : Hid (za[i]?.getD 0 = x ∧ zb[j]?.getD 0 = y ∧ acc[i + j + 1]?.getD 0 = z) := ⟨hX, hY, hZ⟩
              clear hX hY hZ
              go_wp2
              go_region
              go_wp2
              go_roundw
              case rel => exact ⟨j + 1, _, by omega, by go_num, HS.out, hO.drew, hB.drew⟩
              case measure => simp [intOf]; omega
            · have hM' := hM.leave e0.out e1.out hlt (by omega) m1
              clear hM
              go_wp2
              go_roundw
              case rel => exact ⟨i + 1, _, by omega, by go_num, hM', ho, hb⟩
              case measure => simp [intOf]; omega
      · have hC : Carried acc (la + lb - 1) 1400000000 ∧ val acc = val za * val zb ∧ acc.length = la + lb := by
          have hbd := hM.bd
          refine ⟨⟨fun t _ => ?_, ?_, fun t ht => ?_⟩, ?_, hM.len⟩
          · have := hbd t; omega
          · have := hbd (la + lb - 1); omega
          · rw [List.getElem?_eq_none (by rw [hM.len]; omega)]; simp
          · rw [hM.num, top_all za _ (by rw [e0.out]; omega)]
        have HC : Hid (Carried acc (la + lb - 1) 1400000000 ∧ val acc = val za * val zb ∧ acc.length = la + lb) := hC
        clear hC hM
        go_wp2
        go_loopw [8] (fun kv wr => ∃ (k : Nat) (acc : List Int), k ≤ la + lb - 1 ∧ kv = .int .i64 k ∧ Hid (Carried acc k 1400000000 ∧ val acc = val za * val zb ∧ acc.length = la + lb) ∧ OwnI wr w.heap.size (la + lb) acc ∧ Below w.heap.size w wr) (fun kv _ => (intOf kv).toNat)
        case atStart => exact ⟨la + lb - 1, acc, Nat.le_refl _, by go_num, HC, ho, hb⟩
        case round =>
          clear HC ho hb
          obtain ⟨k, acc, hk1, rfl, HC, ho, hb⟩ := hrel
          by_cases hk0 : 0 < k
          · obtain ⟨k', hk'⟩ : ∃ k', k = k' + 1 := ⟨k - 1, by omega⟩
            subst hk'
            obtain ⟨hc, hv, hl⟩ := HC.out
            obtain ⟨kp, fp⟩ := ho.cell hl k' (by omega)
            obtain ⟨kq, fq⟩ := ho.cell hl (k' + 1) (by omega)
            have bp := hc.below k' (by omega)
            have bq := hc.here
            have N1 : Hid (Carried (carry1 acc k') k' 1400000000 ∧ val (carry1 acc k') = val za * val zb ∧ (carry1 acc k').length = la + lb) :=
              ⟨hc.step (by omega), by rw [carry1_val _ _ (by omega)]; exact hv, by rw [carry1_len]; exact hl⟩
            have N2 := (ho.store k' (acc[k']?.getD 0 + acc[k' + 1]?.getD 0 / 10)).store (k' + 1) (acc[k' + 1]?.getD 0 % 10)
            have N3 := (hb.setCell (p := ⟨w.heap.size, k', none⟩) (Nat.le_refl _) (.int .i64 (acc[k']?.getD 0 + acc[k' + 1]?.getD 0 / 10))).setCell (p := ⟨w.heap.size, k' + 1, none⟩) (Nat.le_refl _) (.int .i64 (acc[k' + 1]?.getD 0 % 10))
            have N2' : Hid (OwnI ((wr.setCell ⟨w.heap.size, k', none⟩ (.int .i64 (acc[k']?.getD 0 + acc[k' + 1]?.getD 0 / 10))).setCell ⟨w.heap.size, k' + 1, none⟩ (.int .i64 (acc[k' + 1]?.getD 0 % 10))) w.heap.size (la + lb) (carry1 acc k')) := N2
            clear HC hc hv hl ho hb N2
            generalize hP : acc[k']?.getD 0 = p at *
            generalize hQ : acc[k' + 1]?.getD 0 = q at *
            clear hP hQ
            have g1 : (k' : Int) < (la : Int) + (lb : Int) := by omega
            have g2 : (k' : Int) + 1 < (la : Int) + (lb : Int) := by omega
            have g3 : (0 : Int) ≤ (k' : Int) + 1 := by omega
            go_wp2
            go_region
            go_wp2
            go_roundw
            case rel => exact ⟨k', _, by omega, by go_num, N1, N2'.out.drew, N3.drew⟩
            case measure => simp [intOf]
          · have hk00 : k = 0 := by omega
            subst hk00
            obtain ⟨W0, eW⟩ : ∃ W, W = wr := ⟨_, rfl⟩
            subst eW
            obtain ⟨hc, hv, hl⟩ := HC.out
            have hD : Dig acc := hc.dig (by rw [hv, hl, ← e0.out, ← e1.out]; exact mul_fits DA.out DB.out)
            have HD : Hid (Dig acc ∧ val acc = val za * val zb ∧ acc.length = la + lb) := ⟨hD, hv, hl⟩
            have hcell : ∀ t, t < la + lb → W0.cell? ⟨w.heap.size, t, none⟩ = some (.int .i64 (acc[t]?.getD 0)) := fun t ht => (ho.cell hl t ht).1
            have hblk : w.heap.size < W0.heap.size := World.block_lt_of_cell? W0 ⟨w.heap.size, 0, none⟩ (hcell 0 (by omega))
            have HCell : Hid (∀ t, t < la + lb → W0.cell? ⟨w.heap.size, t, none⟩ = some (.int .i64 (acc[t]?.getD 0))) := hcell
            clear hc hv hl hD HC ho hcell
            go_wp2_with (first | (at_make; refine wpList_make_full _ rfl _ _ 22 rfl W0.heap.size 5 i0 (.int .u8 0) 1 Try.underlying22 hi hz0 hz1 .i64 .i64 _ _ (la + lb) rfl rfl (by omega) (by omega) (by rw [hz2]; omega) (by unfold maxLen; omega) (Nat.le_refl _) ?_) | go_in)
            intro w2 ho hg
            have hb2 : Below W0.heap.size W0 w2 := (Below.refl _ _).grown hg (Nat.le_refl _) (by simp)
            have ho0 : w2.ownsRow W0.heap.size 5 1 (.slice (some ⟨W0.heap.size, 0, none⟩) (la + lb) (la + lb)) (la + lb) (bytV (fillB acc 0)) := by
              rw [fillB_zero, HD.out.2.2]
              rw [toList_madeCells_one] at ho
              simpa [bytV] using ho
            clear ho hg
            go_wp2
            go_loopw [10] (fun kv wx => ∃ k : Nat, k ≤ la + lb ∧ kv = .int .i64 k ∧ wx.ownsRow W0.heap.size 5 1 (.slice (some ⟨W0.heap.size, 0, none⟩) (la + lb) (la + lb)) (la + lb) (bytV (fillB acc k)) ∧ Below W0.heap.size W0 wx) (fun kv _ => la + lb - (intOf kv).toNat)
            case atStart => exact ⟨0, Nat.zero_le _, rfl, ho0, hb2⟩
            case round =>
              clear ho0 hb2
              obtain ⟨k, hk, rfl, ho, hb3⟩ := hrel
              have hl := HD.out.2.2
              by_cases hlt : k < la + lb
              · obtain ⟨q1, q2, q3, q4⟩ := row_store (u := .int .u8 (acc[k]?.getD 0)) ho hlt (bytV_at _ _ (by rw [fillB_len _ _ (by omega)]; omega)) hb3
                rw [← bytV_set, fillB_step _ _ (by omega)] at q3
                have q5 : wr.cell? ⟨w.heap.size, k, none⟩ = some (.int .i64 (acc[k]?.getD 0)) := (hb3.cell (p := ⟨w.heap.size, k, none⟩) hblk).trans (HCell.out k hlt)
                have hd := HD.out.1.at k
                clear ho hb3 hl
                generalize acc[k]?.getD 0 = p at *
                go_wp2
                go_roundw
                case rel => exact ⟨k + 1, by omega, by go_num, q3, q4⟩
                case measure => simp [intOf]; omega
              · have e : k = acc.length := by omega
                rw [e, fillB_all] at ho
                have HO : Hid (wr.ownsRow W0.heap.size 5 1 (.slice (some ⟨W0.heap.size, 0, none⟩) (la + lb) (la + lb)) (la + lb) (bytV acc)) := ho
                have hge : (la + lb) ≤ k := by omega
                clear hl ho e
                go_wp2
                go_ret
                refine ⟨_, acc, rfl, ?_, by rw [HD.out.2.2]; omega, HD.out.1, HD.out.2.1, hb.trans (hb3.mono hb.size)⟩
                have ho := HO.out
                have : OwnB wr W0.heap.size (.slice (some ⟨W0.heap.size, 0, none⟩) (la + lb) (la + lb)) acc := by
                  unfold OwnB
                  rw [HD.out.2.2]
                  exact ho
                exact this.mono hb.size
end Go.Proofs.Qxb6600112a
