/-
  FnDivideDigitsIsEuclidean (4): the walk.
-/
import Derived.Test.Qxb6600112aDivG
namespace Go.Proofs.Qxb6600112a
open Go.RowKit Dg

theorem dig_of {zs : List Int} (h : okDig zs = true) (h0 : ∀ z ∈ zs, 0 ≤ z) : Dig zs := by
  intro d hd
  refine ⟨h0 d hd, ?_⟩
  have := List.all_eq_true.1 h d hd
  simpa using this
theorem okDig_of {zs : List Int} (h : Dig zs) : okDig zs = true := by
  unfold okDig
  rw [List.all_eq_true]
  intro d hd
  simpa using (h d hd).2
theorem cmpN_zero {a b : List Int} (ha : Dig a) (hb : Dig b) (h : val a = val b) : cmpN a b = 0 :=
  (cmpL_zero (strip_dig ha) (strip_dig hb) (strip_noLead a) (strip_noLead b)).2 (by rw [val_strip, val_strip]; exact h)
theorem cmpN_neg {a b : List Int} (ha : Dig a) (hb : Dig b) : cmpN a b < 0 ↔ val a < val b := by
  unfold cmpN
  rw [cmpL_neg (strip_dig ha) (strip_dig hb) (strip_noLead a) (strip_noLead b), val_strip, val_strip]
theorem pos_of {zb : List Int} (db : Dig zb) (nb : NoLead zb) (hne : zb ≠ []) : 0 < val zb := by
  have h1 := val_lead db nb hne
  have h2 := pw_pos (zb.length - 1)
  omega

set_option maxHeartbeats 2000000 in
theorem euclid_main (a0 a1 : Option Addr) (la lb c0 c1 : Nat) (za zb : List Int) (w : World) (h0 : RdB w a0 la za) (h1 : RdB w a1 lb zb) (m0 : la ≤ 4096) (m1 : lb ≤ 4096)
    (da : Dig za) (db : Dig zb) (nb : NoLead zb) (hne : zb ≠ []) :
    Calls Try.prog 4 #[.slice a0 la c0, .slice a1 lb c1] w fun e w' => e = .returned (.bool true) ∧ Below w.heap.size w w' := by
  have hpos := pos_of db nb hne
  have hl1 : 0 < lb := by rw [← h1.len]; exact List.length_pos_iff.2 hne
  have hb0 : ∃ x z, a1 = some x ∧ w.cell? x = some (.int .u8 z) ∧ (z == 0) = false := by
    rcases a1 with _ | x
    · have := h1.nil rfl; omega
    · refine ⟨x, zb[0]?.getD 0, rfl, by have := h1.cell x rfl 0 hl1; simpa [Addr.add] using this, beq_eq_false_iff_ne.2 ?_⟩
      intro e
      cases zb with
      | nil => exact hne rfl
      | cons z l => exact nb (by simpa using e)
  have E0 : Hid (za.length = la) := h0.len
  have E1 : Hid (zb.length = lb) := h1.len
  have H0 : Hid (RdB w a0 la za) := h0
  have H1 : Hid (RdB w a1 lb zb) := h1
  have o0 := okDig_of da
  have o1 := okDig_of db
  have DA : Hid (Dig za) := da
  have DB : Hid (Dig zb) := db
  have NB : Hid (NoLead zb) := nb
  have HP : Hid (0 < val zb) := hpos
  obtain ⟨xb, zb0, rfl, hcb, hzb⟩ := hb0
  clear h0 h1 da db nb hpos hne
  go_enter Try.func4, Try.ntmps4
  go_wp2_with fail
  refine (zzb14 _ _ _ _ _ _ _ (by omega) (by omega)).mono ?_
  rintro e w' ⟨⟨b, rfl⟩, rfl⟩
  cases b
  · go_wp2
    go_ret
    exact ⟨rfl, Below.refl _ _⟩
  go_wp2_with fail
  refine (valid9 _ _ _ za _ H0.out (by omega)).mono ?_
  rintro e w' ⟨rfl, rfl⟩
  go_wp2_with fail
  refine (valid9 _ _ _ zb _ H1.out (by omega)).mono ?_
  rintro e w' ⟨rfl, rfl⟩
  go_wp2_with fail
  refine (clone12 _ _ _ za _ H0.out (by omega)).mono ?_
  rintro e w1 ⟨v0, rfl, q0, b1⟩
  have r1 := H1.out.later b1
  go_wp2_with fail
  refine (clone12 _ _ _ zb _ r1 (by omega)).mono ?_
  rintro e w2 ⟨v1, rfl, q1, b2⟩
  obtain ⟨x0, y0, e0, rd0, k0⟩ := (q0.below b2).rd
  obtain ⟨x1, y1, e1, rd1, k1⟩ := q1.rd
  rw [E0.out] at e0 rd0 k0
  rw [E1.out] at e1 rd1 k1
  subst e0 e1
  have bel2 : Below w'.heap.size w' w2 := b1.trans (b2.mono b1.size)
  clear r1 q0 q1 b1 b2 H0 H1 hcb hzb
  go_wp2_with fail
  refine (zzdiv15 _ _ _ _ _ _ za zb _ rd0 rd1 (by omega) m1 DA.out DB.out NB.out HP.out).mono ?_
  rintro e w3 ⟨qv, rv, Q, R, rfl, hM, hI⟩
  obtain ⟨aq, cq, eq, rdq, kq⟩ := hM.q.rd
  obtain ⟨ar, cr, er, rdr, kr⟩ := hM.r.rd
  subst eq er
  have rd0 := rd0.later hM.bel
  have rd1 := rd1.later hM.bel
  have bel3 : Below w'.heap.size w' w3 := bel2.trans (hM.bel.mono bel2.size)
  have lQ := hI.lq
  have lR := hI.len DB.out
  rw [E1.out] at lR
  have oq := okDig_of hI.dq
  have okr := okDig_of hI.dr
  have nq := (noLeadB_iff Q).2 hI.nq
  have nr := (noLeadB_iff R).2 hI.nr
  have HI : Hid (DivInv za zb la Q R) := hI
  clear hI hM bel2
  go_wp2_with fail
  refine (valid9 _ _ _ Q _ rdq (by omega)).mono ?_
  rintro e w4 ⟨rfl, rfl⟩
  go_wp2_with fail
  refine (valid9 _ _ _ R _ rdr (by omega)).mono ?_
  rintro e w4 ⟨rfl, rfl⟩
  go_wp2_with fail
  refine (noLead10 _ _ _ Q _ rdq (by omega)).mono ?_
  rintro e w4 ⟨rfl, rfl⟩
  go_wp2_with fail
  refine (noLead10 _ _ _ R _ rdr (by omega)).mono ?_
  rintro e w4 ⟨rfl, rfl⟩
  have hlt : cmpN R zb < 0 := (cmpN_neg HI.out.dr DB.out).2 HI.out.lt
  generalize hcc : cmpN R zb = cc at *
  have HCC : Hid (cmpN R zb = cc) := hcc
  clear hcc
  go_wp2_with fail
  refine (cmpNum16 _ _ _ _ _ _ R zb _ rdr rd1 (by omega) (by omega) kr k1).mono ?_
  rintro e w5 ⟨rfl, b5⟩
  rw [HCC.out]
  have rd0 := rd0.later b5
  have rd1 := rd1.later b5
  have rdq := rdq.later b5
  have rdr := rdr.later b5
  have bel5 := bel3.trans (b5.mono bel3.size)
  clear b5 bel3
  go_wp2_with fail
  refine (mul18 _ _ _ _ _ _ Q zb _ rdq rd1 (by omega) (by omega) hl1 HI.out.dq DB.out).mono ?_
  rintro e w6 ⟨vm, M, rfl, om, lM, dM, nM, b6⟩
  obtain ⟨am, cm, em, rdm, km⟩ := om.rd
  subst em
  have rd0 := rd0.later b6
  have rdr := rdr.later b6
  have bel6 := bel5.trans (b6.mono bel5.size)
  have NM : Hid (val M = val Q * val zb) := nM
  have DM : Hid (Dig M) := dM
  clear b6 bel5 om nM dM
  go_wp2_with fail
  refine (add17 _ _ _ _ _ _ M R _ rdm rdr (by omega) (by omega) DM.out HI.out.dr).mono ?_
  rintro e w7 ⟨vs, S, rfl, ows, lS, dS, nS, b7⟩
  obtain ⟨asx, cs, es, rds, ks⟩ := ows.rd
  subst es
  have rd0 := rd0.later b7
  have bel7 := bel6.trans (b7.mono bel6.size)
  have hfin : cmpN S za = 0 := by
    refine cmpN_zero dS DA.out ?_
    rw [nS, NM.out]
    have := HI.out.num
    rw [List.take_of_length_le (by rw [E0.out]; exact Nat.le_refl _)] at this
    omega
  have HF : Hid (cmpN S za = 0) := hfin
  clear b7 bel6 ows nS dS hfin
  go_wp2_with fail
  refine (cmpNum16 _ _ _ _ _ _ S za _ rds rd0 (by omega) (by omega) ks k0).mono ?_
  rintro e w8 ⟨rfl, b8⟩
  rw [HF.out]
  have bel8 := bel7.trans (b8.mono bel7.size)
  clear b8 bel7
  go_wp2
  go_ret
  exact ⟨rfl, bel8⟩

set_option maxHeartbeats 2000000 in
/-- THE LAW, for every input. -/
theorem euclid_walk (a0 a1 : Option Addr) (la lb c0 c1 : Nat) (za zb : List Int) (w : World) (h0 : RdB w a0 la za) (h1 : RdB w a1 lb zb) (m0 : la ≤ 9223372036854775807) (m1 : lb ≤ 9223372036854775807)
    (p0 : ∀ z ∈ za, 0 ≤ z) (p1 : ∀ z ∈ zb, 0 ≤ z) :
    Calls Try.prog 4 #[.slice a0 la c0, .slice a1 lb c1] w fun e w' => e = .returned (.bool true) ∧ Below w.heap.size w w' := by
  by_cases hgood : la ≤ 4096 ∧ lb ≤ 4096 ∧ okDig za = true ∧ okDig zb = true ∧ NoLead zb ∧ zb ≠ []
  · obtain ⟨g1, g2, g3, g4, g5, g6⟩ := hgood
    exact euclid_main a0 a1 la lb c0 c1 za zb w h0 h1 g1 g2 (dig_of g3 p0) (dig_of g4 p1) g5 g6
  · have H0 : Hid (RdB w a0 la za) := h0
    have H1 : Hid (RdB w a1 lb zb) := h1
    have HG : Hid (¬ (la ≤ 4096 ∧ lb ≤ 4096 ∧ okDig za = true ∧ okDig zb = true ∧ NoLead zb ∧ zb ≠ [])) := hgood
    clear h0 h1 hgood p0 p1
    go_enter Try.func4, Try.ntmps4
    go_wp2_with fail
    refine (zzb14 _ _ _ _ _ _ _ (by omega) (by omega)).mono ?_
    rintro e w' ⟨⟨b, rfl⟩, rfl⟩
    cases b
    · go_wp2
      go_ret
      exact ⟨rfl, Below.refl _ _⟩
    by_cases hl0 : la ≤ 4096
    · by_cases hl1 : lb ≤ 4096
      · cases ho0 : okDig za with
        | false =>
          go_wp2_with fail
          refine (valid9 _ _ _ za _ H0.out (by omega)).mono ?_
          rintro e w' ⟨rfl, rfl⟩
          go_wp2_with fail
          go_ret
          exact ⟨rfl, Below.refl _ _⟩
        | true =>
          cases ho1 : okDig zb with
          | false =>
            go_wp2_with fail
            refine (valid9 _ _ _ za _ H0.out (by omega)).mono ?_
            rintro e w' ⟨rfl, rfl⟩
            go_wp2_with fail
            refine (valid9 _ _ _ zb _ H1.out (by omega)).mono ?_
            rintro e w' ⟨rfl, rfl⟩
            go_wp2_with fail
            go_ret
            exact ⟨rfl, Below.refl _ _⟩
          | true =>
            have hcase : lb ≤ 0 ∨ (0 < lb ∧ ∃ x z, a1 = some x ∧ w'.cell? x = some (.int .u8 z) ∧ (z == 0) = true) := by
              have E1 := H1.out.len
              cases zb with
              | nil => left; simp at E1; omega
              | cons z l =>
                right
                have hlb : 0 < lb := by simp at E1; omega
                have hz : z = 0 := by
                  apply Classical.byContradiction
                  intro hz
                  exact HG.out ⟨hl0, hl1, ho0, ho1, by simpa [NoLead] using hz, by simp⟩
                refine ⟨hlb, ?_⟩
                rcases a1 with _ | x
                · have := H1.out.nil rfl; omega
                · exact ⟨x, z, rfl, by have := H1.out.cell x rfl 0 hlb; simpa [Addr.add] using this, by rw [hz]; rfl⟩
            rcases hcase with hc | ⟨hc, x, z, rfl, hcell, hz⟩
            all_goals
              go_wp2_with fail
              refine (valid9 _ _ _ za _ H0.out (by omega)).mono ?_
              rintro e w' ⟨rfl, rfl⟩
              go_wp2_with fail
              refine (valid9 _ _ _ zb _ H1.out (by omega)).mono ?_
              rintro e w' ⟨rfl, rfl⟩
              go_wp2_with fail
              go_ret
              exact ⟨rfl, Below.refl _ _⟩
      · have hl1 : 4096 < lb := by omega
        go_wp2_with fail
        go_ret
        exact ⟨rfl, Below.refl _ _⟩
    · have hl0 : 4096 < la := by omega
      go_wp2_with fail
      go_ret
      exact ⟨rfl, Below.refl _ _⟩
end Go.Proofs.Qxb6600112a
