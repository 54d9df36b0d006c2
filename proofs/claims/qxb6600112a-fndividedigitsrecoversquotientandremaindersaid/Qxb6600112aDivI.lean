/-
  FnDivideDigitsRecoversQuotientAndRemainder (5): the walk.
-/
import Derived.Test.Qxb6600112aDivH
namespace Go.Proofs.Qxb6600112a
open Go.RowKit Dg

theorem recovered {A X Y zb Q R : List Int} (hI : DivInv A zb A.length Q R) (hA : val A = val X * val zb + val Y) (dX : Dig X) (dY : Dig Y) (nX : NoLead X) (nY : NoLead Y) (hlt : val Y < val zb) (hpos : 0 < val zb) : Q = X ∧ R = Y := by
  have hn := hI.num
  rw [List.take_of_length_le (Nat.le_refl _), hA] at hn
  obtain ⟨e1, e2⟩ := div_unique hpos (val_bounds dY).1 hlt (val_bounds hI.dr).1 hI.lt hn
  exact ⟨val_inj hI.dq dX hI.nq nX e1.symm, val_inj hI.dr dY hI.nr nY e2.symm⟩

set_option maxHeartbeats 2000000 in
theorem recover_main (a0 a1 a2 : Option Addr) (lx ly lb c0 c1 c2 : Nat) (zx zy zb : List Int) (w : World) (h0 : RdB w a0 lx zx) (h1 : RdB w a1 ly zy) (h2 : RdB w a2 lb zb) (m0 : lx ≤ 4096) (m1 : ly ≤ 4096) (m2 : lb ≤ 4096)
    (r1 : ly ≤ c1) (r2 : lb ≤ c2) (dx : Dig zx) (dy : Dig zy) (db : Dig zb) (nx : NoLead zx) (ny : NoLead zy) (nb : NoLead zb) (hne : zb ≠ []) (hlt : val zy < val zb) :
    Calls Try.prog 5 #[.slice a0 lx c0, .slice a1 ly c1, .slice a2 lb c2] w fun e w' => e = .returned (.bool true) ∧ Below w.heap.size w w' := by
  have hpos := pos_of db nb hne
  have hl1 : 0 < lb := by rw [← h2.len]; exact List.length_pos_iff.2 hne
  have hb0 : ∃ x z, a2 = some x ∧ w.cell? x = some (.int .u8 z) ∧ (z == 0) = false := by
    rcases a2 with _ | x
    · have := h2.nil rfl; omega
    · refine ⟨x, zb[0]?.getD 0, rfl, by have := h2.cell x rfl 0 hl1; simpa [Addr.add] using this, beq_eq_false_iff_ne.2 ?_⟩
      intro e
      cases zb with
      | nil => exact hne rfl
      | cons z l => exact nb (by simpa using e)
  have E0 : Hid (zx.length = lx) := h0.len
  have E1 : Hid (zy.length = ly) := h1.len
  have E2 : Hid (zb.length = lb) := h2.len
  have H0 : Hid (RdB w a0 lx zx) := h0
  have H1 : Hid (RdB w a1 ly zy) := h1
  have H2 : Hid (RdB w a2 lb zb) := h2
  have o0 := okDig_of dx
  have o1 := okDig_of dy
  have o2 := okDig_of db
  have u0 := (noLeadB_iff zx).2 nx
  have u1 := (noLeadB_iff zy).2 ny
  have DX : Hid (Dig zx ∧ NoLead zx) := ⟨dx, nx⟩
  have DY : Hid (Dig zy ∧ NoLead zy ∧ val zy < val zb) := ⟨dy, ny, hlt⟩
  have DB : Hid (Dig zb ∧ NoLead zb ∧ 0 < val zb) := ⟨db, nb, hpos⟩
  have hneg : cmpN zy zb < 0 := (cmpN_neg dy db).2 hlt
  generalize hcc : cmpN zy zb = cc at *
  have HCC : Hid (cmpN zy zb = cc) := hcc
  obtain ⟨xb, zb0, rfl, hcb, hzb⟩ := hb0
  clear h0 h1 h2 dx dy db nx ny nb hpos hne hlt hcc
  go_enter Try.func5, Try.ntmps5
  go_wp2_with fail
  refine (zzb19 _ _ _ _ _ _ _ _ _ _ (by omega) (by omega) (by omega)).mono ?_
  rintro e w' ⟨⟨b, rfl⟩, rfl⟩
  cases b
  · go_wp2
    go_ret
    exact ⟨rfl, Below.refl _ _⟩
  go_wp2_with fail
  refine (valid9 _ _ _ zx _ H0.out (by omega)).mono ?_
  rintro e w' ⟨rfl, rfl⟩
  go_wp2_with fail
  refine (valid9 _ _ _ zy _ H1.out (by omega)).mono ?_
  rintro e w' ⟨rfl, rfl⟩
  go_wp2_with fail
  refine (valid9 _ _ _ zb _ H2.out (by omega)).mono ?_
  rintro e w' ⟨rfl, rfl⟩
  go_wp2_with fail
  refine (noLead10 _ _ _ zx _ H0.out (by omega)).mono ?_
  rintro e w' ⟨rfl, rfl⟩
  go_wp2_with fail
  refine (noLead10 _ _ _ zy _ H1.out (by omega)).mono ?_
  rintro e w' ⟨rfl, rfl⟩
  go_wp2_with fail
  refine (cmpNum16 _ _ _ _ _ _ zy zb _ H1.out H2.out (by omega) (by omega) r1 r2).mono ?_
  rintro e w1 ⟨rfl, b1⟩
  rw [HCC.out]
  have q0 := H0.out.later b1
  have q1 := H1.out.later b1
  have q2 := H2.out.later b1
  clear hcb hzb
  go_wp2_with fail
  refine (clone12 _ _ _ zx _ q0 (by omega)).mono ?_
  rintro e w2 ⟨v0, rfl, p0, b2⟩
  have q1 := q1.later b2
  have q2 := q2.later b2
  have bel2 : Below w'.heap.size w' w2 := b1.trans (b2.mono b1.size)
  go_wp2_with fail
  refine (clone12 _ _ _ zy _ q1 (by omega)).mono ?_
  rintro e w3 ⟨v1, rfl, p1, b3⟩
  have q2 := q2.later b3
  have p0 := p0.below b3
  have bel3 : Below w'.heap.size w' w3 := bel2.trans (b3.mono bel2.size)
  go_wp2_with fail
  refine (clone12 _ _ _ zb _ q2 (by omega)).mono ?_
  rintro e w4 ⟨v2, rfl, p2, b4⟩
  have bel4 : Below w'.heap.size w' w4 := bel3.trans (b4.mono bel3.size)
  obtain ⟨x0, y0, e0, rd0, k0⟩ := (p0.below b4).rd
  obtain ⟨x1, y1, e1, rd1, k1⟩ := (p1.below b4).rd
  obtain ⟨x2, y2, e2, rd2, k2⟩ := p2.rd
  rw [E0.out] at e0 rd0 k0
  rw [E1.out] at e1 rd1 k1
  rw [E2.out] at e2 rd2 k2
  subst e0 e1 e2
  clear q0 q1 q2 b1 b2 b3 b4 p0 p1 p2 bel2 bel3 H0 H1 H2
  go_wp2_with fail
  refine (mul18 _ _ _ _ _ _ zx zb _ rd0 rd2 (by omega) (by omega) hl1 DX.out.1 DB.out.1).mono ?_
  rintro e w5 ⟨vm, M, rfl, om, lM, dM, nM, b5⟩
  obtain ⟨am, cm, em, rdm, km⟩ := om.rd
  subst em
  have rd0 := rd0.later b5
  have rd1 := rd1.later b5
  have rd2 := rd2.later b5
  have bel5 := bel4.trans (b5.mono bel4.size)
  have NM : Hid (val M = val zx * val zb) := nM
  have DM : Hid (Dig M) := dM
  clear b5 bel4 om nM dM
  go_wp2_with fail
  refine (add17 _ _ _ _ _ _ M zy _ rdm rd1 (by omega) (by omega) DM.out DY.out.1).mono ?_
  rintro e w6 ⟨vs, S, rfl, ows, lS, dS, nS, b6⟩
  obtain ⟨asx, cs, es, rds, ks⟩ := ows.rd
  subst es
  have rd0 := rd0.later b6
  have rd1 := rd1.later b6
  have rd2 := rd2.later b6
  have bel6 := bel5.trans (b6.mono bel5.size)
  have NS : Hid (val (strip S) = val zx * val zb + val zy) := by
    show val (strip S) = val zx * val zb + val zy
    rw [val_strip, nS, NM.out]
  have DS : Hid (Dig (strip S)) := strip_dig dS
  have lA := strip_length S
  clear b6 bel5 ows nS dS rdm NM DM
  go_wp2_with fail
  refine (strip20 _ _ _ S _ rds (by omega) ks).mono ?_
  rintro e w7 ⟨aa, ca, rfl, rda, ka, ew⟩
  subst ew
  clear rds
  generalize strip S = A at *
  go_wp2_with fail
  refine (zzdiv15 _ _ _ _ _ _ A zb _ rda rd2 (by omega) m2 DS.out DB.out.1 DB.out.2.1 DB.out.2.2).mono ?_
  rintro e w8 ⟨qv, rv, Q, R, rfl, hM, hI⟩
  obtain ⟨eQ, eR⟩ := recovered hI NS.out DX.out.1 DY.out.1 DX.out.2 DY.out.2.1 DY.out.2.2 DB.out.2.2
  obtain ⟨aq, cq, eq, rdq, kq⟩ := hM.q.rd
  obtain ⟨ar, cr, er, rdr, kr⟩ := hM.r.rd
  have lQ : Q.length = lx := by rw [eQ]; exact E0.out
  have lR : R.length = ly := by rw [eR]; exact E1.out
  rw [lQ] at eq rdq
  rw [lR] at er rdr
  rw [eQ] at rdq
  rw [eR] at rdr
  subst eq er
  clear lQ lR eQ eR kq kr
  have rd0 := rd0.later hM.bel
  have rd1 := rd1.later hM.bel
  have bel8 := bel6.trans (hM.bel.mono bel6.size)
  clear hI hM bel6 rda rd2
  go_wp2_with fail
  refine (eqBytes21 _ _ _ _ _ _ _ rdq rd0 (by omega)).mono ?_
  rintro e w9 ⟨rfl, b9⟩
  have rdr := rdr.later b9
  have rd1 := rd1.later b9
  have bel9 := bel8.trans (b9.mono bel8.size)
  clear b9 bel8
  go_wp2_with fail
  refine (eqBytes21 _ _ _ _ _ _ _ rdr rd1 (by omega)).mono ?_
  rintro e w10 ⟨rfl, b10⟩
  have bel10 := bel9.trans (b10.mono bel9.size)
  clear b10 bel9
  go_wp2
  go_ret
  exact ⟨rfl, bel10⟩

set_option maxHeartbeats 2000000 in
/-- THE LAW, for every input. -/
theorem recover_walk (a0 a1 a2 : Option Addr) (lx ly lb c0 c1 c2 : Nat) (zx zy zb : List Int) (w : World) (h0 : RdB w a0 lx zx) (h1 : RdB w a1 ly zy) (h2 : RdB w a2 lb zb)
    (m0 : lx ≤ 9223372036854775807) (m1 : ly ≤ 9223372036854775807) (m2 : lb ≤ 9223372036854775807) (r1 : ly ≤ c1) (r2 : lb ≤ c2) (p0 : ∀ z ∈ zx, 0 ≤ z) (p1 : ∀ z ∈ zy, 0 ≤ z) (p2 : ∀ z ∈ zb, 0 ≤ z) :
    Calls Try.prog 5 #[.slice a0 lx c0, .slice a1 ly c1, .slice a2 lb c2] w fun e w' => e = .returned (.bool true) ∧ Below w.heap.size w w' := by
  by_cases hgood : lx ≤ 4096 ∧ ly ≤ 4096 ∧ lb ≤ 4096 ∧ okDig zx = true ∧ okDig zy = true ∧ okDig zb = true ∧ NoLead zb ∧ zb ≠ [] ∧ NoLead zx ∧ NoLead zy ∧ cmpN zy zb < 0
  · obtain ⟨g1, g2, g3, g4, g5, g6, g7, g8, g9, g10, g11⟩ := hgood
    exact recover_main a0 a1 a2 lx ly lb c0 c1 c2 zx zy zb w h0 h1 h2 g1 g2 g3 r1 r2 (dig_of g4 p0) (dig_of g5 p1) (dig_of g6 p2) g9 g10 g7 g8 ((cmpN_neg (dig_of g5 p1) (dig_of g6 p2)).1 g11)
  · have H0 : Hid (RdB w a0 lx zx) := h0
    have H1 : Hid (RdB w a1 ly zy) := h1
    have H2 : Hid (RdB w a2 lb zb) := h2
    have HG : Hid (¬ (lx ≤ 4096 ∧ ly ≤ 4096 ∧ lb ≤ 4096 ∧ okDig zx = true ∧ okDig zy = true ∧ okDig zb = true ∧ NoLead zb ∧ zb ≠ [] ∧ NoLead zx ∧ NoLead zy ∧ cmpN zy zb < 0)) := hgood
    clear h0 h1 h2 hgood p0 p1 p2
    go_enter Try.func5, Try.ntmps5
    go_wp2_with fail
    refine (zzb19 _ _ _ _ _ _ _ _ _ _ (by omega) (by omega) (by omega)).mono ?_
    rintro e w' ⟨⟨b, rfl⟩, rfl⟩
    cases b
    · go_wp2
      go_ret
      exact ⟨rfl, Below.refl _ _⟩
    by_cases hl0 : lx ≤ 4096
    · by_cases hl1 : ly ≤ 4096
      · by_cases hl2 : lb ≤ 4096
        · go_wp2_with fail
          refine (valid9 _ _ _ zx _ H0.out (by omega)).mono ?_
          rintro e w' ⟨rfl, rfl⟩
          cases ho0 : okDig zx with
          | false =>
            go_wp2_with fail
            go_ret
            exact ⟨rfl, Below.refl _ _⟩
          | true =>
            go_wp2_with fail
            refine (valid9 _ _ _ zy _ H1.out (by omega)).mono ?_
            rintro e w' ⟨rfl, rfl⟩
            cases ho1 : okDig zy with
            | false =>
              go_wp2_with fail
              go_ret
              exact ⟨rfl, Below.refl _ _⟩
            | true =>
              go_wp2_with fail
              refine (valid9 _ _ _ zb _ H2.out (by omega)).mono ?_
              rintro e w' ⟨rfl, rfl⟩
              cases ho2 : okDig zb with
              | false =>
                go_wp2_with fail
                go_ret
                exact ⟨rfl, Below.refl _ _⟩
              | true =>
                have hcase : lb ≤ 0 ∨ (0 < lb ∧ ∃ x z, a2 = some x ∧ w'.cell? x = some (.int .u8 z) ∧ ((z == 0) = true ∨ ((z == 0) = false ∧ NoLead zb ∧ zb ≠ []))) := by
                  have E1 := H2.out.len
                  cases zb with
                  | nil => left; simp at E1; omega
                  | cons z l =>
                    right
                    have hlb : 0 < lb := by simp at E1; omega
                    refine ⟨hlb, ?_⟩
                    rcases a2 with _ | x
                    · have := H2.out.nil rfl; omega
                    · refine ⟨x, z, rfl, by have := H2.out.cell x rfl 0 hlb; simpa [Addr.add] using this, ?_⟩
                      by_cases hz : z = 0
                      · exact .inl (by rw [hz]; rfl)
                      · exact .inr ⟨beq_eq_false_iff_ne.2 hz, by simpa [NoLead] using hz, by simp⟩
                rcases hcase with hc | ⟨hc, x, z, rfl, hcell, hz | ⟨hz, hnb, hnn⟩⟩
                · go_wp2_with fail
                  go_ret
                  exact ⟨rfl, Below.refl _ _⟩
                · go_wp2_with fail
                  go_ret
                  exact ⟨rfl, Below.refl _ _⟩
                · have HN : Hid (NoLead zb ∧ zb ≠ []) := ⟨hnb, hnn⟩
                  clear hnb hnn
                  go_wp2_with fail
                  refine (noLead10 _ _ _ zx _ H0.out (by omega)).mono ?_
                  rintro e w' ⟨rfl, rfl⟩
                  cases hn0 : noLeadB zx with
                  | false =>
                    go_wp2_with fail
                    go_ret
                    exact ⟨rfl, Below.refl _ _⟩
                  | true =>
                    go_wp2_with fail
                    refine (noLead10 _ _ _ zy _ H1.out (by omega)).mono ?_
                    rintro e w' ⟨rfl, rfl⟩
                    cases hn1 : noLeadB zy with
                    | false =>
                      go_wp2_with fail
                      go_ret
                      exact ⟨rfl, Below.refl _ _⟩
                    | true =>
                      have hge : 0 ≤ cmpN zy zb := by
                        rcases Int.lt_or_le (cmpN zy zb) 0 with h | h
                        · exact absurd ⟨hl0, hl1, hl2, ho0, ho1, ho2, HN.out.1, HN.out.2, (noLeadB_iff _).1 hn0, (noLeadB_iff _).1 hn1, h⟩ HG.out
                        · exact h
                      go_wp2_with fail
                      refine (cmpNum16 _ _ _ _ _ _ zy zb _ H1.out H2.out (by omega) (by omega) r1 r2).mono ?_
                      rintro e w1 ⟨rfl, b1⟩
                      go_wp2_with fail
                      go_ret
                      exact ⟨rfl, b1⟩
        · have hl2 : 4096 < lb := by omega
          go_wp2_with fail
          go_ret
          exact ⟨rfl, Below.refl _ _⟩
      · have hl1 : 4096 < ly := by omega
        go_wp2_with fail
        go_ret
        exact ⟨rfl, Below.refl _ _⟩
    · have hl0 : 4096 < lx := by omega
      go_wp2_with fail
      go_ret
      exact ⟨rfl, Below.refl _ _⟩
end Go.Proofs.Qxb6600112a
