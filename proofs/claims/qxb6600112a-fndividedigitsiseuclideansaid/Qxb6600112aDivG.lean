/-
  divideDigits (29), ZZDivideDigits (15).
-/
import Derived.Test.Qxb6600112aDivF
import Derived.Test.Qxb6600112aDigitsD
namespace Go.Proofs.Qxb6600112a
open Go.RowKit Dg

def lenOf : Value → Nat | .slice _ n _ => n | _ => 0

/-- The quotient and the remainder in memory: apart from one another; old memory as it was. -/
structure DivMem (w wr : World) (qv rv : Value) (Q R : List Int) : Prop where
  q : OwnR wr w.heap.size qv Q
  r : OwnR wr w.heap.size rv R
  apart : ∀ g, qv.ownBlock = some g → rv.ownBlock ≠ some g
  bel : Below w.heap.size w wr

theorem DivMem.drew {w wr : World} {qv rv : Value} {Q R : List Int} (h : DivMem w wr qv rv Q R) : DivMem w wr.drew qv rv Q R := ⟨h.q, h.r, h.apart, h.bel.drew⟩
theorem DivMem.later {w wr w' : World} {qv rv : Value} {Q R : List Int} (h : DivMem w wr qv rv Q R) (hb : Below wr.heap.size wr w') : DivMem w w' qv rv Q R :=
  ⟨h.q.below hb, h.r.below hb, h.apart, h.bel.trans (hb.mono h.bel.size)⟩
/-- A block more. -/
theorem DivMem.alloc {w wr : World} {qv rv : Value} {Q R : List Int} (h : DivMem w wr qv rv Q R) (o : Obj) : DivMem w (wr.alloc o) qv rv Q R :=
  h.later ((Below.refl _ _).alloc (Nat.le_refl _) o)
/-- Behind the append to the remainder. -/
theorem DivMem.grownR {w wr w' : World} {qv rv rv' : Value} {Q R R' : List Int} (h : DivMem w wr qv rv Q R) (ho : OwnR w' w.heap.size rv' R') (hg : wr.grownBy w' rv.ownBlock)
    (hf : ∀ g, rv'.ownBlock = some g → rv.ownBlock = some g ∨ wr.heap.size ≤ g) : DivMem w w' qv rv' Q R' := by
  have hq := fun g (hg' : qv.ownBlock = some g) => (h.q.block g hg').2
  refine ⟨h.q.keep fun k hk => hg.block k (hq k hk) (fun e => h.apart k hk e.symm), ho, ?_, ?_⟩
  · intro g h1 h2
    rcases hf g h2 with h3 | h3
    · exact h.apart g h1 h3
    · have := hq g h1; omega
  · exact h.bel.grown hg h.bel.size (fun k hk => (h.r.block k hk).1)
/-- Behind the append to the quotient. -/
theorem DivMem.grownQ {w wr w' : World} {qv rv qv' : Value} {Q R Q' : List Int} (h : DivMem w wr qv rv Q R) (ho : OwnR w' w.heap.size qv' Q') (hg : wr.grownBy w' qv.ownBlock)
    (hf : ∀ g, qv'.ownBlock = some g → qv.ownBlock = some g ∨ wr.heap.size ≤ g) : DivMem w w' qv' rv Q' R := by
  refine ⟨ho, h.r.keep fun k hk => hg.block k (h.r.block k hk).2 (fun e => h.apart k e.symm hk), ?_, ?_⟩
  · intro g h1 h2
    rcases hf g h1 with h3 | h3
    · exact h.apart g h3 h2
    · have := (h.r.block g h2).2; omega
  · exact h.bel.grown hg h.bel.size (fun k hk => (h.q.block k hk).1)
/-- The remainder in new memory. -/
theorem DivMem.fresh {w wr w' : World} {qv rv rv' : Value} {Q R R' : List Int} (h : DivMem w wr qv rv Q R) (ho : OwnB w' wr.heap.size rv' R') (hb : Below wr.heap.size wr w') : DivMem w w' qv rv' Q R' := by
  refine ⟨h.q.below hb, (ho.mono h.bel.size).toR, ?_, h.bel.trans (hb.mono h.bel.size)⟩
  intro g h1 h2
  have e1 := (h.q.block g h1).2
  have e2 := (World.ownsRow.lt ho g h2).1
  omega
/-- The remainder cut in its own block. -/
theorem DivMem.cut {w wr : World} {qv : Value} {a a' : Option Addr} {n n' c c' : Nat} {Q R R' : List Int} (h : DivMem w wr qv (.slice a n c) Q R) (ho : OwnR wr w.heap.size (.slice a' n' c') R')
    (hb : (Value.slice a' n' c').ownBlock = (Value.slice a n c).ownBlock) : DivMem w wr qv (.slice a' n' c') Q R' :=
  ⟨h.q, ho, (fun g h1 h2 => h.apart g h1 (by rw [← hb]; exact h2)), h.bel⟩

set_option maxHeartbeats 4000000 in
theorem divide29 (a0 a1 : Option Addr) (la lb c0 c1 : Nat) (za zb : List Int) (w : World) (h0 : RdB w a0 la za) (h1 : RdB w a1 lb zb) (m0 : la ≤ 16384) (m1 : lb ≤ 4096) (da : Dig za) (db : Dig zb) (nb : NoLead zb) (hpos : 0 < val zb) :
    Calls Try.prog 29 #[.slice a0 la c0, .slice a1 lb c1] w fun e w' => ∃ qv rv Q R, e = .returned (.tuple #[qv, rv]) ∧ DivMem w w' qv rv Q R ∧ DivInv za zb la Q R := by
  have e0 : Hid (za.length = la) := h0.len
  have e1 : Hid (zb.length = lb) := h1.len
  have H0 : Hid (RdB w a0 la za) := h0
  have H1 : Hid (RdB w a1 lb zb) := h1
  have l0 := h0.nil
  have DA : Hid (Dig za) := da
  have DB : Hid (Dig zb) := db
  have NB : Hid (NoLead zb) := nb
  have HP : Hid (0 < val zb) := hpos
  obtain ⟨i0, hi, hz0, hz1, hz2⟩ := info_parts Try.info5
  clear h0 h1 da db nb hpos
  rcases a0 with _ | x0
  all_goals
    first | (have y0 : la ≤ 0 := Nat.le_of_eq (l0 rfl)) | skip
    clear l0
    go_enter Try.func29, Try.ntmps29
    go_wp2_with (first | (at_make; refine wpList_make_own _ rfl _ _ 22 rfl w.heap.size 5 i0 (.int .u8 0) 1 Try.underlying22 hi hz0 hz1 .i64 .i64 _ la rfl rfl rfl (by rw [hz2]; omega) (by unfold maxLen; omega) (Nat.le_refl _) ?_) | go_in)
    intro w1 ho hg
    have hM0 : DivMem w w1 (.slice (some ⟨w.heap.size, 0, none⟩) 0 la) (.slice none 0 0) [] [] :=
      ⟨OwnB.toR (zs := []) ho, ownR_nil _ _, (fun g _ h => by cases h), (Below.refl _ _).grown hg (Nat.le_refl _) (by simp)⟩
    have hI0 : DivInv za zb 0 [] [] := DivInv.start HP.out
    clear ho hg
    go_wp2
    go_loopw [4, 5, 14] (fun qv rv iv wr => ∃ (k : Nat) (Q R : List Int) (aq ar : Option Addr) (cq cr : Nat), k ≤ la ∧ iv = .int .i64 k ∧ qv = .slice aq Q.length cq ∧ rv = .slice ar R.length cr ∧
        DivMem w wr (.slice aq Q.length cq) (.slice ar R.length cr) Q R ∧ DivInv za zb k Q R) (fun _ _ iv _ => la - (intOf iv).toNat)
    case atStart => exact ⟨0, [], [], _, _, _, _, Nat.zero_le _, rfl, rfl, rfl, hM0, hI0⟩
    case round =>
      clear hM0 hI0
      obtain ⟨k, Q, R, aq, ar, cq, cr, hk, rfl, rfl, rfl, hM, hI⟩ := hrel
      by_cases hlt : k < la
      · try (exfalso; omega)
        all_goals
          have hd := DA.out.at k
          have kd := (H0.out.later hM.bel).cell x0 rfl k hlt
          have hza : za[k]? = some (za[k]?.getD 0) := by rw [List.getElem?_eq_getElem (by rw [e0.out]; exact hlt)]; rfl
          obtain ⟨hMid, hV⟩ := hI.begin (za[k]?.getD 0) hd
          have hRl : R.length ≤ 4096 := by have := hI.len DB.out; rw [e1.out] at this; omega
          have hQl : Q.length ≤ 16384 := by have := hI.lq; omega
          have HZ : Hid (za[k]? = some (za[k]?.getD 0)) := hza
          have HI : Hid (DivInv za zb k Q R) := hI
          clear hza hI
          generalize za[k]?.getD 0 = d at *
          have HM : Hid (DivMem w wr (.slice aq Q.length cq) (.slice ar R.length cr) Q R) := hM
          have HV : Hid (10 * val R + d < 10 * val zb) := hV
          clear hM hV
          go_wp2_with (first | (at_builtin; refine wpList_append_R _ rfl _ _ rfl w.heap.size _ R rfl (HM.out.alloc _).r (HM.out.alloc _).bel.size ⟨wr.heap.size, 0, none⟩ d rfl (cell_one_new _ _ _) (by omega) ?_) | go_in)
          intro rv1 w2 ho hg hf
          have hM2 := (HM.out.alloc _).grownR ho hg (by simpa using hf)
          obtain ⟨ar1, cr1, er1, _, _⟩ := hM2.r.rd
          subst er1
          clear ho hg hf HM
          have hR1 : (R ++ [d]).length ≤ 4097 := by simp; omega
          go_wp2
          go_loop [5] (fun rv => ∃ (R' : List Int) (a : Option Addr) (c : Nat), rv = .slice a R'.length c ∧ DivMem w w2 (.slice aq Q.length cq) (.slice a R'.length c) Q R' ∧ Hid (strip R' = strip (R ++ [d])) ∧ R'.length ≤ 4097) (fun rv => lenOf rv)
          case atStart => exact ⟨R ++ [d], ar1, cr1, by simp, hM2, rfl, hR1⟩
          case round =>
            clear hM2
            obtain ⟨R', a', c', rfl, hM, HS, hl⟩ := hrel
            by_cases hzero : ∃ zs, R' = 0 :: zs
            · obtain ⟨zs, rfl⟩ := hzero
              obtain ⟨hn, hnc, g, off, rfl, hc, hc1, hcc⟩ := hM.r.uncons
              have HS' : Hid (strip zs = strip (R ++ [d])) := HS.out
              by_cases hcap : c' = 1
              · subst hcap
                obtain ⟨h2, h3⟩ := hc1 rfl
                have hz0 : zs = [] := List.eq_nil_of_length_eq_zero h3
                subst hz0
                have hM' := hM.cut (a' := some ⟨g, off, none⟩) (n' := 0) (c' := 0) (R' := []) h2 rfl
                clear hc1 hcc hM h2 h3
                go_wp2
                go_round
                case rel => exact ⟨[], _, _, rfl, hM', HS', by simp⟩
                case measure => simp [lenOf]
              · have hM' := hM.cut hcc rfl
                have hlz : zs.length ≤ 4097 := by simp at hl; omega
                have hcp : 1 < c' := by simp at hnc; omega
                clear hc1 hcc hM hcap
                go_wp2
                go_round
                case rel => exact ⟨zs, _, _, rfl, hM', HS', hlz⟩
                case measure => simp [lenOf]
            · have hself : strip R' = R' := by
                cases R' with
                | nil => rfl
                | cons z zs => exact strip_self (by unfold NoLead; intro e; exact hzero ⟨zs, by simp at e; rw [e]⟩)
              have hMid' : DivMid zb (10 * val R + d) 0 R' := by rw [← hself, HS.out]; exact hMid
              have hguard : R'.length ≤ 0 ∨ (0 < R'.length ∧ ∃ g off z, a' = some ⟨g, off, none⟩ ∧ w2.cell? ⟨g, off, none⟩ = some (.int .u8 z) ∧ (z == 0) = false) := by
                cases R' with
                | nil => exact .inl (Nat.le_refl _)
                | cons z zs =>
                  obtain ⟨_, _, g, off, e, hc, _, _⟩ := hM.r.uncons
                  exact .inr ⟨by simp, g, off, z, e, hc, beq_eq_false_iff_ne.2 (fun e => hzero ⟨zs, by rw [e]⟩)⟩
              have HMid : Hid (DivMid zb (10 * val R + d) 0 R') := hMid'
              clear hself hMid' hMid HS hzero
              rcases hguard with hg0 | ⟨hg0, g, off, z, rfl, hgc, hgz⟩
              all_goals
                go_wp2
                go_loopw [5, 8] (fun rv qd wx => ∃ (R2 : List Int) (a : Option Addr) (c : Nat) (x : Int), rv = .slice a R2.length c ∧ qd = .int .u8 x ∧ 0 ≤ x ∧ x ≤ 9 ∧ DivMem w wx (.slice aq Q.length cq) (.slice a R2.length c) Q R2 ∧ Hid (DivMid zb (10 * val R + d) x R2) ∧ R2.length ≤ 4097) (fun _ qd _ => 10 - (intOf qd).toNat)
                case atStart => exact ⟨R', _, _, 0, rfl, rfl, by omega, by omega, hM, HMid, hl⟩
                case round =>
                  clear hM HMid hl
                  obtain ⟨R2, a2, c2, x, rfl, rfl, hx0, hx9, hM, HMid, hl⟩ := hrel
                  obtain ⟨_, _, er, rdR, _⟩ := hM.r.rd
                  simp only [Value.slice.injEq, true_and] at er
                  obtain ⟨rfl, rfl⟩ := er
                  have rdB := H1.out.later hM.bel
                  have HM : Hid (DivMem w wr (.slice aq Q.length cq) (.slice a2 R2.length c2) Q R2) := hM
                  clear hM
                  go_wp2_with fail
                  refine (compare31 _ _ _ _ _ _ R2 zb _ rdR rdB (by omega) (by omega)).mono ?_
                  rintro e w3 ⟨rfl, hb3⟩
                  have hM3 := HM.out.later hb3
                  have rdR3 := rdR.later hb3
                  have rdB3 := rdB.later hb3
                  have HM3 : Hid (DivMem w w3 (.slice aq Q.length cq) (.slice a2 R2.length c2) Q R2) := hM3
                  clear HM hM3 rdR rdB hb3
                  by_cases hge : val zb ≤ val R2
                  · have hcc : 0 ≤ cmpL R2 zb := by
                      have := (cmpL_neg HMid.out.dr DB.out HMid.out.nr NB.out)
                      omega
                    have hxb := HMid.out.bound HV.out hge HP.out
                    have hll : lb ≤ R2.length := by have := le_length DB.out HMid.out.dr NB.out hge; rwa [e1.out] at this
                    have HGE : Hid (val zb ≤ val R2) := hge
                    clear hge
                    generalize cmpL R2 zb = cc at *
                    go_wp2_with fail
                    refine (subtract32 _ _ _ _ _ _ R2 zb _ rdR3 rdB3 (by omega) hll HMid.out.dr DB.out HGE.out).mono ?_
                    rintro e w4 ⟨vT, T, rfl, oT, lT, dT, nT, b4⟩
                    have hM4 := HM3.out.fresh oT b4
                    obtain ⟨aT, cT, eT, _, _⟩ := hM4.r.rd
                    subst eT
                    have HN : Hid (DivMid zb (10 * val R + d) (x + 1) (strip T)) := HMid.out.next dT nT
                    have hlT : T.length ≤ 4097 := by omega
                    clear rdR3 rdB3 oT b4 HM3 lT dT nT
                    go_wp2
                    go_loop [5] (fun rv => ∃ (R' : List Int) (a : Option Addr) (c : Nat), rv = .slice a R'.length c ∧ DivMem w w4 (.slice aq Q.length cq) (.slice a R'.length c) Q R' ∧ Hid (strip R' = strip T) ∧ R'.length ≤ 4097) (fun rv => lenOf rv)
                    case atStart => exact ⟨T, aT, cT, rfl, hM4, rfl, hlT⟩
                    case round =>
                      clear hM4
                      obtain ⟨R', a', c', rfl, hM, HS, hl⟩ := hrel
                      by_cases hzero : ∃ zs, R' = 0 :: zs
                      · obtain ⟨zs, rfl⟩ := hzero
                        obtain ⟨hn, hnc, g, off, rfl, hc, hc1, hcc⟩ := hM.r.uncons
                        have HS' : Hid (strip zs = strip T) := HS.out
                        by_cases hcap : c' = 1
                        · subst hcap
                          obtain ⟨h2, h3⟩ := hc1 rfl
                          have hz0 : zs = [] := List.eq_nil_of_length_eq_zero h3
                          subst hz0
                          have hM' := hM.cut (a' := some ⟨g, off, none⟩) (n' := 0) (c' := 0) (R' := []) h2 rfl
                          clear hc1 hcc hM h2 h3
                          go_wp2
                          go_round
                          case rel => exact ⟨[], _, _, rfl, hM', HS', by simp⟩
                          case measure => simp [lenOf]
                        · have hM' := hM.cut hcc rfl
                          have hlz : zs.length ≤ 4097 := by simp at hl; omega
                          have hcp : 1 < c' := by simp at hnc; omega
                          clear hc1 hcc hM hcap
                          go_wp2
                          go_round
                          case rel => exact ⟨zs, _, _, rfl, hM', HS', hlz⟩
                          case measure => simp [lenOf]
                      · have hself : strip R' = R' := by
                          cases R' with
                          | nil => rfl
                          | cons z zs => exact strip_self (by unfold NoLead; intro e; exact hzero ⟨zs, by simp at e; rw [e]⟩)
                        have HMid' : Hid (DivMid zb (10 * val R + d) (x + 1) R') := by
                          show DivMid zb (10 * val R + d) (x + 1) R'
                          rw [← hself, HS.out]; exact HN.out
                        have hguard : R'.length ≤ 0 ∨ (0 < R'.length ∧ ∃ g off z, a' = some ⟨g, off, none⟩ ∧ w4.cell? ⟨g, off, none⟩ = some (.int .u8 z) ∧ (z == 0) = false) := by
                          cases R' with
                          | nil => exact .inl (Nat.le_refl _)
                          | cons z zs =>
                            obtain ⟨_, _, g, off, e, hc, _, _⟩ := hM.r.uncons
                            exact .inr ⟨by simp, g, off, z, e, hc, beq_eq_false_iff_ne.2 (fun e => hzero ⟨zs, by rw [e]⟩)⟩
                        clear hself HS hzero HN HMid
                        rcases hguard with hg0 | ⟨hg0, g, off, z, rfl, hgc, hgz⟩
                        all_goals
                          go_wp2
                          go_roundw
                          case rel => exact ⟨R', _, _, x + 1, rfl, by go_num, by omega, by omega, hM, HMid', hl⟩
                          case measure => simp [intOf]; omega
                  · have hcc : cmpL R2 zb < 0 := (cmpL_neg HMid.out.dr DB.out HMid.out.nr NB.out).2 (by omega)
                    have HLT : Hid (val R2 < val zb) := by show val R2 < val zb; omega
                    clear hge rdR3 rdB3
                    generalize cmpL R2 zb = cc at *
                    by_cases hq : 0 < x ∨ Q ≠ []
                    · have HI' : Hid (DivInv za zb (k + 1) (Q ++ [x]) R2) := HI.out.push HZ.out HMid.out ⟨hx0, hx9⟩ HLT.out hq
                      have hq2 : 0 < x ∨ (¬ 0 < x ∧ 0 < Q.length) := by
                        rcases hq with h | h
                        · exact .inl h
                        · by_cases hx : 0 < x
                          · exact .inl hx
                          · exact .inr ⟨hx, List.length_pos_iff.2 h⟩
                      clear hq
                      rcases hq2 with hq2 | ⟨hq3, hq2⟩
                      all_goals
                        go_wp2_with (first | (at_builtin; refine wpList_append_R _ rfl _ _ rfl w.heap.size _ Q rfl (HM3.out.alloc _).q (HM3.out.alloc _).bel.size ⟨w3.heap.size, 0, none⟩ x rfl (cell_one_new _ _ _) (by omega) ?_) | go_in)
                        intro qv1 w5 ho hg hf
                        have hM5 := (HM3.out.alloc _).grownQ ho hg (by simpa using hf)
                        obtain ⟨aq1, cq1, eq1, _, _⟩ := hM5.q.rd
                        subst eq1
                        clear ho hg hf HM3
                        go_wp2
                        go_roundw
                        case rel => exact ⟨k + 1, Q ++ [x], R2, aq1, _, cq1, _, by omega, by go_num, by simp, rfl, hM5, HI'.out⟩
                        case measure => simp [intOf]; omega
                    · have hx : x = 0 := by omega
                      have hQ : Q = [] := by
                        rcases List.eq_nil_or_concat Q with h | ⟨_, _, h⟩
                        · exact h
                        · exact absurd (.inr (by rw [h]; simp)) hq
                      subst hx hQ
                      have HI' : Hid (DivInv za zb (k + 1) [] R2) := HI.out.skip HZ.out HMid.out HLT.out
                      clear hq
                      go_wp2
                      go_roundw
                      case rel => exact ⟨k + 1, [], R2, aq, _, cq, _, by omega, by go_num, rfl, rfl, HM3.out, HI'.out⟩
                      case measure => simp [intOf]; omega
      · have hkl : k = la := by omega
        subst hkl
        have HI : Hid (DivInv za zb k Q R) := hI
        clear hI
        go_wp2
        go_ret2
        exact ⟨_, _, Q, R, rfl, hM, HI.out⟩

set_option maxHeartbeats 1000000 in
theorem zzdiv15 (a0 a1 : Option Addr) (la lb c0 c1 : Nat) (za zb : List Int) (w : World) (h0 : RdB w a0 la za) (h1 : RdB w a1 lb zb) (m0 : la ≤ 16384) (m1 : lb ≤ 4096) (da : Dig za) (db : Dig zb) (nb : NoLead zb) (hpos : 0 < val zb) :
    Calls Try.prog 15 #[.slice a0 la c0, .slice a1 lb c1] w fun e w' => ∃ qv rv Q R, e = .returned (.tuple #[qv, rv]) ∧ DivMem w w' qv rv Q R ∧ DivInv za zb la Q R := by
  go_enter Try.func15, Try.ntmps15
  go_wp2_with fail
  refine (divide29 a0 a1 la lb c0 c1 za zb w h0 h1 m0 m1 da db nb hpos).mono ?_
  rintro e w1 ⟨qv, rv, Q, R, rfl, hM, hI⟩
  have HM : Hid (DivMem w w1 qv rv Q R) := hM
  have HI : Hid (DivInv za zb la Q R) := hI
  clear hM hI h0 h1 da db nb hpos
  go_wp2
  go_ret2
  exact ⟨_, _, Q, R, rfl, HM.out, HI.out⟩
end Go.Proofs.Qxb6600112a
