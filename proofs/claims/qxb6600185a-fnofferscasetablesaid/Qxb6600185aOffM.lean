/-
  The law on the case table (3).
-/
import Derived.Test.Qxb6600185aOffL
import Derived.Test.Qxb6600185aOffH
namespace Go.Proofs.Qxb6600185a
open Go.RowKit

set_option maxHeartbeats 4000000 in
theorem case3 (p1 p2 : Int) (a b : Option Addr) (n c m d : Nat) (zs ys : List Zt) (w : World) (h : RdZ w a n zs) (h' : RdZ w b m ys) (ha : a = none → n = 0) (hb : b = none → m = 0) (hn : n ≤ 9223372036854775807) (hm : m ≤ 9223372036854775807) (tz : ∀ t ∈ zs, 0 ≤ t.1 ∧ t.1 ≤ 255) (ty : ∀ t ∈ ys, 0 ≤ t.1 ∧ t.1 ≤ 255) :
    Calls Try.prog 3 #[.int .u8 p1, .slice a n c, .int .u8 p2, .slice b m d] w fun e w' => e = .returned (.bool true) ∧ Below w.heap.size w w' := by
  have hl : Hid (zs.length = n) := h.len
  have hl' : Hid (ys.length = m) := h'.len
  have H : Hid (RdZ w a n zs) := h
  have H' : Hid (RdZ w b m ys) := h'
  have HA : Hid (a = none → n = 0) := ha
  have HB : Hid (b = none → m = 0) := hb
  have TZ : Hid (∀ t ∈ zs, 0 ≤ t.1 ∧ t.1 ≤ 255) := tz
  have TY : Hid (∀ t ∈ ys, 0 ≤ t.1 ∧ t.1 ≤ 255) := ty
  have HE : Hid (modelB p1 zs p2 ys = offersB p1 zs p2 ys) := model_offers p1 p2 tz ty
  clear h h' ha hb tz ty
  go_enter Try.func3, Try.ntmps3
  go_wp2_with fail
  refine (zzb11 p1 p2 a b n m c d w hn hm).mono ?_
  rintro e w0 ⟨⟨b0, rfl⟩, rfl⟩
  cases b0 with
  | false =>
    go_wp2
    go_ret
    exact ⟨rfl, Below.refl _ _⟩
  | true =>
    by_cases hbig : 4096 < n
    · go_wp2
      go_ret
      exact ⟨rfl, Below.refl _ _⟩
    · by_cases hbig' : 4096 < m
      · go_wp2
        go_ret
        exact ⟨rfl, Below.refl _ _⟩
      · have g0 : n ≤ 4096 := by omega
        have g1 : m ≤ 4096 := by omega
        clear hbig hbig'
        go_wp2_with fail
        refine (clone12 a n c zs w0 H.out HA.out (by omega)).mono ?_
        rintro e w1 ⟨v1, rfl, o1, b1⟩
        obtain ⟨a1, c1, e1, r1, _, nz1⟩ := o1.rdn
        subst e1
        go_wp2_with fail
        refine (clone12 b m d ys w1 (H'.out.later b1) HB.out (by omega)).mono ?_
        rintro e w2 ⟨v2, rfl, o2, b2⟩
        obtain ⟨a2, c2, e2, r2, _, nz2⟩ := o2.rdn
        subst e2
        have R1 : Hid (RdZ w2 a1 zs.length zs) := r1.later b2
        have R2 : Hid (RdZ w2 a2 ys.length ys) := r2
        have N1 : Hid (a1 = none → zs.length = 0) := nz1
        have N2 : Hid (a2 = none → ys.length = 0) := nz2
        have B2 : Hid (Below w0.heap.size w0 w2) := b1.trans (b2.mono b1.size)
        clear o1 o2 r1 r2 nz1 nz2 b1 b2 H H' HA HB
        have z1 := hl.out
        have z2 := hl'.out
        generalize hN : zs.length = N at *
        generalize hM : ys.length = M at *
        have HN : Hid (zs.length = N) := hN
        have HM : Hid (ys.length = M) := hM
        clear hN hM hl hl'
        subst z1 z2
        go_wp2_with fail
        refine (prop14 p1 a1 N c1 zs w2 R1.out N1.out (by omega)).mono ?_
        rintro e w3 ⟨v3, rfl, o3, b3⟩
        obtain ⟨a3, c3, e3, pt3⟩ := o3.prop (by rw [HN.out]; omega) TZ.out
        subst e3
        rw [HN.out] at pt3
        rw [HN.out]
        have PT3 : Hid (PropT w3 a3 N c3 zs) := pt3
        have B3 : Hid (Below w2.heap.size w2 w3) := b3
        clear o3 pt3 b3
        go_wp2_with fail
        refine (prop14 p2 a2 M c2 ys w3 (R2.out.later B3.out) N2.out (by omega)).mono ?_
        rintro e w4 ⟨v4, rfl, o4, b4⟩
        obtain ⟨a4, c4, e4, pt4⟩ := o4.prop (by rw [HM.out]; omega) TY.out
        subst e4
        rw [HM.out] at pt4
        rw [HM.out]
        have PT4 : Hid (PropT w4 a4 M c4 ys) := pt4
        have PT3' : Hid (PropT w4 a3 N c3 zs) := PT3.out.later b4
        have B4 : Hid (Below w2.heap.size w2 w4) := B3.out.trans (b4.mono B3.out.size)
        clear o4 pt4 b4 PT3 B3
        go_wp2_with fail
        refine (zzoffers13 0 p1 0 p2 none none 0 0 0 0 a3 a4 N c3 M c4 zs ys w4 PT3'.out PT4.out).mono ?_
        rintro e w5 ⟨rfl, b5⟩
        have B5 : Hid (Below w2.heap.size w2 w5) := B4.out.trans (b5.mono B4.out.size)
        have R1' : Hid (RdZ w5 a1 N zs) := R1.out.later B5.out
        have R2' : Hid (RdZ w5 a2 M ys) := R2.out.later B5.out
        have B5' : Hid (Below w0.heap.size w0 w5) := B2.out.trans (B5.out.mono B2.out.size)
        clear b5 B4 PT3' PT4 R1 R2 B2
        generalize hG : offersB p1 zs p2 ys = G at *
        clear hG
        go_wp2_with fail
        refine (model15 p1 p2 a1 a2 N c1 M c2 zs ys w5 R1'.out R2'.out (by omega) (by omega)).mono ?_
        rintro e w6 ⟨rfl, b6⟩
        rw [HE.out]
        have B6 := B5'.out.trans (b6.mono B5'.out.size)
        clear b6 B5 B5' R1' R2' HE
        cases G
        all_goals
          go_wp2
          go_ret
          exact ⟨rfl, B6⟩
end Go.Proofs.Qxb6600185a
