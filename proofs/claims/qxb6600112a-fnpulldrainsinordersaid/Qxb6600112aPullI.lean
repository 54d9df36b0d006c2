/-
  FnPullDrainsInOrder (7): the walk.
-/
import Derived.Test.Qxb6600112aPullH
namespace Go.Proofs.Qxb6600112a
open Go.RowKit

/-- What holds behind k pulls. -/
structure Drain (w wr : World) (vw : Value) (L : List ByteArray) (vp vq : Value) (ps qs : List ByteArray) (h k : Nat) : Prop where
  own0 : OwnS wr w.heap.size vp ps
  own1 : OwnS wr w.heap.size vq qs
  dis : ∀ g, vp.ownBlock = some g → vq.ownBlock = some g → False
  want : OwnS wr w.heap.size vw L
  far : ∀ g, vw.ownBlock = some g → vp.ownBlock ≠ some g ∧ vq.ownBlock ≠ some g
  head : h ≤ qs.length
  list : lines ps qs h = L.drop k
  le : k ≤ L.length
  len0 : ps.length ≤ 65536
  len1 : qs.length ≤ 65536
  bel : Below w.heap.size w wr

theorem Drain.count {w wr : World} {vw : Value} {L : List ByteArray} {vp vq : Value} {ps qs : List ByteArray} {h k : Nat} (d : Drain w wr vw L vp vq ps qs h k) : ps.length + (qs.length - h) = L.length - k := by
  have := congrArg List.length d.list
  simpa only [lines, List.length_append, List.length_reverse, List.length_drop] using this

theorem Drain.step {w wr w' : World} {vw : Value} {L : List ByteArray} {vp vq : Value} {ps qs : List ByteArray} {h k : Nat} (d : Drain w wr vw L vp vq ps qs h k) (hk : k < L.length)
    {x : ByteArray} {vp' vq' : Value} {ps' qs' : List ByteArray} {h' : Nat} (hP : Pulled wr w' w.heap.size vp vq ps qs h x vp' vq' ps' qs' h') (hK : KeptBut2 wr w' vp vq) :
    Drain w w' vw L vp' vq' ps' qs' h' (k + 1) ∧ x = L.getD k ByteArray.empty := by
  have e := hP.list
  rw [d.list, List.drop_eq_getElem_cons hk] at e
  obtain ⟨e1, e2⟩ := List.cons.inj e
  refine ⟨⟨hP.own0, hP.own1, fun g h0 h1 => d.dis g (hP.from0 g h0) (hP.from1 g h1), ?_, ?_, hP.head, e2.symm, hk, Nat.le_trans hP.len0 d.len0, Nat.le_trans hP.len1 d.len1, ?_⟩, by simp [hk, ← e1]⟩
  · refine d.want.keep fun g hg => hK g (d.want.block g hg).2.1 (d.far g hg).1 (d.far g hg).2
  · exact fun g hg => ⟨fun h0 => (d.far g hg).1 (hP.from0 g h0), fun h1 => (d.far g hg).2 (hP.from1 g h1)⟩
  · refine d.bel.trans ⟨hP.os, hP.tape, hP.output, hP.size, fun g hg => hK g ?_ ?_ ?_⟩
    · have := d.bel.size; omega
    · intro h0; have := (d.own0.block g h0).1; omega
    · intro h1; have := (d.own1.block g h1).1; omega

theorem drain_start {w w1 w2 w3 : World} {v0 v1 vw : Value} {s0 s1 : List ByteArray} {h : Nat}
    (o0 : OwnS w1 w.heap.size v0 s0) (b1 : Below w.heap.size w w1) (o1 : OwnS w2 w1.heap.size v1 s1) (b2 : Below w1.heap.size w1 w2) (ow : OwnS w3 w2.heap.size vw (lines s0 s1 h)) (b3 : Below w2.heap.size w2 w3)
    (hh : h ≤ s1.length) (m0 : s0.length ≤ 65536) (m1 : s1.length ≤ 65536) : Drain w w3 vw (lines s0 s1 h) v0 v1 s0 s1 h 0 := by
  obtain ⟨q0, q1, hpq, bel, _⟩ := pull_worlds (w4 := w3) o0 b1 o1 b2 ow b3
  have z1 := b1.size
  have z2 := b2.size
  refine ⟨q0, q1, hpq, ow.mono (by omega), fun g hg => ⟨fun h0 => ?_, fun h1 => ?_⟩, hh, by simp, Nat.zero_le _, m0, m1, bel⟩
  · have := (ow.block g hg).1
    have := ((o0.below b2).block g h0).2.1
    omega
  · have := (ow.block g hg).1
    have := (o1.block g h1).2.1
    omega

set_option maxHeartbeats 2000000 in
/-- The part of the law behind its tests. -/
theorem drain_main (a0 a1 : Option Addr) (c0 c1 h : Nat) (s0 s1 : List ByteArray) (w : World) (h0 : RdS w a0 s0.length s0) (h1 : RdS w a1 s1.length s1) (m0 : s0.length ≤ 65536) (m1 : s1.length ≤ 65536) (hh : h ≤ s1.length) :
    Calls Try.prog 7 #[.slice a0 s0.length c0, .slice a1 s1.length c1, .int .i64 h] w fun e w' => e = .returned (.bool true) ∧ Below w.heap.size w w' := by
  have H0 : Hid (RdS w a0 s0.length s0) := h0
  have H1 : Hid (RdS w a1 s1.length s1) := h1
  clear h0 h1
  go_enter Try.func7, Try.ntmps7
  go_wp2_with fail
  refine (zzb27 a0 a1 _ _ c0 c1 s0 s1 h w H0.out H1.out (by omega) (by omega)).mono ?_
  rintro e w' ⟨⟨b, rfl⟩, rfl⟩
  cases b
  · go_wp2
    go_ret
    exact ⟨rfl, Below.refl _ _⟩
  go_wp2_with fail
  refine (lines23 a0 a1 _ _ c0 c1 s0 s1 _ _ H0.out H1.out (by omega) (by omega)).mono ?_
  rintro e w' ⟨⟨b, rfl⟩, rfl⟩
  cases b
  · go_wp2
    go_ret
    exact ⟨rfl, Below.refl _ _⟩
  go_wp2_with fail
  refine (clone24 a0 _ c0 s0 _ H0.out m0 H0.out.lt).mono ?_
  rintro e w1 ⟨v0, rfl, o0, -, b1⟩
  have h1 := H1.out.later b1
  go_wp2_with fail
  refine (clone24 a1 _ c1 s1 _ h1 m1 h1.lt).mono ?_
  rintro e w2 ⟨v1, rfl, o1, -, b2⟩
  have o0 : OwnS w1 w'.heap.size v0 s0 := o0
  have o1 : OwnS w2 w1.heap.size v1 s1 := o1
  obtain ⟨x0, y0, e0, r0⟩ := (o0.below b2).rd
  obtain ⟨x1, y1, e1, r1⟩ := o1.rd
  subst e0 e1
  clear h1 H0 H1
  go_wp2_with fail
  refine (model25 x0 x1 _ _ y0 y1 h s0 s1 w2 r0 r1 m0 m1 hh).mono ?_
  rintro e w3 ⟨vw, rfl, ow, b3⟩
  clear r0 r1
  have d0 := drain_start o0 b1 o1 b2 ow b3 hh m0 m1
  obtain ⟨aw, cw, ew, _⟩ := ow.rd
  subst ew
  have hL : (lines s0 s1 h).length ≤ 131072 := by simp only [lines, List.length_append, List.length_reverse, List.length_drop]; omega
  clear o0 b1 o1 b2 ow b3
  generalize lines s0 s1 h = L at *
  go_wp2
  go_loopw [8, 9, 10, 11] (fun p q hd i wr => ∃ (ap aq : Option Addr) (cp cq : Nat) (ps qs : List ByteArray) (h k : Nat), p = .slice ap ps.length cp ∧ q = .slice aq qs.length cq ∧ hd = .int .i64 h ∧ i = .int .i64 k ∧
      Drain w' wr (.slice aw L.length cw) L (.slice ap ps.length cp) (.slice aq qs.length cq) ps qs h k) (fun _ _ _ i _ => L.length - (intOf i).toNat)
  case atStart => exact ⟨x0, x1, y0, y1, s0, s1, h, 0, rfl, rfl, rfl, rfl, d0⟩
  case round =>
    clear d0
    obtain ⟨ap, aq, cp, cq, ps, qs, h', k, rfl, rfl, rfl, rfl, d⟩ := hrel
    have k1 := d.count
    have k2 := d.head
    have k3 := d.le
    have k4 := d.len0
    have k5 := d.len1
    by_cases hlt : k < L.length
    · have t1 : (((ps.length : Int) + qs.length - h') != ((L.length : Int) - k)) = false := by rw [bne_eq_false_iff_eq]; omega
      have K1 : Hid (ps.length + (qs.length - h') = L.length - k) := k1
      clear k1
      have D : Hid (Drain w' wr (.slice aw L.length cw) L (.slice ap ps.length cp) (.slice aq qs.length cq) ps qs h' k) := d
      clear d
      go_wp2_with fail
      refine (zzpull26 w'.heap.size _ _ ps qs h' wr D.out.own0 D.out.own1 D.out.dis k4 k5 k2 ?_).mono ?_
      · rw [D.out.list]; intro e; have := congrArg List.length e; simp only [List.length_drop, List.length_nil] at this; omega
      rintro e w4 ⟨x, vp, vq, ps', qs', h2, rfl, hP, hK⟩
      obtain ⟨d', ex⟩ := D.out.step hlt hP hK
      obtain ⟨ap', cp', ep⟩ := d'.own0.form
      obtain ⟨aq', cq', eq⟩ := d'.own1.form
      subst ep eq ex
      obtain ⟨_, _, ew, rw4⟩ := d'.want.rd
      have hw : ∃ xw, aw = some xw ∧ w4.cell? (xw.add k) = some (.string (L.getD k ByteArray.empty)) := by
        simp only [Value.slice.injEq, true_and] at ew
        obtain ⟨rfl, rfl⟩ := ew
        rcases aw with _ | xw
        · have := rw4.nil rfl; omega
        · exact ⟨xw, rfl, rw4.cell xw rfl k hlt⟩
      obtain ⟨xw, exw, hw0⟩ := hw
      clear ew rw4 hP hK D K1 t1
      subst exw
      go_wp2
      go_roundw
      case rel => exact ⟨ap', aq', cp', cq', ps', qs', h2, k + 1, rfl, rfl, rfl, by go_num, d'⟩
      case measure => simp [intOf]; omega
    · have z1 : ps.length ≤ 0 := by omega
      have z2 : qs.length ≤ h' := by omega
      have bel := d.bel
      have t2 : h' = qs.length := by omega
      have t3 : ps = [] := List.eq_nil_of_length_eq_zero (by omega)
      clear d k1 z2
      subst t2 t3
      go_wp2
      go_ret
      exact ⟨rfl, bel⟩

set_option maxHeartbeats 2000000 in
/-- THE LAW, for every input. -/
theorem drain_walk (a0 a1 : Option Addr) (c0 c1 : Nat) (hd : Int) (s0 s1 : List ByteArray) (w : World) (h0 : RdS w a0 s0.length s0) (h1 : RdS w a1 s1.length s1) (m0 : s0.length ≤ 9223372036854775807) (m1 : s1.length ≤ 9223372036854775807)
    (hd0 : -9223372036854775808 ≤ hd) (hd1 : hd ≤ 9223372036854775807) :
    Calls Try.prog 7 #[.slice a0 s0.length c0, .slice a1 s1.length c1, .int .i64 hd] w fun e w' => e = .returned (.bool true) ∧ Below w.heap.size w w' := by
  by_cases hgood : s0.length ≤ 65536 ∧ s1.length ≤ 65536 ∧ 0 ≤ hd ∧ hd ≤ s1.length
  · obtain ⟨g1, g2, g3, g4⟩ := hgood
    obtain ⟨h, rfl⟩ := Int.eq_ofNat_of_zero_le g3
    exact drain_main a0 a1 c0 c1 h s0 s1 w h0 h1 g1 g2 (by omega)
  · have H0 : Hid (RdS w a0 s0.length s0) := h0
    have H1 : Hid (RdS w a1 s1.length s1) := h1
    have HG : Hid (¬ (s0.length ≤ 65536 ∧ s1.length ≤ 65536 ∧ 0 ≤ hd ∧ hd ≤ s1.length)) := hgood
    clear h0 h1 hgood
    go_enter Try.func7, Try.ntmps7
    go_wp2_with fail
    refine (zzb27 a0 a1 _ _ c0 c1 s0 s1 hd w H0.out H1.out (by omega) (by omega)).mono ?_
    rintro e w' ⟨⟨b, rfl⟩, rfl⟩
    cases b
    · go_wp2
      go_ret
      exact ⟨rfl, Below.refl _ _⟩
    by_cases hlen : s0.length ≤ 65536
    · by_cases hlen1 : s1.length ≤ 65536
      · go_wp2_with fail
        refine (lines23 a0 a1 _ _ c0 c1 s0 s1 _ _ H0.out H1.out (by omega) (by omega)).mono ?_
        rintro e w' ⟨⟨b, rfl⟩, rfl⟩
        cases b
        · go_wp2
          go_ret
          exact ⟨rfl, Below.refl _ _⟩
        by_cases hneg : hd < 0
        · go_wp2_with fail
          go_ret
          exact ⟨rfl, Below.refl _ _⟩
        · have hbig : (s1.length : Int) < hd := by have := HG.out; omega
          go_wp2_with fail
          go_ret
          exact ⟨rfl, Below.refl _ _⟩
      · have hlen1 : 65536 < s1.length := by omega
        go_wp2_with fail
        go_ret
        exact ⟨rfl, Below.refl _ _⟩
    · have hlen : 65536 < s0.length := by omega
      go_wp2_with fail
      go_ret
      exact ⟨rfl, Below.refl _ _⟩
end Go.Proofs.Qxb6600112a
