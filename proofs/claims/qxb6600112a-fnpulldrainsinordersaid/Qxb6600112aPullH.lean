/-
  FnPullTakesTopLine (6): the walk.
-/
import Derived.Test.Qxb6600112aPullG
namespace Go.Proofs.Qxb6600112a
open Go.RowKit

theorem OwnS.mono {w : World} {base base' : Nat} {v : Value} {ss : List ByteArray} (h : OwnS w base v ss) (hb : base' ≤ base) : OwnS w base' v ss := by
  refine ⟨h.1, ?_⟩
  rcases h.2 with h0 | ⟨g, cap, cur, rfl, hg, r⟩
  · exact .inl h0
  · exact .inr ⟨g, cap, cur, rfl, by omega, r⟩

theorem OwnS.rd {w : World} {base : Nat} {v : Value} {ss : List ByteArray} (h : OwnS w base v ss) : ∃ a c, v = .slice a ss.length c ∧ RdS w a ss.length ss := by
  rcases h.2 with ⟨h1, h0⟩ | ⟨g, cap, cur, rfl, hg, h3, h4, h5, h6, h7⟩
  · exact ⟨none, 0, by rw [h0]; exact h1, ⟨rfl, (fun _ => h0), (fun x hx => by cases hx)⟩⟩
  · refine ⟨some ⟨g, 0, none⟩, cap, rfl, ⟨rfl, (fun hx => by cases hx), ?_⟩⟩
    rintro x hx i hi
    cases hx
    rw [Addr.add_lit, cell_of_row w g _ cur 9 (0, 0) h3]
    have e1 : (cur.toList.take (ss.length * 1))[i]? = some (.string (ss.getD i ByteArray.empty)) := by rw [h7]; exact strV_at _ _ hi
    rw [List.getElem?_take, if_pos (by omega)] at e1
    simpa using e1

/-- The blocks of what is owned lie below the heap's end, so a world that keeps old blocks keeps it. -/
theorem OwnS.below {w w' : World} {base : Nat} {v : Value} {ss : List ByteArray} (h : OwnS w base v ss) (hb : Below w.heap.size w w') : OwnS w' base v ss :=
  h.keep fun k hk => hb.block k (h.block k hk).2.1

/-- The worlds of the law, one behind the other. -/
theorem pull_worlds {w w1 w2 w3 w4 : World} {v0 v1 vw : Value} {s0 s1 L : List ByteArray}
    (o0 : OwnS w1 w.heap.size v0 s0) (b1 : Below w.heap.size w w1) (o1 : OwnS w2 w1.heap.size v1 s1) (b2 : Below w1.heap.size w1 w2) (ow : OwnS w3 w2.heap.size vw L) (b3 : Below w2.heap.size w2 w3) :
    OwnS w3 w.heap.size v0 s0 ∧ OwnS w3 w.heap.size v1 s1 ∧ (∀ g, v0.ownBlock = some g → v1.ownBlock = some g → False) ∧ Below w.heap.size w w3 ∧
    (KeptBut2 w3 w4 v0 v1 → w4.os = w3.os → w4.tape = w3.tape → w4.output = w3.output → w3.heap.size ≤ w4.heap.size → OwnS w4 w2.heap.size vw L ∧ Below w.heap.size w w4) := by
  have z1 := b1.size
  have z2 := b2.size
  have z3 := b3.size
  have p0 : OwnS w2 w.heap.size v0 s0 := o0.below b2
  have p1 : OwnS w2 w.heap.size v1 s1 := o1.mono z1
  have q0 : OwnS w3 w.heap.size v0 s0 := p0.below b3
  have q1 : OwnS w3 w.heap.size v1 s1 := p1.below b3
  have hB : Below w.heap.size w w3 := (b1.trans (b2.mono z1)).trans (b3.mono (by omega))
  refine ⟨q0, q1, ?_, hB, ?_⟩
  · intro g h0 h1
    have := (o0.block g h0).2.1
    have := (o1.block g h1).1
    omega
  · intro hk e1 e2 e3 e4
    refine ⟨ow.keep fun k hk' => ?_, hB.trans ⟨e1, e2, e3, e4, fun k hk' => ?_⟩⟩
    · have hw := ow.block k hk'
      refine hk k hw.2.1 (fun e => ?_) (fun e => ?_)
      · have := (p0.block k e).2.1; omega
      · have := (p1.block k e).2.1; omega
    · refine hk k (by omega) (fun e => ?_) (fun e => ?_)
      · have := (q0.block k e).1; omega
      · have := (q1.block k e).1; omega

set_option maxHeartbeats 2000000 in
/-- The part of the law behind its tests. -/
theorem top_main (a0 a1 : Option Addr) (c0 c1 h : Nat) (s0 s1 : List ByteArray) (w : World) (h0 : RdS w a0 s0.length s0) (h1 : RdS w a1 s1.length s1) (m0 : s0.length ≤ 65536) (m1 : s1.length ≤ 65536) (hh : h ≤ s1.length) (hne : 0 < s0.length + (s1.length - h)) :
    Calls Try.prog 6 #[.slice a0 s0.length c0, .slice a1 s1.length c1, .int .i64 h] w fun e w' => e = .returned (.bool true) ∧ Below w.heap.size w w' := by
  have H0 : Hid (RdS w a0 s0.length s0) := h0
  have H1 : Hid (RdS w a1 s1.length s1) := h1
  clear h0 h1
  go_enter Try.func6, Try.ntmps6
  go_wp2_with fail
  refine (zzb22 a0 a1 _ _ c0 c1 s0 s1 h w H0.out H1.out (by omega) (by omega)).mono ?_
  rintro e w' ⟨⟨b, rfl⟩, rfl⟩
  cases b
  · go_wp2
    go_ret
    exact ⟨rfl, Below.refl _ _⟩
  go_wp2_with fail
  refine (lines23 a0 a1 _ _ c0 c1 s0 s1 _ _ H0.out H1.out (by omega) (by omega)).mono ?_
  rintro e w' ⟨⟨b, rfl⟩, rfl⟩
  cases b
  · go_wp2
    go_ret
    exact ⟨rfl, Below.refl _ _⟩
  go_wp2_with fail
  refine (clone24 a0 _ c0 s0 _ H0.out m0 H0.out.lt).mono ?_
  rintro e w1 ⟨v0, rfl, o0, -, b1⟩
  have h1 := H1.out.later b1
  go_wp2_with fail
  refine (clone24 a1 _ c1 s1 _ h1 m1 h1.lt).mono ?_
  rintro e w2 ⟨v1, rfl, o1, -, b2⟩
  have o0 : OwnS w1 w'.heap.size v0 s0 := o0
  have o1 : OwnS w2 w1.heap.size v1 s1 := o1
  obtain ⟨x0, y0, e0, r0⟩ := (o0.below b2).rd
  obtain ⟨x1, y1, e1, r1⟩ := o1.rd
  subst e0 e1
  clear h1 H0 H1
  go_wp2_with fail
  refine (model25 x0 x1 _ _ y0 y1 h s0 s1 w2 r0 r1 m0 m1 hh).mono ?_
  rintro e w3 ⟨vw, rfl, ow, b3⟩
  clear r0 r1
  obtain ⟨q0, q1, hpq, bel3, hrest⟩ := pull_worlds (w4 := w3) o0 b1 o1 b2 ow b3
  clear hrest
  have hl : lines s0 s1 h ≠ [] := by
    intro e
    have := congrArg List.length e
    simp only [lines, List.length_append, List.length_reverse, List.length_drop, List.length_nil] at this
    omega
  go_wp2_with fail
  refine (zzpull26 w'.heap.size _ _ s0 s1 h w3 q0 q1 hpq m0 m1 hh hl).mono ?_
  rintro e w4 ⟨x, vp, vq, ps, qs, h', rfl, hP, hK⟩
  obtain ⟨q0, q1, hpq, bel3, hrest⟩ := pull_worlds (w4 := w4) o0 b1 o1 b2 ow b3
  obtain ⟨ow4, bel4⟩ := hrest hK hP.os hP.tape hP.output hP.size
  have hlist := hP.list
  rw [hlist] at ow4
  obtain ⟨aw, cw, ew, rw4⟩ := ow4.rd
  subst ew
  obtain ⟨ap, cp, ep, rp⟩ := hP.own0.rd
  obtain ⟨aq, cq, eq, rq⟩ := hP.own1.rd
  subst ep eq
  have lp := hP.len0
  have lq := hP.len1
  have hh' := hP.head
  clear hrest hpq q0 q1 bel3 ow o0 o1 b1 b2 b3 hK hl hlist hP ow4
  have hw0 : ∃ xw, aw = some xw ∧ w4.cell? xw = some (.string x) := by
    rcases aw with _ | xw
    · have := rw4.nil rfl; simp at this
    · exact ⟨xw, rfl, by simpa [Addr.add] using rw4.cell xw rfl 0 (by simp)⟩
  obtain ⟨xw, exw, hw0⟩ := hw0
  subst exw
  go_wp2_with fail
  refine (model25 ap aq _ _ cp cq h' ps qs w4 rp rq (by omega) (by omega) hh').mono ?_
  rintro e w5 ⟨vg, rfl, og, b5⟩
  have bel5 : Below w'.heap.size w' w5 := bel4.trans (b5.mono bel4.size)
  have rw5 := rw4.later b5
  obtain ⟨ag, cg, eg, rg5⟩ := og.rd
  subst eg
  have hlen : (lines ps qs h').length ≤ 131072 := by simp only [lines, List.length_append, List.length_reverse, List.length_drop]; omega
  clear rp rq rw4 b5 og bel4 hw0 hh' lp lq
  generalize lines ps qs h' = L at *
  have RW : Hid (RdS w5 (some xw) (x :: L).length (x :: L)) := rw5
  have RG : Hid (RdS w5 ag L.length L) := rg5
  have lg := rg5.nil
  clear rw5 rg5
  rcases ag with _ | xg
  all_goals
    first | (have zg : L.length ≤ 0 := Nat.le_of_eq (lg rfl)) | skip
    clear lg
    go_wp2
    go_loopw [13] (fun i wr => ∃ k : Nat, k ≤ L.length ∧ i = .int .i64 k ∧ Below w5.heap.size w5 wr) (fun i _ => L.length - (intOf i).toNat)
    case atStart => exact ⟨0, Nat.zero_le _, rfl, Below.refl _ _⟩
    case round =>
      obtain ⟨k, hk, rfl, hb⟩ := hrel
      by_cases hlt : k < L.length
      · try (exfalso; omega)
        all_goals
          have k1 := (RG.out.later hb).cell xg rfl k hlt
          have k2 : wr.cell? (xw.add (k + 1)) = some (.string (L.getD k ByteArray.empty)) := by
            have := (RW.out.later hb).cell xw rfl (k + 1) (by simp; omega)
            simpa using this
          have hi1 : (k : Int) < (L.length : Int) := by omega
          have hi2 : (k : Int) + 1 < (L.length : Int) + 1 := by omega
          have hi3 : (0 : Int) ≤ (k : Int) + 1 := by omega
          have k3 : wr.cell? ⟨xw.block, xw.off + (k + 1), none⟩ = some (.string (L.getD k ByteArray.empty)) := by simpa [Addr.add] using k2
          go_wp2
          go_region
          go_wp2
          go_roundw
          case rel => exact ⟨k + 1, by omega, by go_num, hb.drew⟩
          case measure => simp [intOf]; omega
      · go_wp2
        go_ret
        exact ⟨rfl, bel5.trans (hb.mono bel5.size)⟩

set_option maxHeartbeats 2000000 in
/-- THE LAW, for every input. -/
theorem top_walk (a0 a1 : Option Addr) (c0 c1 : Nat) (hd : Int) (s0 s1 : List ByteArray) (w : World) (h0 : RdS w a0 s0.length s0) (h1 : RdS w a1 s1.length s1) (m0 : s0.length ≤ 9223372036854775807) (m1 : s1.length ≤ 9223372036854775807)
    (hd0 : -9223372036854775808 ≤ hd) (hd1 : hd ≤ 9223372036854775807) :
    Calls Try.prog 6 #[.slice a0 s0.length c0, .slice a1 s1.length c1, .int .i64 hd] w fun e w' => e = .returned (.bool true) ∧ Below w.heap.size w w' := by
  by_cases hgood : s0.length ≤ 65536 ∧ s1.length ≤ 65536 ∧ 0 ≤ hd ∧ hd ≤ s1.length ∧ 1 ≤ (s0.length : Int) + s1.length - hd
  · obtain ⟨g1, g2, g3, g4, g5⟩ := hgood
    obtain ⟨h, rfl⟩ := Int.eq_ofNat_of_zero_le g3
    exact top_main a0 a1 c0 c1 h s0 s1 w h0 h1 g1 g2 (by omega) (by omega)
  · have H0 : Hid (RdS w a0 s0.length s0) := h0
    have H1 : Hid (RdS w a1 s1.length s1) := h1
    have HG : Hid (¬ (s0.length ≤ 65536 ∧ s1.length ≤ 65536 ∧ 0 ≤ hd ∧ hd ≤ s1.length ∧ 1 ≤ (s0.length : Int) + s1.length - hd)) := hgood
    clear h0 h1 hgood
    go_enter Try.func6, Try.ntmps6
    go_wp2_with fail
    refine (zzb22 a0 a1 _ _ c0 c1 s0 s1 hd w H0.out H1.out (by omega) (by omega)).mono ?_
    rintro e w' ⟨⟨b, rfl⟩, rfl⟩
    cases b
    · go_wp2
      go_ret
      exact ⟨rfl, Below.refl _ _⟩
    by_cases hlen : s0.length ≤ 65536
    · by_cases hlen1 : s1.length ≤ 65536
      · go_wp2_with fail
        refine (lines23 a0 a1 _ _ c0 c1 s0 s1 _ _ H0.out H1.out (by omega) (by omega)).mono ?_
        rintro e w' ⟨⟨b, rfl⟩, rfl⟩
        cases b
        · go_wp2
          go_ret
          exact ⟨rfl, Below.refl _ _⟩
        by_cases hneg : hd < 0
        · go_wp2_with fail
          go_ret
          exact ⟨rfl, Below.refl _ _⟩
        · by_cases hbig : (s1.length : Int) < hd
          · go_wp2_with fail
            go_ret
            exact ⟨rfl, Below.refl _ _⟩
          · have hlt : (s0.length : Int) + s1.length - hd < 1 := by have := HG.out; omega
            go_wp2_with fail
            go_ret
            exact ⟨rfl, Below.refl _ _⟩
      · have hlen1 : 65536 < s1.length := by omega
        go_wp2_with fail
        go_ret
        exact ⟨rfl, Below.refl _ _⟩
    · have hlen : 65536 < s0.length := by omega
      go_wp2_with fail
      go_ret
      exact ⟨rfl, Below.refl _ _⟩
end Go.Proofs.Qxb6600112a
