/-
  offers (33), ZZOffers (13).
-/
import Derived.Test.Qxb6600185aOffE0
import Derived.Deep.RegionWith
import Derived.Deep.CutRange
namespace Go.Proofs.Qxb6600185a
open Go.RowKit

/-- What the boxes of the two proposals hold, in a world that has grown. -/
theorem two_boxes {w w1 : World} {c0 c1 c2 c3 d0 d1 d2 d3 : Value} (hb : Below (w.heap.size + 2) ((w.alloc (.cells #[c0, c1, c2, c3] 30)).alloc (.cells #[d0, d1, d2, d3] 30)) w1) :
    (w1.cell? ⟨w.heap.size, 0, none⟩ = some c0 ∧ w1.cell? ⟨w.heap.size, 1, none⟩ = some c1 ∧ w1.cell? ⟨w.heap.size, 2, none⟩ = some c2 ∧ w1.cell? ⟨w.heap.size, 3, none⟩ = some c3) ∧
    (w1.cell? ⟨w.heap.size + 1, 0, none⟩ = some d0 ∧ w1.cell? ⟨w.heap.size + 1, 1, none⟩ = some d1 ∧ w1.cell? ⟨w.heap.size + 1, 2, none⟩ = some d2 ∧ w1.cell? ⟨w.heap.size + 1, 3, none⟩ = some d3) := by
  have h0 : w1.heap[w.heap.size]? = some (.cells #[c0, c1, c2, c3] 30 (0, 0)) := by
    rw [hb.block _ (by omega), Below.heap_alloc _ _ _ (by simp)]; exact heap_alloc_new w _
  have h1 : w1.heap[w.heap.size + 1]? = some (.cells #[d0, d1, d2, d3] 30 (0, 0)) := by
    rw [hb.block _ (by omega)]
    have := heap_alloc_new (w.alloc (.cells #[c0, c1, c2, c3] 30)) (.cells #[d0, d1, d2, d3] 30)
    simpa using this
  refine ⟨⟨?_, ?_, ?_, ?_⟩, ?_, ?_, ?_, ?_⟩
  · rw [cell_of_row w1 _ 0 _ 30 (0, 0) h0]; rfl
  · rw [cell_of_row w1 _ 1 _ 30 (0, 0) h0]; rfl
  · rw [cell_of_row w1 _ 2 _ 30 (0, 0) h0]; rfl
  · rw [cell_of_row w1 _ 3 _ 30 (0, 0) h0]; rfl
  · rw [cell_of_row w1 _ 0 _ 30 (0, 0) h1]; rfl
  · rw [cell_of_row w1 _ 1 _ 30 (0, 0) h1]; rfl
  · rw [cell_of_row w1 _ 2 _ 30 (0, 0) h1]; rfl
  · rw [cell_of_row w1 _ 3 _ 30 (0, 0) h1]; rfl

/-- The world behind the two boxes, and whatever grows out of it: what is read there. -/
structure Boxed (w W : World) (v0 v1 v2 v3 u0 u1 u2 u3 : Value) (a b : Option Addr) (n m : Nat) (zs ys : List Zt) : Prop where
  bel : Below w.heap.size w W
  size : w.heap.size + 2 ≤ W.heap.size
  rz : RdT W a n zs
  ry : RdT W b m ys
  box0 : W.cell? ⟨w.heap.size, 0, none⟩ = some v0 ∧ W.cell? ⟨w.heap.size, 1, none⟩ = some v1 ∧ W.cell? ⟨w.heap.size, 2, none⟩ = some v2 ∧ W.cell? ⟨w.heap.size, 3, none⟩ = some v3
  box1 : W.cell? ⟨w.heap.size + 1, 0, none⟩ = some u0 ∧ W.cell? ⟨w.heap.size + 1, 1, none⟩ = some u1 ∧ W.cell? ⟨w.heap.size + 1, 2, none⟩ = some u2 ∧ W.cell? ⟨w.heap.size + 1, 3, none⟩ = some u3

theorem Boxed.start {w : World} {v0 v1 v2 v3 u0 u1 u2 u3 : Value} {a b : Option Addr} {n m : Nat} {zs ys : List Zt} (h : RdT w a n zs) (h' : RdT w b m ys) :
    Boxed w ((w.alloc (.cells #[v0, v1, v2, v3] 30)).alloc (.cells #[u0, u1, u2, u3] 30)) v0 v1 v2 v3 u0 u1 u2 u3 a b n m zs ys := by
  have hb : Below w.heap.size w ((w.alloc (.cells #[v0, v1, v2, v3] 30)).alloc (.cells #[u0, u1, u2, u3] 30)) := ((Below.refl _ _).alloc (Nat.le_refl _) _).alloc (by simp) _
  obtain ⟨h1, h2⟩ := two_boxes (w := w) (c0 := v0) (c1 := v1) (c2 := v2) (c3 := v3) (d0 := u0) (d1 := u1) (d2 := u2) (d3 := u3) (Below.refl _ _)
  exact ⟨hb, by simp, h.later hb, h'.later hb, h1, h2⟩
theorem Boxed.later {w W W' : World} {v0 v1 v2 v3 u0 u1 u2 u3 : Value} {a b : Option Addr} {n m : Nat} {zs ys : List Zt} (h : Boxed w W v0 v1 v2 v3 u0 u1 u2 u3 a b n m zs ys) (hb : Below W.heap.size W W') :
    Boxed w W' v0 v1 v2 v3 u0 u1 u2 u3 a b n m zs ys := by
  have hs := h.size
  have c : ∀ k o, k < W.heap.size → W'.cell? ⟨k, o, none⟩ = W.cell? ⟨k, o, none⟩ := fun k o hk => hb.cell (p := ⟨k, o, none⟩) hk
  refine ⟨h.bel.trans (hb.mono h.bel.size), by have := hb.size; omega, h.rz.later hb, h.ry.later hb, ?_, ?_⟩
  · simp only [c _ _ (show w.heap.size < W.heap.size by omega)]; exact h.box0
  · simp only [c _ _ (show w.heap.size + 1 < W.heap.size by omega)]; exact h.box1
theorem Boxed.drew {w W : World} {v0 v1 v2 v3 u0 u1 u2 u3 : Value} {a b : Option Addr} {n m : Nat} {zs ys : List Zt} (h : Boxed w W v0 v1 v2 v3 u0 u1 u2 u3 a b n m zs ys) : Boxed w W.drew v0 v1 v2 v3 u0 u1 u2 u3 a b n m zs ys :=
  h.later (Below.refl _ _).drew

/-- A true into the row at G. -/
theorem arr_store {wr wc : World} {G : Nat} {P : List Bool} (hP : P.length = 256) (hG : wr.heap[G]? = some (.cells (rowB P) 49 (0, 0))) (hGb : wc.heap.size ≤ G) (hb : Below wc.heap.size wc wr) (k : Nat) (hk : k < 256) :
    wr.cell? ⟨G, k, none⟩ = some (.bool (P[k]?.getD false)) ∧ wr.frozen? ⟨G, k, none⟩ = false ∧ G < wr.heap.size ∧
    (wr.setCell ⟨G, k, none⟩ (.bool true)).heap[G]? = some (.cells (rowB (P.set k true)) 49 (0, 0)) ∧
    (∀ g, g ≠ G → (wr.setCell ⟨G, k, none⟩ (.bool true)).heap[g]? = wr.heap[g]?) ∧
    Below wc.heap.size wc (wr.setCell ⟨G, k, none⟩ (.bool true)) := by
  have hlt : G < wr.heap.size := (Array.getElem?_eq_some_iff.1 hG).1
  refine ⟨?_, frozen_of_row _ G _ _ 49 hG, hlt, ?_, ?_, hb.setCell (p := ⟨G, k, none⟩) hGb _⟩
  · rw [cell_of_row wr G k _ 49 (0, 0) hG]
    have := bV_at P k (by omega)
    simpa [rowB] using this
  · have := heap_setCell_same wr G k (rowB P) 49 (.bool true) hG
    rwa [rowB_set] at this
  · intro g hne
    rw [Below.heap_setCell _ _ _ _ (by simpa using hne)]

/-- The two arrays in memory. -/
structure Arr (wc wr : World) (P Q : List Bool) : Prop where
  g1 : wr.heap[wc.heap.size]? = some (.cells (rowB P) 49 (0, 0))
  g2 : wr.heap[wc.heap.size + 1]? = some (.cells (rowB Q) 49 (0, 0))
  bel : Below wc.heap.size wc wr
theorem Arr.start (wc : World) : Arr wc ((wc.alloc (.cells (rowB allF) 49)).alloc (.cells (rowB allF) 49)) allF allF := by
  refine ⟨?_, ?_, ((Below.refl _ _).alloc (Nat.le_refl _) _).alloc (by simp) _⟩
  · rw [Below.heap_alloc _ _ _ (by simp)]; exact heap_alloc_new wc _
  · have := heap_alloc_new (wc.alloc (.cells (rowB allF) 49)) (.cells (rowB allF) 49)
    simpa using this
theorem Arr.later {wc wr w' : World} {P Q : List Bool} (h : Arr wc wr P Q) (hb : Below wr.heap.size wr w') : Arr wc w' P Q := by
  have l1 := (Array.getElem?_eq_some_iff.1 h.g1).1
  have l2 := (Array.getElem?_eq_some_iff.1 h.g2).1
  exact ⟨(hb.block _ l1).trans h.g1, (hb.block _ l2).trans h.g2, h.bel.trans (hb.mono h.bel.size)⟩
theorem Arr.set1 {wc wr : World} {P Q : List Bool} (h : Arr wc wr P Q) (hP : P.length = 256) (k : Nat) (hk : k < 256) :
    wr.cell? ⟨wc.heap.size, k, none⟩ = some (.bool (P[k]?.getD false)) ∧ wr.frozen? ⟨wc.heap.size, k, none⟩ = false ∧ wc.heap.size < wr.heap.size ∧ ∀ o, Arr wc ((wr.setCell ⟨wc.heap.size, k, none⟩ (.bool true)).alloc o) (P.set k true) Q := by
  obtain ⟨a1, a2, a3, a4, a5, a6⟩ := arr_store hP h.g1 (Nat.le_refl _) h.bel k hk
  exact ⟨a1, a2, a3, fun o => Arr.later ⟨a4, (a5 _ (by omega)).trans h.g2, a6⟩ ((Below.refl _ _).alloc (Nat.le_refl _) o)⟩
theorem Arr.set2 {wc wr : World} {P Q : List Bool} (h : Arr wc wr P Q) (hQ : Q.length = 256) (k : Nat) (hk : k < 256) :
    wr.cell? ⟨wc.heap.size + 1, k, none⟩ = some (.bool (Q[k]?.getD false)) ∧ wr.frozen? ⟨wc.heap.size + 1, k, none⟩ = false ∧ wc.heap.size + 1 < wr.heap.size ∧ ∀ o, Arr wc ((wr.setCell ⟨wc.heap.size + 1, k, none⟩ (.bool true)).alloc o) P (Q.set k true) := by
  obtain ⟨a1, a2, a3, a4, a5, a6⟩ := arr_store hQ h.g2 (by omega) h.bel k hk
  exact ⟨a1, a2, a3, fun o => Arr.later ⟨(a5 _ (by omega)).trans h.g1, a4, a6⟩ ((Below.refl _ _).alloc (Nat.le_refl _) o)⟩

/-- offers, behind equal protocols. -/
def offB (zs ys : List Zt) : Bool := decide (tset (expl ys) = tset (expl zs)) && (expl ys).all fun t => hasZ (expl zs) t

theorem all_take {zs os : List Zt} {k : Nat} (h : k < zs.length) (h0 : ((zs.take k).all fun t => hasZ os t) = true) (hd : hasZ os (zs[k]?.getD (0, 0, 0)) = true) : ((zs.take (k + 1)).all fun t => hasZ os t) = true := by
  rw [List.take_add_one, List.getElem?_eq_getElem h, List.all_append, h0]
  rw [List.getElem?_eq_getElem h] at hd
  simpa using hd
theorem all_bad {zs os : List Zt} {k : Nat} (h : k < zs.length) (hd : hasZ os (zs[k]?.getD (0, 0, 0)) = false) : (zs.all fun t => hasZ os t) = false := by
  rw [List.all_eq_false]
  rw [List.getElem?_eq_getElem h] at hd
  exact ⟨zs[k], List.getElem_mem h, by rw [show hasZ os zs[k] = false from hd]; simp⟩

set_option maxHeartbeats 4000000 in
theorem offers33 (x0 x1 y0 : Int) (a2 b2 : Option Addr) (n2 c2 m2 d2 : Nat) (a b : Option Addr) (n c m d : Nat) (zs ys : List Zt) (w : World) (h : RdT w a n zs) (ha : a = none → n = 0) (hn : n ≤ 65536) (hnc : n ≤ c) (hc : c ≤ 9223372036854775807)
    (h' : RdT w b m ys) (hb : b = none → m = 0) (hm : m ≤ 65536) (hmd : m ≤ d) (hd : d ≤ 9223372036854775807) (tz : ∀ k : Nat, 0 ≤ ((expl zs)[k]?.getD (0, 0, 0)).1 ∧ ((expl zs)[k]?.getD (0, 0, 0)).1 ≤ 255) (ty : ∀ k : Nat, 0 ≤ ((expl ys)[k]?.getD (0, 0, 0)).1 ∧ ((expl ys)[k]?.getD (0, 0, 0)).1 ≤ 255) :
    Calls Try.prog 33 #[.agg #[.int .u8 x0, .int .u8 x1, .slice a2 n2 c2, .slice a n c], .agg #[.int .u8 y0, .int .u8 x1, .slice b2 m2 d2, .slice b m d]] w fun e w' => e = .returned (.bool (offB zs ys)) ∧ Below w.heap.size w w' := by
  have hX := Boxed.start (v0 := .int .u8 x0) (v1 := .int .u8 x1) (v2 := .slice a2 n2 c2) (v3 := .slice a n c) (u0 := .int .u8 y0) (u1 := .int .u8 x1) (u2 := .slice b2 m2 d2) (u3 := .slice b m d) h h'
  have HA : Hid (a = none → n = 0) := ha
  have HB : Hid (b = none → m = 0) := hb
  clear h h' ha hb
  go_enter Try.func33, Try.ntmps33
  go_wp2
  generalize (w.alloc (.cells #[.int .u8 x0, .int .u8 x1, .slice a2 n2 c2, .slice a n c] 30)).alloc (.cells #[.int .u8 y0, .int .u8 x1, .slice b2 m2 d2, .slice b m d] 30) = W at *
  have HX : Hid (Boxed w W (.int .u8 x0) (.int .u8 x1) (.slice a2 n2 c2) (.slice a n c) (.int .u8 y0) (.int .u8 x1) (.slice b2 m2 d2) (.slice b m d) a b n m zs ys) := hX
  obtain ⟨p0, p1, p2, p3⟩ := hX.box0
  obtain ⟨q0, q1, q2, q3⟩ := hX.box1
  clear hX
  go_cut [5, 6] from 15 (fun s5 s6 wc => ∃ (a' b' : Option Addr) (c' d' : Nat), s5 = .slice a' (expl zs).length c' ∧ s6 = .slice b' (expl ys).length d' ∧ RdT wc a' (expl zs).length (expl zs) ∧ RdT wc b' (expl ys).length (expl ys) ∧ Below w.heap.size w wc)
  case first =>
    go_region_with (first
      | (go_at_call_of 38 (Value.slice a n c); refine (expl38 x0 x1 a2 n2 c2 a n c zs _ ?_ HA.out hn hnc hc).mono ?_; exact HX.out.drew.rz; rintro e w1 ⟨a', c', rfl, rd1, hb1⟩; have HX1 := HX.out.drew.later hb1; obtain ⟨q0, q1, q2, q3⟩ := HX1.box1)
      | (go_at_call_of 38 (Value.slice b m d); refine (expl38 y0 x1 b2 m2 d2 b m d ys _ ?_ HB.out hm hmd hd).mono ?_; exact HX1.ry; rintro e w2 ⟨b', d', rfl, rd2, hb2⟩))
    all_goals
      have R1 := rd1.later hb2
      have R2 := HX1.bel.trans (hb2.mono HX1.bel.size)
      try go_wp2_with fail
      go_meet
      exact ⟨_, _, _, _, rfl, rfl, R1, rd2, R2⟩
  case rest =>
    obtain ⟨a', b', c', d', e5, e6, r1, r2, hbel⟩ := hcut
    subst e5 e6
    have pz := expl_pos zs
    have py := expl_pos ys
    have lz := expl_len zs
    have ly := expl_len ys
    have ez := r1.len
    have hzn : (expl zs).length ≤ 65537 := by have := HX.out.rz.len; omega
    have hyn : (expl ys).length ≤ 65537 := by have := HX.out.ry.len; omega
    have HO : Hid (offB zs ys = (decide (tset (expl ys) = tset (expl zs)) && (expl ys).all fun t => hasZ (expl zs) t)) := rfl
    clear HX HA HB p0 p1 p2 p3 q0 q1 q2 q3 lz ly ez
    generalize expl zs = Z at *
    generalize expl ys = Y at *
    generalize hN : Z.length = N at *
    generalize hM : Y.length = M at *
    have HN : Hid (Z.length = N) := hN
    have HM : Hid (Y.length = M) := hM
    have TZ : Hid (∀ k : Nat, 0 ≤ (Z[k]?.getD (0, 0, 0)).1 ∧ (Z[k]?.getD (0, 0, 0)).1 ≤ 255) := tz
    have TY : Hid (∀ k : Nat, 0 ≤ (Y[k]?.getD (0, 0, 0)).1 ∧ (Y[k]?.getD (0, 0, 0)).1 ≤ 255) := ty
    have R1 : Hid (RdT wc a' N Z) := r1
    have R2 : Hid (RdT wc b' M Y) := r2
    have hal := zero49
    clear hN hM tz ty r1 r2
    obtain ⟨yb, yo, ey, hyb, hyc⟩ : ∃ yb yo, b' = some ⟨yb, yo, none⟩ ∧ yb < wc.heap.size ∧ ∀ i, i < M → TrAt wc yb yo i (Y[i]?.getD (0, 0, 0)) := by
      rcases R2.out.cases with h0 | ⟨_, b, off, e, h1, h2⟩
      · omega
      · exact ⟨b, off, e, h1, h2⟩
    obtain ⟨zb, zo, ez, hzb, hzc⟩ : ∃ zb zo, a' = some ⟨zb, zo, none⟩ ∧ zb < wc.heap.size ∧ ∀ i, i < N → TrAt wc zb zo i (Z[i]?.getD (0, 0, 0)) := by
      rcases R1.out.cases with h0 | ⟨_, b, off, e, h1, h2⟩
      · omega
      · exact ⟨b, off, e, h1, h2⟩
    subst ey ez
    have YC : Hid (∀ i, i < M → TrAt wc yb yo i (Y[i]?.getD (0, 0, 0))) := hyc
    have ZC : Hid (∀ i, i < N → TrAt wc zb zo i (Z[i]?.getD (0, 0, 0))) := hzc
    clear hyc hzc
    have A0 := Arr.start wc
    go_wp2
    go_loopw [26] (fun i wr => ∃ k : Nat, k ≤ M ∧ i = .int .i64 k ∧ Arr wc wr (tset (Y.take k)) allF) (fun i _ => M - (intOf i).toNat)
    case atStart => exact ⟨0, Nat.zero_le _, rfl, A0⟩
    case round =>
      clear A0
      obtain ⟨k, hk, rfl, hA⟩ := hrel
      by_cases hlt : k < M
      · obtain ⟨q1, q2, q3, q4⟩ := (YC.out k hlt).later hA.bel hyb
        obtain ⟨t0, t1⟩ := TY.out k
        have HT : Hid (tset (Y.take (k + 1)) = (tset (Y.take k)).set (Y[k]?.getD (0, 0, 0)).1.toNat true) := tset_take Y k (by rw [HM.out]; exact hlt)
        have hi1 : (k : Int) < (M : Int) := by omega
        generalize Y[k]?.getD (0, 0, 0) = t at *
        obtain ⟨x, y, z⟩ := t
        obtain ⟨s1, s2, s3, s4⟩ := hA.set1 (tset_len _) x.toNat (by simp at t1; omega)
        have S4 : Hid (∀ o, Arr wc ((wr.setCell ⟨wc.heap.size, x.toNat, none⟩ (.bool true)).alloc o) ((tset (Y.take k)).set x.toNat true) allF) := s4
        clear s4 hA
        generalize tset (Y.take k) = P at *
        go_wp2
        go_roundw
        case rel => exact ⟨k + 1, by omega, by go_num, by rw [HT.out]; exact S4.out _⟩
        case measure => simp [intOf]; omega
      · rw [List.take_of_length_le (by rw [HM.out]; omega)] at hA
        have hA' : Arr wc wr (tset Y) (tset (Z.take 0)) := hA
        clear hA
        have hlY := tset_len Y
        generalize hPY : tset Y = PY at *
        have HPY : Hid (tset Y = PY) := hPY
        have hlY' : Hid (PY.length = 256) := hlY
        clear hPY hlY
        go_wp2
        go_loopw [36] (fun i wr => ∃ k : Nat, k ≤ N ∧ i = .int .i64 k ∧ Arr wc wr PY (tset (Z.take k))) (fun i _ => N - (intOf i).toNat)
        case atStart => exact ⟨0, Nat.zero_le _, rfl, hA'⟩
        case round =>
          clear hA' hk hlt
          obtain ⟨k, hk, rfl, hA⟩ := hrel
          by_cases hlt : k < N
          · obtain ⟨q1, q2, q3, q4⟩ := (ZC.out k hlt).later hA.bel hzb
            obtain ⟨t0, t1⟩ := TZ.out k
            have HT : Hid (tset (Z.take (k + 1)) = (tset (Z.take k)).set (Z[k]?.getD (0, 0, 0)).1.toNat true) := tset_take Z k (by rw [HN.out]; exact hlt)
            have hi1 : (k : Int) < (N : Int) := by omega
            generalize Z[k]?.getD (0, 0, 0) = t at *
            obtain ⟨x, y, z⟩ := t
            obtain ⟨s1, s2, s3, s4⟩ := hA.set2 (tset_len _) x.toNat (by simp at t1; omega)
            have S4 : Hid (∀ o, Arr wc ((wr.setCell ⟨wc.heap.size + 1, x.toNat, none⟩ (.bool true)).alloc o) PY ((tset (Z.take k)).set x.toNat true)) := s4
            clear s4 hA
            generalize tset (Z.take k) = P at *
            go_wp2
            go_roundw
            case rel => exact ⟨k + 1, by omega, by go_num, by rw [HT.out]; exact S4.out _⟩
            case measure => simp [intOf]; omega
          · rw [List.take_of_length_le (by rw [HN.out]; omega)] at hA
            have hlZ := tset_len Z
            generalize hPZ : tset Z = PZ at *
            have HPZ : Hid (tset Z = PZ) := hPZ
            have hneq := neq49 PY PZ hlY'.out hlZ
            have HG1 := hA.g1
            have HG2 := hA.g2
            have e1 : (Try.prog.info? 49).map (·.size) = some (rowB PY).size := by rw [Try.size49, rowB_size, hlY'.out]
            have e2 : (Try.prog.info? 49).map (·.size) = some (rowB PZ).size := by rw [Try.size49, rowB_size, hlZ]
            have HA : Hid (Arr wc wr PY PZ) := hA
            have E1 : Hid ((Try.prog.info? 49).map (·.size) = some (rowB PY).size) := e1
            have E2 : Hid ((Try.prog.info? 49).map (·.size) = some (rowB PZ).size) := e2
            have G1 : Hid (wr.heap[wc.heap.size]? = some (.cells (rowB PY) 49 (0, 0))) := HG1
            have G2 : Hid (wr.heap[wc.heap.size + 1]? = some (.cells (rowB PZ) 49 (0, 0))) := HG2
            clear hPZ hlZ hA HG1 HG2 e1 e2
            by_cases hPQ : PY = PZ
            · have hneq' : ∀ W, (binOp .neq 49 (.agg (rowB PY)) (.agg (rowB PZ))).run Try.prog W = .ok (.bool false) W := fun W => by rw [hneq W, decide_eq_true hPQ]; rfl
              have HO' : Hid (offB zs ys = Y.all fun t => hasZ Z t) := by
                show offB zs ys = _
                rw [HO.out, decide_eq_true hPQ, Bool.true_and]
              have hB := HA.out.bel
              clear hneq hPQ HO HPY HPZ HA
              go_wp2_with (first | (refine wpList_load_row rfl 49 (.tmp 7) rfl wc.heap.size rfl 49 (rowB PY) (0, 0) _ G1.out Try.underlying49 rfl E1.out ?_) | (refine wpList_load_row rfl 49 (.tmp 8) rfl (wc.heap.size + 1) rfl 49 (rowB PZ) (0, 0) _ G2.out Try.underlying49 rfl E2.out ?_))
              clear G1 G2 E1 E2 hneq'
              go_loopw [49] (fun i wr => ∃ k : Nat, k ≤ M ∧ i = .int .i64 k ∧ Hid (((Y.take k).all fun t => hasZ Z t) = true) ∧ Below wc.heap.size wc wr) (fun i _ => M - (intOf i).toNat)
              case atStart => exact ⟨0, Nat.zero_le _, rfl, rfl, hB⟩
              case round =>
                clear hB hk hlt
                obtain ⟨k, hk, rfl, hz, hb⟩ := hrel
                by_cases hlt : k < M
                · obtain ⟨q1, q2, q3, q4⟩ := (YC.out k hlt).later hb hyb
                  have HN' : Hid (hasZ Z (Y[k]?.getD (0, 0, 0)) = true → ((Y.take (k + 1)).all fun t => hasZ Z t) = true) := all_take (by rw [HM.out]; exact hlt) hz.out
                  have HY' : Hid (hasZ Z (Y[k]?.getD (0, 0, 0)) = false → (Y.all fun t => hasZ Z t) = false) := all_bad (by rw [HM.out]; exact hlt)
                  have hi1 : (k : Int) < (M : Int) := by omega
                  generalize Y[k]?.getD (0, 0, 0) = t at *
                  obtain ⟨x, y, z⟩ := t
                  have hb1 := fun o => hb.alloc hb.size o
                  have HB1 : Hid (∀ o, Below wc.heap.size wc (wr.alloc o)) := hb1
                  clear hb1 hz
                  go_wp2_with fail
                  refine (contains39 _ _ _ Z x y z _ (R1.out.later (HB1.out _)) (by omega)).mono ?_
                  rintro e w5 ⟨rfl, b5⟩
                  have bel5 := (HB1.out _).trans (b5.mono (HB1.out _).size)
                  clear b5 HB1
                  cases hzz : hasZ Z (x, y, z) with
                  | true =>
                    have HT : Hid (((Y.take (k + 1)).all fun t => hasZ Z t) = true) := HN'.out hzz
                    clear hzz HN' HY'
                    go_wp2
                    go_roundw
                    case rel => exact ⟨k + 1, by omega, by go_num, HT, bel5⟩
                    case measure => simp [intOf]; omega
                  | false =>
                    have HT : Hid ((Y.all fun t => hasZ Z t) = false) := HY'.out hzz
                    clear hzz HN' HY'
                    go_wp2
                    go_ret
                    exact ⟨ret_b (by rw [HO'.out, HT.out]), hbel.trans (bel5.mono hbel.size)⟩
                · have HT : Hid ((Y.all fun t => hasZ Z t) = true) := by have := hz.out; rwa [List.take_of_length_le (by rw [HM.out]; omega)] at this
                  go_wp2
                  go_ret
                  exact ⟨ret_b (by rw [HO'.out, HT.out]), hbel.trans (hb.mono hbel.size)⟩
            · have hneq' : ∀ W, (binOp .neq 49 (.agg (rowB PY)) (.agg (rowB PZ))).run Try.prog W = .ok (.bool true) W := fun W => by rw [hneq W, decide_eq_false hPQ]; rfl
              have HO' : Hid (offB zs ys = false) := by
                show offB zs ys = _
                rw [HO.out, decide_eq_false hPQ, Bool.false_and]
              have hB := HA.out.bel
              clear hneq hPQ HO HPY HPZ HA
              go_wp2_with (first | (refine wpList_load_row rfl 49 (.tmp 7) rfl wc.heap.size rfl 49 (rowB PY) (0, 0) _ G1.out Try.underlying49 rfl E1.out ?_) | (refine wpList_load_row rfl 49 (.tmp 8) rfl (wc.heap.size + 1) rfl 49 (rowB PZ) (0, 0) _ G2.out Try.underlying49 rfl E2.out ?_))
              go_ret
              exact ⟨ret_b (by rw [HO'.out]), hbel.trans (hB.mono hbel.size)⟩
end Go.Proofs.Qxb6600185a
