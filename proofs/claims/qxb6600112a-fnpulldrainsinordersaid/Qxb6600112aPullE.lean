/-
  pull (function 30) as one contract; ZZPull (26).
-/
import Derived.Test.Qxb6600112aPullD
namespace Go.Proofs.Qxb6600112a
open Go.RowKit

/-- A slice of strings that the run itself has made: it owns these strings. -/
def OwnS (w : World) (base : Nat) (v : Value) (ss : List ByteArray) : Prop := w.ownsRow base 9 1 v ss.length (strV ss)

theorem OwnS.parts {w : World} {base : Nat} {v : Value} {ss : List ByteArray} (h : OwnS w base v ss) (hl : 0 < ss.length) :
    ∃ (g cap : Nat) (cur : Array Value), v = .slice (some ⟨g, 0, none⟩) ss.length cap ∧ base ≤ g ∧ w.heap[g]? = some (.cells cur 9 (0, 0)) ∧ ss.length ≤ cap ∧ cap ≤ maxLen ∧ cur.size = cap ∧ cur.toList.take ss.length = strV ss := by
  rcases h.2 with ⟨_, h0⟩ | ⟨g, cap, cur, h1, h2, h3, h4, h5, h6, h7⟩
  · omega
  · exact ⟨g, cap, cur, h1, h2, h3, h4, h5, by simpa using h6, by simpa using h7⟩

theorem OwnS.form {w : World} {base : Nat} {v : Value} {ss : List ByteArray} (h : OwnS w base v ss) : ∃ a c, v = .slice a ss.length c := by
  rcases h.2 with ⟨h1, h0⟩ | ⟨g, cap, cur, h1, _⟩
  · exact ⟨none, 0, by rw [h0]; exact h1⟩
  · exact ⟨_, _, h1⟩

theorem OwnS.close {w : World} {base g cap n : Nat} {cur : Array Value} {ss : List ByteArray} (hb : base ≤ g) (hg : w.heap[g]? = some (.cells cur 9 (0, 0))) (hn : ss.length = n) (hc : n ≤ cap) (hm : cap ≤ maxLen) (hs : cur.size = cap)
    (ht : cur.toList.take n = strV ss) : OwnS w base (.slice (some ⟨g, 0, none⟩) n cap) ss := by
  subst hn
  exact ⟨by rw [strV_len]; omega, .inr ⟨g, cap, cur, rfl, hb, hg, hc, hm, by omega, by simpa using ht⟩⟩

theorem OwnS.nil (w : World) (base : Nat) : OwnS w base (.slice none 0 0) [] := World.ownsRow_nil w base 9 1

/-- What is owned stays owned where its block has not turned. -/
theorem OwnS.keep {w w' : World} {base : Nat} {v : Value} {ss : List ByteArray} (h : OwnS w base v ss) (hk : ∀ k, v.ownBlock = some k → w'.heap[k]? = w.heap[k]?) : OwnS w' base v ss := by
  refine ⟨h.1, ?_⟩
  rcases h.2 with h0 | ⟨g, cap, cur, rfl, hb, hg, r⟩
  · exact .inl h0
  · exact .inr ⟨g, cap, cur, rfl, hb, by rw [hk g rfl]; exact hg, r⟩

theorem OwnS.block {w : World} {base : Nat} {v : Value} {ss : List ByteArray} (h : OwnS w base v ss) : ∀ k, v.ownBlock = some k → base ≤ k ∧ k < w.heap.size ∧ ∃ cur, w.heap[k]? = some (.cells cur 9 (0, 0)) := by
  intro k hk
  have h1 := World.ownsRow.lt h k hk
  refine ⟨h1.1, h1.2, ?_⟩
  rcases h.2 with ⟨rfl, _⟩ | ⟨g, cap, cur, rfl, hb, hg, _⟩
  · simp [Value.ownBlock] at hk
  · simp [Value.ownBlock] at hk
    subst hk
    exact ⟨cur, hg⟩

/-- The lines of a buffer from the top. -/
def lines (ps qs : List ByteArray) (h : Nat) : List ByteArray := ps.reverse ++ qs.drop h

/-- What a pull leaves. -/
structure Pulled (w w' : World) (base : Nat) (vp vq : Value) (ps qs : List ByteArray) (h : Nat) (x : ByteArray) (vp' vq' : Value) (ps' qs' : List ByteArray) (h' : Nat) : Prop where
  own0 : OwnS w' base vp' ps'
  own1 : OwnS w' base vq' qs'
  from0 : ∀ k, vp'.ownBlock = some k → vp.ownBlock = some k
  from1 : ∀ k, vq'.ownBlock = some k → vq.ownBlock = some k
  head : h' ≤ qs'.length
  list : lines ps qs h = x :: lines ps' qs' h'
  len0 : ps'.length ≤ ps.length
  len1 : qs'.length ≤ qs.length
  os : w'.os = w.os
  tape : w'.tape = w.tape
  output : w'.output = w.output
  size : w.heap.size ≤ w'.heap.size

theorem ne_box {w : World} {B g : Nat} {a b : Array Value} (h1 : w.heap[g]? = some (.cells a 9 (0, 0))) (h2 : w.heap[B]? = some (.cells b 47 (0, 0))) : g ≠ B := by
  rintro rfl
  rw [h1] at h2
  simp at h2

theorem lines_pushed (ps : List ByteArray) (x : ByteArray) (qs : List ByteArray) (h : Nat) : lines (ps ++ [x]) qs h = x :: lines ps qs h := by simp [lines]

theorem strV_append (a b : List ByteArray) : strV (a ++ b) = strV a ++ strV b := by simp [strV]

/-- The pull of a line that was pushed. -/
theorem pulled_pushed {w w' : World} {B base g cap n : Nat} {cur : Array Value} {ps qs : List ByteArray} {x : ByteArray} {vq : Value} {h : Nat} {a' : Option Addr} {c' : Nat}
    (hb : base ≤ g) (hg : w.heap[g]? = some (.cells cur 9 (0, 0))) (hc : n + 1 ≤ cap) (hm : cap ≤ maxLen) (hs : cur.size = cap) (hn : ps.length = n) (ht : cur.toList.take (n + 1) = strV (ps ++ [x]))
    (hq : OwnS w base vq qs) (hpq : vq.ownBlock ≠ some g) (hB : w.heap[B]? = some (.cells #[.slice (some ⟨g, 0, none⟩) (n + 1) cap, vq, .int .i64 h] 47 (0, 0))) (hh : h ≤ qs.length)
    (he : Emp (some ⟨g, 0, none⟩) n cap a' c') (hw : w' = (w.setCell ⟨g, n, none⟩ (.string ⟨#[]⟩)).setCell ⟨B, 0, none⟩ (.slice a' n c')) :
    Pulled w w' base (.slice (some ⟨g, 0, none⟩) (n + 1) cap) vq (ps ++ [x]) qs h x (.slice a' n c') vq ps qs h ∧ w'.heap[B]? = some (.cells #[.slice a' n c', vq, .int .i64 h] 47 (0, 0)) ∧
      ∀ k, k ≠ B → k ≠ g → w'.heap[k]? = w.heap[k]? := by
  have hne := ne_box hg hB
  have g1 : w'.heap[g]? = some (.cells (cur.setIfInBounds n (.string ⟨#[]⟩)) 9 (0, 0)) := by
    rw [hw, Below.heap_setCell _ _ _ _ (by simpa using hne)]; exact heap_setCell_same w g n cur 9 _ hg
  have b1 : w'.heap[B]? = some (.cells #[.slice a' n c', vq, .int .i64 h] 47 (0, 0)) := by
    have e1 : (w.setCell ⟨g, n, none⟩ (.string ⟨#[]⟩)).heap[B]? = some (.cells #[.slice (some ⟨g, 0, none⟩) (n + 1) cap, vq, .int .i64 h] 47 (0, 0)) := by
      rw [Below.heap_setCell _ _ _ _ (by simpa using hne.symm)]; exact hB
    have e2 := heap_setCell_same _ B 0 _ 47 (.slice a' n c') e1
    rw [hw]; simpa using e2
  have oth : ∀ k, k ≠ B → k ≠ g → w'.heap[k]? = w.heap[k]? := by
    intro k k1 k2
    rw [hw, Below.heap_setCell _ _ _ _ (by simpa using k1), Below.heap_setCell _ _ _ _ (by simpa using k2)]
  have ht' : (cur.setIfInBounds n (.string ⟨#[]⟩)).toList.take n = strV ps := by
    rw [Array.toList_setIfInBounds, List.take_set_of_le (Nat.le_refl _)]
    have := congrArg (List.take n) ht
    rw [List.take_take, Nat.min_eq_left (by omega), strV_append, List.take_append_of_le_length (by rw [strV_len]; omega)] at this
    exact this.trans (List.take_of_length_le (by rw [strV_len]; omega))
  have own1 : OwnS w' base vq qs := by
    refine hq.keep fun k hk => ?_
    have hk1 := hq.block k hk
    obtain ⟨c2, hc2⟩ := hk1.2.2
    exact oth k (ne_box hc2 hB) (fun e => hpq (by rw [← e]; exact hk))
  have szw : w.heap.size ≤ w'.heap.size := by rw [hw]; simp
  refine ⟨⟨?_, own1, ?_, fun _ hk => hk, hh, lines_pushed _ _ _ _, by simp, Nat.le_refl _, by rw [hw]; rfl, by rw [hw]; rfl, by rw [hw]; rfl, szw⟩, b1, oth⟩
  · rcases he with ⟨rfl, rfl⟩ | ⟨rfl, rfl, h0⟩
    · exact OwnS.close hb g1 hn (by omega) hm (by simpa using hs) ht'
    · subst h0
      have : ps = [] := List.eq_nil_of_length_eq_zero hn
      subst this
      exact OwnS.nil _ _
  · intro k hk
    rcases he with ⟨rfl, rfl⟩ | ⟨rfl, rfl, h0⟩
    · simpa [Value.ownBlock] using hk
    · simp [Value.ownBlock] at hk

/-- The pull of a line that was queued. -/
theorem pulled_queued {w w' : World} {B base g cap n' h h' : Nat} {qs qs' : List ByteArray} {x : ByteArray} {vp : Value} {a' : Option Addr} {c' : Nat}
    (hb : base ≤ g) (hm : cap ≤ maxLen) (hp : OwnS w base vp []) (hpq : vp.ownBlock ≠ some g)
    (hB : w.heap[B]? = some (.cells #[vp, .slice (some ⟨g, 0, none⟩) qs.length cap, .int .i64 h] 47 (0, 0)))
    (he : Emp (some ⟨g, 0, none⟩) n' cap a' c') (hn : qs'.length = n') (hnc : n' ≤ cap) (hle : qs'.length ≤ qs.length) (hh : h' ≤ qs'.length) (hl : qs.drop h = x :: qs'.drop h')
    (hU : Upd w w' B g #[vp, .slice a' n' c', .int .i64 h'] cap n' qs') :
    Pulled w w' base vp (.slice (some ⟨g, 0, none⟩) qs.length cap) [] qs h x vp (.slice a' n' c') [] qs' h' ∧ w'.heap[B]? = some (.cells #[vp, .slice a' n' c', .int .i64 h'] 47 (0, 0)) ∧
      ∀ k, k ≠ B → k ≠ g → w'.heap[k]? = w.heap[k]? := by
  obtain ⟨u1, u2, u3, u4, u5, ⟨c2, v1, v2, v3⟩, u6⟩ := hU
  have own0 : OwnS w' base vp [] := by
    refine hp.keep fun k hk => ?_
    have hk1 := hp.block k hk
    obtain ⟨c2, hc2⟩ := hk1.2.2
    exact u6 k (ne_box hc2 hB) (fun e => hpq (by rw [← e]; exact hk))
  refine ⟨⟨own0, ?_, fun _ hk => hk, ?_, hh, by simpa [lines] using hl, Nat.le_refl _, hle, u1, u2, u3, by omega⟩, u5, u6⟩
  · rcases he with ⟨rfl, rfl⟩ | ⟨rfl, rfl, h0⟩
    · exact OwnS.close hb v1 hn hnc hm v2 v3
    · subst h0
      have : qs' = [] := List.eq_nil_of_length_eq_zero hn
      subst this
      exact OwnS.nil _ _
  · intro k hk
    rcases he with ⟨rfl, rfl⟩ | ⟨rfl, rfl, h0⟩
    · simpa [Value.ownBlock] using hk
    · simp [Value.ownBlock] at hk

theorem upd_last {w w' : World} {B g cap h : Nat} {v0 x1 x2 y v1 v2 : Value} {cur : Array Value} (hg : w.heap[g]? = some (.cells cur 9 (0, 0))) (hs : cur.size = cap)
    (hB : w.heap[B]? = some (.cells #[v0, x1, x2] 47 (0, 0)))
    (hw : SameW w' ((((w.setCell ⟨g, h, none⟩ (.string ⟨#[]⟩)).setCell ⟨B, 2, none⟩ y).setCell ⟨B, 1, none⟩ v1).setCell ⟨B, 2, none⟩ v2)) : Upd w w' B g #[v0, v1, v2] cap 0 [] := by
  have hne := ne_box hg hB
  obtain ⟨h1, h2, h3, h4⟩ := hw
  refine ⟨h2, h3, h4, by rw [h1]; simp, ?_, ⟨cur.setIfInBounds h (.string ⟨#[]⟩), ?_, by simpa using hs, by simp [strV]⟩, ?_⟩
  · have e0 : (w.setCell ⟨g, h, none⟩ (.string ⟨#[]⟩)).heap[B]? = some (.cells #[v0, x1, x2] 47 (0, 0)) := by
      rw [Below.heap_setCell _ _ _ _ (by simpa using hne.symm)]; exact hB
    have e1 := heap_setCell_same _ B 2 _ 47 y e0
    have e2 := heap_setCell_same _ B 1 _ 47 v1 e1
    have e3 := heap_setCell_same _ B 2 _ 47 v2 e2
    rw [h1]; simpa using e3
  · rw [h1, Below.heap_setCell _ _ _ _ (by simpa using hne), Below.heap_setCell _ _ _ _ (by simpa using hne), Below.heap_setCell _ _ _ _ (by simpa using hne)]
    exact heap_setCell_same w g h cur 9 _ hg
  · intro k k1 k2
    rw [h1, Below.heap_setCell _ _ _ _ (by simpa using k1), Below.heap_setCell _ _ _ _ (by simpa using k1), Below.heap_setCell _ _ _ _ (by simpa using k1), Below.heap_setCell _ _ _ _ (by simpa using k2)]

theorem upd_mid {w w' : World} {B g cap h n : Nat} {v0 x1 x2 y : Value} {cur : Array Value} {qs : List ByteArray} (hg : w.heap[g]? = some (.cells cur 9 (0, 0))) (hs : cur.size = cap)
    (hB : w.heap[B]? = some (.cells #[v0, x1, x2] 47 (0, 0))) (ht : cur.toList.take n = strV qs)
    (hw : SameW w' ((w.setCell ⟨g, h, none⟩ (.string ⟨#[]⟩)).setCell ⟨B, 2, none⟩ y)) : Upd w w' B g #[v0, x1, y] cap n (qs.set h ⟨#[]⟩) := by
  have hne := ne_box hg hB
  obtain ⟨h1, h2, h3, h4⟩ := hw
  refine ⟨h2, h3, h4, by rw [h1]; simp, ?_, ⟨cur.setIfInBounds h (.string ⟨#[]⟩), ?_, by simpa using hs, ?_⟩, ?_⟩
  · have e0 : (w.setCell ⟨g, h, none⟩ (.string ⟨#[]⟩)).heap[B]? = some (.cells #[v0, x1, x2] 47 (0, 0)) := by
      rw [Below.heap_setCell _ _ _ _ (by simpa using hne.symm)]; exact hB
    have e1 := heap_setCell_same _ B 2 _ 47 y e0
    rw [h1]; simpa using e1
  · rw [h1, Below.heap_setCell _ _ _ _ (by simpa using hne)]
    exact heap_setCell_same w g h cur 9 _ hg
  · rw [Array.toList_setIfInBounds, List.take_set, ht, strV, strV, List.map_set]
  · intro k k1 k2
    rw [h1, Below.heap_setCell _ _ _ _ (by simpa using k1), Below.heap_setCell _ _ _ _ (by simpa using k2)]

/-- ONE CONTRACT FOR pull. -/
theorem pull30 (B base : Nat) (vp vq : Value) (ps qs : List ByteArray) (h : Nat) (w : World) (hp : OwnS w base vp ps) (hq : OwnS w base vq qs)
    (hB : w.heap[B]? = some (.cells #[vp, vq, .int .i64 h] 47 (0, 0))) (hpq : ∀ g, vp.ownBlock = some g → vq.ownBlock = some g → False)
    (lp : ps.length ≤ 65536) (lq : qs.length ≤ 65536) (hh : h ≤ qs.length) (hne : lines ps qs h ≠ []) :
    Calls Try.prog 30 #[.pointer (some ⟨B, 0, none⟩)] w fun e w' => ∃ x vp' vq' ps' qs' h', e = .returned (.string x) ∧ Pulled w w' base vp vq ps qs h x vp' vq' ps' qs' h' ∧
      w'.heap[B]? = some (.cells #[vp', vq', .int .i64 h'] 47 (0, 0)) ∧ ∀ k, k ≠ B → vp.ownBlock ≠ some k → vq.ownBlock ≠ some k → w'.heap[k]? = w.heap[k]? := by
  rcases List.eq_nil_or_concat ps with rfl | ⟨ps0, x, rfl⟩
  · -- a queued line
    have hlt : h < qs.length := by
      rcases Nat.lt_or_ge h qs.length with h1 | h1
      · exact h1
      · exact absurd (by simp [lines]; omega) hne
    obtain ⟨a0, c0, rfl⟩ := hp.form
    obtain ⟨g, cap, cur, rfl, hb, hg, hnc, hm, hs, ht⟩ := hq.parts (by omega)
    have hgB := ne_box hg hB
    have hpg : (Value.slice a0 ([] : List ByteArray).length c0).ownBlock ≠ some g := fun e => hpq g e rfl
    have hx : cur[h]? = some (.string (qs.getD h ByteArray.empty)) := by
      have e1 : (cur.toList.take qs.length)[h]? = some (.string (qs.getD h ByteArray.empty)) := by rw [ht]; exact strV_at _ _ hlt
      rw [List.getElem?_take, if_pos hlt] at e1
      simpa using e1
    have hd : qs.drop h = qs.getD h ByteArray.empty :: qs.drop (h + 1) := by
      rw [List.drop_eq_getElem_cons hlt]; simp [hlt]
    obtain ⟨b0, b1, b2, fB⟩ := box_cells hB
    have d0 : w.cell? ⟨g, h, none⟩ = some (.string (qs.getD h ByteArray.empty)) := by rw [cell_of_row w g h cur 9 (0, 0) hg]; exact hx
    have d1 : w.frozen? ⟨g, h, none⟩ = false := frozen_of_row _ g h cur 9 hg
    by_cases c1 : h + 1 = qs.length
    · have b1' : w.cell? ⟨B, 1, none⟩ = some (.slice (some ⟨g, 0, none⟩) (h + 1) cap) := by rw [c1]; exact b1
      refine (pull_last B g cap h c0 a0 _ w (by omega) hgB b0 b1' (fB 1) (by omega) b2 (fB 2) d0 d1).mono ?_
      rintro e w' ⟨rfl, a', c', hemp, hw⟩
      have hU := upd_last hg hs hB hw
      obtain ⟨r1, r2, r3⟩ := pulled_queued (h' := 0) (qs' := []) (x := qs.getD h ByteArray.empty) hb hm hp hpg hB hemp rfl (Nat.zero_le _) (by simp) (Nat.zero_le _) (by rw [hd, c1]; simp) hU
      exact ⟨_, _, _, _, _, 0, rfl, r1, r2, fun k k1 _ k3 => r3 k k1 (fun e => k3 (by rw [e]; rfl))⟩
    · by_cases c2 : h + 1 < 1024 ∨ 2 * (h + 1) < qs.length
      · refine (pull_mid B g qs.length cap h c0 a0 _ w lq hgB (by omega) c2 b0 b1 (fB 1) hnc b2 (fB 2) d0 d1).mono ?_
        rintro e w' ⟨rfl, hw⟩
        have hU := upd_mid hg hs hB ht hw
        obtain ⟨r1, r2, r3⟩ := pulled_queued (h' := h + 1) (qs' := qs.set h ⟨#[]⟩) (n' := qs.length) (x := qs.getD h ByteArray.empty) hb hm hp hpg hB (emp_self _ _ _) (by simp) hnc (by simp) (by simp; omega) (by rw [hd, List.drop_set, if_pos (by omega)]) hU
        exact ⟨_, _, _, _, _, h + 1, rfl, r1, r2, fun k k1 _ k3 => r3 k k1 (fun e => k3 (by rw [e]; rfl))⟩
      · obtain ⟨r, hr⟩ : ∃ r, qs.length = h + 1 + r := ⟨qs.length - (h + 1), by omega⟩
        rw [hr] at hB
        refine (pull_shift B g r cap h c0 a0 _ (qs.drop (h + 1)) cur w (by omega) hgB (by omega) (by omega) (by omega) hB hg hs (by omega) hx ?_).mono ?_
        · rw [hr] at ht
          have := congrArg (List.drop (h + 1)) ht
          rw [List.drop_take, Nat.add_sub_cancel_left] at this
          rw [this, strV, strV, List.map_drop]
        · rintro e w' ⟨rfl, hU⟩
          rw [← hr] at hB
          obtain ⟨r1, r2, r3⟩ := pulled_queued (h' := 0) (qs' := qs.drop (h + 1)) (n' := r) (x := qs.getD h ByteArray.empty) hb hm hp hpg hB (emp_self _ _ _) (by simp; omega) (by omega) (by simp) (Nat.zero_le _) (by rw [hd]; simp) hU
          exact ⟨_, _, _, _, _, 0, rfl, r1, r2, fun k k1 _ k3 => r3 k k1 (fun e => k3 (by rw [e]; rfl))⟩
  · -- a pushed line
    rw [List.concat_eq_append] at *
    have hl : (ps0 ++ [x]).length = ps0.length + 1 := by simp
    have lp' : ps0.length + 1 ≤ 65536 := by omega
    obtain ⟨g, cap, cur, rfl, hb, hg, hnc, hm, hs, ht⟩ := hp.parts (by omega)
    rw [hl] at *
    have hgB := ne_box hg hB
    have hx : cur[ps0.length]? = some (.string x) := by
      have e1 : (cur.toList.take (ps0.length + 1))[ps0.length]? = some (.string x) := by rw [ht, strV_append]; simp [strV]
      rw [List.getElem?_take, if_pos (by omega)] at e1
      simpa using e1
    obtain ⟨b0, b1, b2, fB⟩ := box_cells hB
    have d0 : w.cell? ⟨g, ps0.length, none⟩ = some (.string x) := by rw [cell_of_row w g _ cur 9 (0, 0) hg]; exact hx
    have d1 : w.frozen? ⟨g, ps0.length, none⟩ = false := frozen_of_row _ g _ cur 9 hg
    refine (pull_pushed B g ps0.length cap x w (by omega) hgB b0 (fB 0) hnc d0 d1).mono ?_
    rintro e w' ⟨rfl, a', c', hemp, hw⟩
    obtain ⟨r1, r2, r3⟩ := pulled_pushed hb hg hnc hm hs rfl ht hq (fun e => hpq g rfl e) hB hh hemp hw
    exact ⟨_, _, _, _, _, h, rfl, r1, r2, fun k k1 k2 _ => r3 k k1 (fun e => k2 (by rw [e]; rfl))⟩

end Go.Proofs.Qxb6600112a
