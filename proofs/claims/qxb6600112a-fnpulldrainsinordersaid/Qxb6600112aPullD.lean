/-
  pull (function 30), the way on which the lines that are left move down.
-/
import Derived.Test.Qxb6600112aPullC
namespace Go.Proofs.Qxb6600112a
open Go.RowKit

theorem setCells_row (g : Nat) (e : TypeId) : ∀ (vs : List Value) (o : Nat) (w : World) (cur : Array Value), w.heap[g]? = some (.cells cur e (0, 0)) →
    (∃ cur' : Array Value, (w.setCells g o vs).heap[g]? = some (.cells cur' e (0, 0)) ∧ cur'.size = cur.size ∧ cur'.toList.take o = cur.toList.take o) ∧
    (∀ k, k ≠ g → (w.setCells g o vs).heap[k]? = w.heap[k]?) ∧ (w.setCells g o vs).heap.size = w.heap.size ∧ (w.setCells g o vs).os = w.os ∧ (w.setCells g o vs).tape = w.tape ∧ (w.setCells g o vs).output = w.output
  | [], o, w, cur, h => ⟨⟨cur, h, rfl, rfl⟩, fun _ _ => rfl, rfl, rfl, rfl, rfl⟩
  | v :: r, o, w, cur, h => by
    have h1 := heap_setCell_same w g o cur e v h
    obtain ⟨⟨cur', q1, q2, q3⟩, q4, q5, q6, q7, q8⟩ := setCells_row g e r (o + 1) (w.setCell ⟨g, o, none⟩ v) _ h1
    refine ⟨⟨cur', q1, by simpa using q2, ?_⟩, fun k hk => (q4 k hk).trans (Below.heap_setCell _ _ _ _ hk), q5.trans (by simp), q6, q7, q8⟩
    have := congrArg (List.take o) q3
    rw [List.take_take, List.take_take, Nat.min_eq_left (by omega), Array.toList_setIfInBounds, List.take_set_of_le (Nat.le_refl _)] at this
    exact this

theorem Try.size9 : (Try.prog.info? 9).map (·.size) = some 1 := by kernel_rfl
theorem zero9 (w : World) : (zeroValue 9).run Try.prog w = .ok (.string ⟨#[]⟩) w := by
  obtain ⟨i0, hi, hz0, hz1, hz2⟩ := info_parts Try.info9
  simp [zeroValue, typeInfo, hi, hz0]

/-- What is left of the row moves down, and the cells behind it are cleared. -/
theorem shift_runs {W1 : World} {g r cap h : Nat} {cur : Array Value} {ss : List ByteArray} (hr : 0 < r) (hg : W1.heap[g]? = some (.cells cur 9 (0, 0))) (hs : cur.size = cap) (hnc : h + 1 + r ≤ cap)
    (ht : (cur.toList.drop (h + 1)).take r = strV ss) :
    ∃ W2 W3 : World, (∀ k ty, (Builtin.copy_ #[35, 35] ty #[.slice (some ⟨g, 0, none⟩) (h + 1 + r) cap, .slice (some ⟨g, h + 1, none⟩) r (cap - (h + 1))]).run Try.prog (W1.drewN k) = .ok (.int .i64 r) (W2.drewN k)) ∧
      (∀ k ty, (Builtin.clear_ #[35] ty #[.slice (some ⟨g, r, none⟩) (h + 1) (cap - r)]).run Try.prog (W2.drewN k) = .ok (.tuple #[]) (W3.drewN k)) ∧
      (∀ k, k ≠ g → W2.heap[k]? = W1.heap[k]?) ∧
      (∃ cur' : Array Value, W3.heap[g]? = some (.cells cur' 9 (0, 0)) ∧ cur'.size = cap ∧ cur'.toList.take r = strV ss) ∧
      (∀ k, k ≠ g → W3.heap[k]? = W1.heap[k]?) ∧ W3.heap.size = W1.heap.size ∧ W3.os = W1.os ∧ W3.tape = W1.tape ∧ W3.output = W1.output := by
  have hl : (strV ss).length = r := by rw [← ht]; simp; omega
  let cur2 : Array Value := (cur.toList.take 0 ++ strV ss ++ cur.toList.drop (0 + (strV ss).length)).toArray
  have hc2 : cur2.size = cap := by simp [cur2, hl]; omega
  have hg2 : (W1.setRow g cur2).heap[g]? = some (.cells cur2 9 (0, 0)) := setRow_heap W1 g cur cur2 9 (0, 0) hg
  have hT : cur2.toList.take r = strV ss := by simp only [cur2, List.take_zero, List.nil_append]; rw [← hl]; exact List.take_left
  obtain ⟨⟨cur', q1, q2, q3⟩, q4, q5, q6, q7, q8⟩ := setCells_row g 9 (List.replicate (h + 1) (.string ⟨#[]⟩)) r (W1.setRow g cur2) cur2 hg2
  refine ⟨W1.setRow g cur2, (W1.setRow g cur2).setCells g r (List.replicate (h + 1) (.string ⟨#[]⟩)), ?_, ?_, ?_, ⟨cur', q1, by omega, q3.trans hT⟩, ?_, q5.trans (by simp), q6, q7, q8⟩
  · intro k ty
    have := run_copy_row (P := Try.prog) (W1.drewN k) 35 35 ty 9 g 0 (h + 1 + r) cap ⟨g, h + 1, none⟩ r (cap - (h + 1)) cur 9 (strV ss) Try.underlying35 Try.size9 hg
      (by rw [hl]; exact (Nat.min_eq_left (by omega)).symm) ?_ (by omega) (by intro v hv; simp [strV] at hv; obtain ⟨s, _, rfl⟩ := hv; rfl)
    · have eg : goInt ((strV ss).length : Nat) = .int .i64 r := by rw [hl]; rfl
      rw [this, eg]; rfl
    · intro j v hj
      rw [Addr.add_lit, World.cell?_drewN, cell_of_row W1 g _ cur 9 (0, 0) hg]
      rw [← ht, List.getElem?_take] at hj
      split at hj
      · rw [List.getElem?_drop] at hj; simpa using hj
      · cases hj
  · intro k ty
    have hf : ∀ o, (W1.setRow g cur2).frozen? ⟨g, o, none⟩ = false := fun o => frozen_of_row _ g o cur2 9 hg2
    have := Lib.run_clear_slice (P := Try.prog) ((W1.setRow g cur2).drewN k) 35 9 ty (.string ⟨#[]⟩) Try.underlying35 zero9 rfl rfl g r (h + 1) (cap - r) (by omega)
      (fun j hj => by rw [World.cell?_drewN, cell_of_row _ g _ cur2 9 (0, 0) hg2]; simp [hc2]; omega) (fun j _ => hf _)
    rw [this]
    congr 1
    have drew : ∀ (vs : List Value) (o : Nat) (w : World), (w.drewN k).setCells g o vs = (w.setCells g o vs).drewN k := by
      intro vs
      induction vs with
      | nil => intro o w; rfl
      | cons v r ih => intro o w; exact ih (o + 1) (w.setCell ⟨g, o, none⟩ v)
    exact drew _ _ _
  · exact fun k hk => setRow_other W1 g k cur2 hk
  · exact fun k hk => (q4 k hk).trans (setRow_other W1 g k cur2 hk)

/-- What the box and one row hold behind the call; all else is as it was. -/
structure Upd (w w' : World) (B g : Nat) (blk : Array Value) (cap n : Nat) (ss : List ByteArray) : Prop where
  os : w'.os = w.os
  tape : w'.tape = w.tape
  output : w'.output = w.output
  size : w'.heap.size = w.heap.size
  box : w'.heap[B]? = some (.cells blk 47 (0, 0))
  row : ∃ cur : Array Value, w'.heap[g]? = some (.cells cur 9 (0, 0)) ∧ cur.size = cap ∧ cur.toList.take n = strV ss
  other : ∀ k, k ≠ B → k ≠ g → w'.heap[k]? = w.heap[k]?

theorem box_cells {w : World} {B : Nat} {v0 v1 v2 : Value} (hb : w.heap[B]? = some (.cells #[v0, v1, v2] 47 (0, 0))) :
    w.cell? ⟨B, 0, none⟩ = some v0 ∧ w.cell? ⟨B, 1, none⟩ = some v1 ∧ w.cell? ⟨B, 2, none⟩ = some v2 ∧ ∀ o, w.frozen? ⟨B, o, none⟩ = false := by
  refine ⟨?_, ?_, ?_, fun o => frozen_of_row _ B o _ 47 hb⟩
  · rw [cell_of_row w B 0 _ 47 (0, 0) hb]; rfl
  · rw [cell_of_row w B 1 _ 47 (0, 0) hb]; rfl
  · rw [cell_of_row w B 2 _ 47 (0, 0) hb]; rfl

theorem upd_shift {w W3 w' : World} {B g r cap : Nat} {a0 : Value} {x1 x2 v1 v2 : Value} {ss : List ByteArray} (hne : g ≠ B)
    (i2 : ∃ cur' : Array Value, W3.heap[g]? = some (.cells cur' 9 (0, 0)) ∧ cur'.size = cap ∧ cur'.toList.take r = strV ss)
    (i3 : ∀ k, k ≠ B → k ≠ g → W3.heap[k]? = w.heap[k]?) (i4 : W3.heap[B]? = some (.cells #[a0, x1, x2] 47 (0, 0))) (i5 : W3.heap.size = w.heap.size) (i6 : W3.os = w.os) (i7 : W3.tape = w.tape) (i8 : W3.output = w.output)
    (h : SameW w' ((W3.setCell ⟨B, 1, none⟩ v1).setCell ⟨B, 2, none⟩ v2)) : Upd w w' B g #[a0, v1, v2] cap r ss := by
  obtain ⟨h1, h2, h3, h4⟩ := h
  obtain ⟨cur', j1, j2, j3⟩ := i2
  refine ⟨h2.trans i6, h3.trans i7, h4.trans i8, by rw [h1]; simpa using i5, ?_, ⟨cur', ?_, j2, j3⟩, ?_⟩
  · rw [h1]
    have e1 := heap_setCell_same W3 B 1 _ 47 v1 i4
    have e2 := heap_setCell_same _ B 2 _ 47 v2 e1
    simpa using e2
  · rw [h1, Below.heap_setCell _ _ _ _ (by simpa using hne), Below.heap_setCell _ _ _ _ (by simpa using hne)]; exact j1
  · intro k k1 k2
    rw [h1, Below.heap_setCell _ _ _ _ (by simpa using k1), Below.heap_setCell _ _ _ _ (by simpa using k1)]; exact i3 k k1 k2

theorem shift_setup {w W W1 : World} {B g r cap h c0 nq : Nat} {a0 : Option Addr} {ss : List ByteArray} {cur : Array Value} (hne : g ≠ B) (hr : 0 < r)
    (hB : w.heap[B]? = some (.cells #[.slice a0 0 c0, .slice (some ⟨g, 0, none⟩) (h + 1 + r) cap, .int .i64 h] 47 (0, 0)))
    (hg : w.heap[g]? = some (.cells cur 9 (0, 0))) (hs : cur.size = cap) (hnc : h + 1 + r ≤ cap)
    (ht : (cur.toList.drop (h + 1)).take r = strV ss) (hW : (w.drewN nq).setCell ⟨g, h, none⟩ (.string ⟨#[]⟩) = W) (hW1 : W.setCell ⟨B, 2, none⟩ (.int .i64 (h + 1)) = W1) :
    ∃ W2 W3 : World, (∀ k ty, (Builtin.copy_ #[35, 35] ty #[.slice (some ⟨g, 0, none⟩) (h + 1 + r) cap, .slice (some ⟨g, h + 1, none⟩) r (cap - (h + 1))]).run Try.prog (W1.drewN k) = .ok (.int .i64 r) (W2.drewN k)) ∧
      (∀ k ty, (Builtin.clear_ #[35] ty #[.slice (some ⟨g, r, none⟩) (h + 1) (cap - r)]).run Try.prog (W2.drewN k) = .ok (.tuple #[]) (W3.drewN k)) ∧
      Hid (∃ cur' : Array Value, W3.heap[g]? = some (.cells cur' 9 (0, 0)) ∧ cur'.size = cap ∧ cur'.toList.take r = strV ss) ∧
      Hid (∀ k, k ≠ B → k ≠ g → W3.heap[k]? = w.heap[k]?) ∧ Hid (W3.heap[B]? = some (.cells #[.slice a0 0 c0, .slice (some ⟨g, 0, none⟩) (h + 1 + r) cap, .int .i64 (h + 1)] 47 (0, 0))) ∧ Hid (W3.heap.size = w.heap.size) ∧ Hid (W3.os = w.os) ∧ Hid (W3.tape = w.tape) ∧ Hid (W3.output = w.output) ∧
      (W1.cell? ⟨B, 0, none⟩ = some (.slice a0 0 c0) ∧ W1.cell? ⟨B, 1, none⟩ = some (.slice (some ⟨g, 0, none⟩) (h + 1 + r) cap) ∧ W1.cell? ⟨B, 2, none⟩ = some (.int .i64 (h + 1))) ∧
      (W2.cell? ⟨B, 1, none⟩ = some (.slice (some ⟨g, 0, none⟩) (h + 1 + r) cap)) ∧
      (W3.cell? ⟨B, 1, none⟩ = some (.slice (some ⟨g, 0, none⟩) (h + 1 + r) cap) ∧ W3.cell? ⟨B, 2, none⟩ = some (.int .i64 (h + 1)) ∧ W3.frozen? ⟨B, 1, none⟩ = false ∧ W3.frozen? ⟨B, 2, none⟩ = false) := by
  have gW : W.heap[g]? = some (.cells (cur.setIfInBounds h (.string ⟨#[]⟩)) 9 (0, 0)) := by rw [← hW]; exact heap_setCell_same (w.drewN nq) g h cur 9 _ hg
  have bW : W.heap[B]? = some (.cells #[.slice a0 0 c0, .slice (some ⟨g, 0, none⟩) (h + 1 + r) cap, .int .i64 h] 47 (0, 0)) := by
    rw [← hW, Below.heap_setCell _ _ _ _ (by simpa using hne.symm)]; exact hB
  have oW : ∀ k, k ≠ g → W.heap[k]? = w.heap[k]? := fun k hk => by rw [← hW, Below.heap_setCell _ _ _ _ (by simpa using hk)]; rfl
  have gW1 : W1.heap[g]? = some (.cells (cur.setIfInBounds h (.string ⟨#[]⟩)) 9 (0, 0)) := by rw [← hW1, Below.heap_setCell _ _ _ _ (by simpa using hne)]; exact gW
  have bW1 : W1.heap[B]? = some (.cells #[.slice a0 0 c0, .slice (some ⟨g, 0, none⟩) (h + 1 + r) cap, .int .i64 (h + 1)] 47 (0, 0)) := by
    rw [← hW1]; have := heap_setCell_same W B 2 _ 47 (.int .i64 (h + 1)) bW; simpa using this
  have oW1 : ∀ k, k ≠ B → k ≠ g → W1.heap[k]? = w.heap[k]? := fun k h1 h2 => by rw [← hW1, Below.heap_setCell _ _ _ _ (by simpa using h1)]; exact oW k h2
  have ht1 : ((cur.setIfInBounds h (.string ⟨#[]⟩)).toList.drop (h + 1)).take r = strV ss := by
    rw [Array.toList_setIfInBounds, List.drop_set, if_pos (by omega)]; exact ht
  obtain ⟨W2, W3, k1, k2, k3, k4, k5, k6, k7, k8, k9⟩ := shift_runs hr gW1 (by simpa using hs) hnc ht1
  have b2 : W2.heap[B]? = _ := (k3 B hne.symm).trans bW1
  have b3 : W3.heap[B]? = _ := (k5 B hne.symm).trans bW1
  obtain ⟨x0, x1, x2, _⟩ := box_cells bW1
  obtain ⟨_, y1, _, _⟩ := box_cells b2
  obtain ⟨_, z1, z2, z3⟩ := box_cells b3
  have s1 : W1.heap.size = w.heap.size := by rw [← hW1, ← hW]; simp
  have o1 : W1.os = w.os := by rw [← hW1, ← hW]; rfl
  have t1 : W1.tape = w.tape := by rw [← hW1, ← hW]; rfl
  have u1 : W1.output = w.output := by rw [← hW1, ← hW]; rfl
  exact ⟨W2, W3, k1, k2, k4, fun k h1 h2 => (k5 k h2).trans (oW1 k h1 h2), b3, k6.trans s1, k7.trans o1, k8.trans t1, k9.trans u1, ⟨x0, x1, x2⟩, y1, z1, z2, z3 1, z3 2⟩

set_option maxHeartbeats 1000000 in
/-- A line that was queued; what is left moves down. -/
theorem pull_shift (B g r cap h c0 : Nat) (a0 : Option Addr) (x : ByteArray) (ss : List ByteArray) (cur : Array Value) (w : World) (m : h + 1 + r ≤ 65536) (hne : g ≠ B) (hr : 0 < r) (hk : 1024 ≤ h + 1) (hk2 : h + 1 + r ≤ 2 * (h + 1))
    (hB : w.heap[B]? = some (.cells #[.slice a0 0 c0, .slice (some ⟨g, 0, none⟩) (h + 1 + r) cap, .int .i64 h] 47 (0, 0)))
    (hg : w.heap[g]? = some (.cells cur 9 (0, 0))) (hs : cur.size = cap) (hnc : h + 1 + r ≤ cap) (hx : cur[h]? = some (.string x))
    (ht : (cur.toList.drop (h + 1)).take r = strV ss) :
    Calls Try.prog 30 #[.pointer (some ⟨B, 0, none⟩)] w fun e w' => e = .returned (.string x) ∧ Upd w w' B g #[.slice a0 0 c0, .slice (some ⟨g, 0, none⟩) r cap, .int .i64 0] cap r ss := by
  obtain ⟨b0, b1, b2, fB⟩ := box_cells hB
  have f1 := fB 1
  have f2 := fB 2
  have d0 : w.cell? ⟨g, h, none⟩ = some (.string x) := by rw [cell_of_row w g h cur 9 (0, 0) hg]; exact hx
  have d1 : w.frozen? ⟨g, h, none⟩ = false := frozen_of_row _ g h cur 9 hg
  clear fB
  have HN : Hid (g ≠ B) := hne
  have HB : Hid (w.heap[B]? = some (.cells #[.slice a0 0 c0, .slice (some ⟨g, 0, none⟩) (h + 1 + r) cap, .int .i64 h] 47 (0, 0))) := hB
  have HG : Hid (w.heap[g]? = some (.cells cur 9 (0, 0))) := hg
  have HS : Hid (cur.size = cap) := hs
  have HT : Hid ((cur.toList.drop (h + 1)).take r = strV ss) := ht
  clear hne hs ht hx hB hg
  have hl1 : (h : Int) < ((h + 1 + r : Nat) : Int) := by omega
  have hl2 : ((h : Int) + 1 == (h : Int) + 1 + (r : Int)) = false := beq_eq_false_iff_ne.2 (by omega)
  have hd : (1024 : Int) ≤ (h : Int) + 1 := by omega
  go_enter Try.func30, Try.ntmps30
  go_wp2
  go_quiet (fail)
  go_wp2
  go_region
  generalize hW : (w.drewN (nq + 1)).setCell ⟨g, h, none⟩ (.string ⟨#[]⟩) = W
  obtain ⟨e0, e1, e2, g1, g2⟩ := pull_head HN.out b0 b1 f1 b2 f2 W hW
  have HW : Hid ((w.drewN (nq + 1)).setCell ⟨g, h, none⟩ (.string ⟨#[]⟩) = W) := hW
  clear hW b0 b1 b2 f1 f2 d0 d1
  go_wp2
  generalize hW1 : W.setCell ⟨B, 2, none⟩ (.int .i64 (h + 1)) = W1
  obtain ⟨W2, W3, hcp, hcl, i2, i3, i4, i5, i6, i7, i8, ⟨p0, p1, p2⟩, q1, r1, r2, r3, r4⟩ := shift_setup HN.out hr HB.out HG.out HS.out hnc HT.out HW.out hW1
  clear e0 e1 e2 g1 g2 hW1
  go_quiet (fail)
  go_wp2
  go_quiet (fail)
  go_wp2
  go_region
  go_wp2
  go_ret
  refine ⟨rfl, upd_shift HN.out i2.out i3.out i4.out i5.out i6.out i7.out i8.out ?_⟩
  exact ⟨rfl, rfl, rfl, rfl⟩

end Go.Proofs.Qxb6600112a
