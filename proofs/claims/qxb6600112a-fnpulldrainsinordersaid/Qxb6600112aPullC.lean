/-
  pull (function 30), ZZPull (26).
-/
import Derived.Test.Qxb6600112aPullB
import Derived.Deep.QuietTactic
import Derived.BigQuiet
namespace Go.Proofs.Qxb6600112a
open Go.RowKit

set_option maxHeartbeats 1000000 in
/-- A line that was pushed. -/
theorem pull_pushed (B g n cap : Nat) (x : ByteArray) (w : World) (m : n ≤ 65536) (hne : g ≠ B)
    (b0 : w.cell? ⟨B, 0, none⟩ = some (.slice (some ⟨g, 0, none⟩) (n + 1) cap)) (f0 : w.frozen? ⟨B, 0, none⟩ = false) (hnc : n + 1 ≤ cap)
    (c0 : w.cell? ⟨g, n, none⟩ = some (.string x)) (d0 : w.frozen? ⟨g, n, none⟩ = false) :
    Calls Try.prog 30 #[.pointer (some ⟨B, 0, none⟩)] w fun e w' => e = .returned (.string x) ∧
      ∃ a' c', Emp (some ⟨g, 0, none⟩) n cap a' c' ∧ w' = (w.setCell ⟨g, n, none⟩ (.string ⟨#[]⟩)).setCell ⟨B, 0, none⟩ (.slice a' n c') := by
  have e0 : (w.setCell ⟨g, n, none⟩ (.string ⟨#[]⟩)).cell? ⟨B, 0, none⟩ = some (.slice (some ⟨g, 0, none⟩) (n + 1) cap) := by
    rw [World.cell?_of_block (w := w) (Below.heap_setCell _ _ _ _ (by simpa using hne.symm))]; exact b0
  have e1 : (w.setCell ⟨g, n, none⟩ (.string ⟨#[]⟩)).frozen? ⟨B, 0, none⟩ = false := by
    rw [World.frozen?_of_block (w := w) (Below.heap_setCell _ _ _ _ (by simpa using hne.symm))]; exact f0
  have HN : Hid (g ≠ B) := hne
  clear hne
  go_enter Try.func30, Try.ntmps30
  go_wp2_with fail
  refine (emptied33 _ _ _ _ (by omega)).mono ?_
  rintro e w' ⟨a', c', rfl, hv, rfl⟩
  go_wp2
  go_ret
  exact ⟨rfl, a', c', hv, rfl⟩


/-- Two worlds that differ in the count of draws alone. -/
structure SameW (w' w : World) : Prop where
  heap : w'.heap = w.heap
  os : w'.os = w.os
  tape : w'.tape = w.tape
  output : w'.output = w.output

theorem cell_other {w : World} {a : Addr} {u : Value} {b o : Nat} {r : Option Value} (hne : a.block ≠ b) (h : w.cell? ⟨b, o, none⟩ = r) : (w.setCell a u).cell? ⟨b, o, none⟩ = r := by
  rw [World.cell?_of_block (w := w) (Below.heap_setCell _ _ _ _ (by simpa using hne.symm))]; exact h
theorem frozen_other {w : World} {a : Addr} {u : Value} {b o : Nat} {r : Bool} (hne : a.block ≠ b) (h : w.frozen? ⟨b, o, none⟩ = r) : (w.setCell a u).frozen? ⟨b, o, none⟩ = r := by
  rw [World.frozen?_of_block (w := w) (Below.heap_setCell _ _ _ _ (by simpa using hne.symm))]; exact h

set_option maxHeartbeats 1000000 in
/-- A line that was queued, the last one. -/
theorem pull_last (B g cap h c0 : Nat) (a0 : Option Addr) (x : ByteArray) (w : World) (m : h < 65536) (hne : g ≠ B)
    (b0 : w.cell? ⟨B, 0, none⟩ = some (.slice a0 0 c0))
    (b1 : w.cell? ⟨B, 1, none⟩ = some (.slice (some ⟨g, 0, none⟩) (h + 1) cap)) (f1 : w.frozen? ⟨B, 1, none⟩ = false) (hnc : h + 1 ≤ cap)
    (b2 : w.cell? ⟨B, 2, none⟩ = some (.int .i64 h)) (f2 : w.frozen? ⟨B, 2, none⟩ = false)
    (d0 : w.cell? ⟨g, h, none⟩ = some (.string x)) (d1 : w.frozen? ⟨g, h, none⟩ = false) :
    Calls Try.prog 30 #[.pointer (some ⟨B, 0, none⟩)] w fun e w' => e = .returned (.string x) ∧
      ∃ a' c', Emp (some ⟨g, 0, none⟩) 0 cap a' c' ∧ SameW w' ((((w.setCell ⟨g, h, none⟩ (.string ⟨#[]⟩)).setCell ⟨B, 2, none⟩ (.int .i64 (h + 1))).setCell ⟨B, 1, none⟩ (.slice a' 0 c')).setCell ⟨B, 2, none⟩ (.int .i64 0)) := by
  have HN : Hid (g ≠ B) := hne
  clear hne
  go_enter Try.func30, Try.ntmps30
  go_wp2
  go_quiet (fail)
  go_wp2
  go_region
  generalize hW : (w.drewN (nq + 1)).setCell ⟨g, h, none⟩ (.string ⟨#[]⟩) = W
  have e0 : W.cell? ⟨B, 0, none⟩ = some (.slice a0 0 c0) := by rw [← hW]; exact cell_other HN.out b0
  have e1 : W.cell? ⟨B, 1, none⟩ = some (.slice (some ⟨g, 0, none⟩) (h + 1) cap) := by rw [← hW]; exact cell_other HN.out b1
  have e2 : W.cell? ⟨B, 2, none⟩ = some (.int .i64 h) := by rw [← hW]; exact cell_other HN.out b2
  have g1 : W.frozen? ⟨B, 1, none⟩ = false := by rw [← hW]; exact frozen_other HN.out f1
  have g2 : W.frozen? ⟨B, 2, none⟩ = false := by rw [← hW]; exact frozen_other HN.out f2
  have HW : Hid ((w.drewN (nq + 1)).setCell ⟨g, h, none⟩ (.string ⟨#[]⟩) = W) := hW
  clear hW b0 b1 b2 f1 f2 d0 d1
  go_wp2
  go_quiet (fail)
  go_wp2_with fail
  refine (emptied33 _ _ _ _ (by omega)).mono ?_
  rintro e w' ⟨a', c', rfl, hv, rfl⟩
  go_wp2
  go_ret
  refine ⟨rfl, a', c', hv, ?_⟩
  rw [← HW.out]
  exact ⟨rfl, rfl, rfl, rfl⟩

theorem pull_head {w : World} {B g h nq cap c0 n : Nat} {a0 : Option Addr} (hne : g ≠ B)
    (b0 : w.cell? ⟨B, 0, none⟩ = some (.slice a0 0 c0))
    (b1 : w.cell? ⟨B, 1, none⟩ = some (.slice (some ⟨g, 0, none⟩) n cap)) (f1 : w.frozen? ⟨B, 1, none⟩ = false)
    (b2 : w.cell? ⟨B, 2, none⟩ = some (.int .i64 h)) (f2 : w.frozen? ⟨B, 2, none⟩ = false)
    (W : World) (hW : (w.drewN nq).setCell ⟨g, h, none⟩ (.string ⟨#[]⟩) = W) :
    W.cell? ⟨B, 0, none⟩ = some (.slice a0 0 c0) ∧ W.cell? ⟨B, 1, none⟩ = some (.slice (some ⟨g, 0, none⟩) n cap) ∧ W.cell? ⟨B, 2, none⟩ = some (.int .i64 h) ∧ W.frozen? ⟨B, 1, none⟩ = false ∧ W.frozen? ⟨B, 2, none⟩ = false := by
  subst hW
  exact ⟨cell_other hne b0, cell_other hne b1, cell_other hne b2, frozen_other hne f1, frozen_other hne f2⟩

set_option maxHeartbeats 1000000 in
/-- A line that was queued, more behind it, nothing moved. -/
theorem pull_mid (B g n cap h c0 : Nat) (a0 : Option Addr) (x : ByteArray) (w : World) (m : n ≤ 65536) (hne : g ≠ B) (hh : h + 1 < n) (hk : h + 1 < 1024 ∨ 2 * (h + 1) < n)
    (b0 : w.cell? ⟨B, 0, none⟩ = some (.slice a0 0 c0))
    (b1 : w.cell? ⟨B, 1, none⟩ = some (.slice (some ⟨g, 0, none⟩) n cap)) (f1 : w.frozen? ⟨B, 1, none⟩ = false) (_hnc : n ≤ cap)
    (b2 : w.cell? ⟨B, 2, none⟩ = some (.int .i64 h)) (f2 : w.frozen? ⟨B, 2, none⟩ = false)
    (d0 : w.cell? ⟨g, h, none⟩ = some (.string x)) (d1 : w.frozen? ⟨g, h, none⟩ = false) :
    Calls Try.prog 30 #[.pointer (some ⟨B, 0, none⟩)] w fun e w' => e = .returned (.string x) ∧
      SameW w' ((w.setCell ⟨g, h, none⟩ (.string ⟨#[]⟩)).setCell ⟨B, 2, none⟩ (.int .i64 (h + 1))) := by
  have HN : Hid (g ≠ B) := hne
  clear hne
  have hl1 : (h : Int) < (n : Int) := by omega
  have hl2 : ((h : Int) + 1 == (n : Int)) = false := beq_eq_false_iff_ne.2 (by omega)
  by_cases hc : h + 1 < 1024
  · clear hk
    have hd : decide ((1024 : Int) ≤ (h : Int) + 1) = false := decide_eq_false (by omega)
    go_enter Try.func30, Try.ntmps30
    go_wp2
    go_quiet (fail)
    go_wp2
    go_region
    generalize hW : (w.drewN (nq + 1)).setCell ⟨g, h, none⟩ (.string ⟨#[]⟩) = W
    obtain ⟨e0, e1, e2, g1, g2⟩ := pull_head HN.out b0 b1 f1 b2 f2 W hW
    have HW : Hid ((w.drewN (nq + 1)).setCell ⟨g, h, none⟩ (.string ⟨#[]⟩) = W) := hW
    clear hW b0 b1 b2 f1 f2 d0 d1
    go_wp2
    go_quiet (fail)
    go_wp2
    go_quiet (fail)
    go_wp2
    go_ret
    refine ⟨rfl, ?_⟩
    rw [← HW.out]
    exact ⟨rfl, rfl, rfl, rfl⟩
  · have hk : 2 * (h + 1) < n := by omega
    have hd : (1024 : Int) ≤ (h : Int) + 1 := by omega
    go_enter Try.func30, Try.ntmps30
    go_wp2
    go_quiet (fail)
    go_wp2
    go_region
    generalize hW : (w.drewN (nq + 1)).setCell ⟨g, h, none⟩ (.string ⟨#[]⟩) = W
    obtain ⟨e0, e1, e2, g1, g2⟩ := pull_head HN.out b0 b1 f1 b2 f2 W hW
    have HW : Hid ((w.drewN (nq + 1)).setCell ⟨g, h, none⟩ (.string ⟨#[]⟩) = W) := hW
    clear hW b0 b1 b2 f1 f2 d0 d1
    go_wp2
    go_quiet (fail)
    go_wp2
    go_quiet (fail)
    go_wp2
    go_ret
    refine ⟨rfl, ?_⟩
    rw [← HW.out]
    exact ⟨rfl, rfl, rfl, rfl⟩

end Go.Proofs.Qxb6600112a
