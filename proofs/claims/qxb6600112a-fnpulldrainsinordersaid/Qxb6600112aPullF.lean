/-
  ZZPull (26).
-/
import Derived.Test.Qxb6600112aPullE
namespace Go.Proofs.Qxb6600112a
open Go.RowKit

/-- Old memory, but for the two rows, is as it was. -/
def KeptBut2 (w w' : World) (vp vq : Value) : Prop := ∀ k, k < w.heap.size → vp.ownBlock ≠ some k → vq.ownBlock ≠ some k → w'.heap[k]? = w.heap[k]?

theorem Pulled.drewN {w w' : World} {base : Nat} {vp vq : Value} {ps qs : List ByteArray} {h : Nat} {x : ByteArray} {vp' vq' : Value} {ps' qs' : List ByteArray} {h' : Nat} (hP : Pulled w w' base vp vq ps qs h x vp' vq' ps' qs' h') (n : Nat) :
    Pulled w (w'.drewN n) base vp vq ps qs h x vp' vq' ps' qs' h' :=
  ⟨hP.own0, hP.own1, hP.from0, hP.from1, hP.head, hP.list, hP.len0, hP.len1, hP.os, hP.tape, hP.output, hP.size⟩

theorem zz_end {w w1 : World} {o : Obj} {base : Nat} {vp vq : Value} {ps qs : List ByteArray} {h : Nat} {x : ByteArray} {vp' vq' : Value} {ps' qs' : List ByteArray} {h' : Nat}
    (hP : Pulled (w.alloc o) w1 base vp vq ps qs h x vp' vq' ps' qs' h')
    (hot : ∀ k, k ≠ w.heap.size → vp.ownBlock ≠ some k → vq.ownBlock ≠ some k → w1.heap[k]? = (w.alloc o).heap[k]?) :
    Pulled w w1 base vp vq ps qs h x vp' vq' ps' qs' h' ∧ KeptBut2 w w1 vp vq := by
  refine ⟨⟨hP.own0, hP.own1, hP.from0, hP.from1, hP.head, hP.list, hP.len0, hP.len1, hP.os, hP.tape, hP.output, ?_⟩, ?_⟩
  · have := hP.size; simp at this; omega
  · intro k hk h0 h1
    rw [hot k (by omega) h0 h1, Below.heap_alloc _ _ _ hk]

set_option maxHeartbeats 1000000 in
theorem zzpull26 (base : Nat) (vp vq : Value) (ps qs : List ByteArray) (h : Nat) (w : World) (hp : OwnS w base vp ps) (hq : OwnS w base vq qs)
    (hpq : ∀ g, vp.ownBlock = some g → vq.ownBlock = some g → False)
    (lp : ps.length ≤ 65536) (lq : qs.length ≤ 65536) (hh : h ≤ qs.length) (hne : lines ps qs h ≠ []) :
    Calls Try.prog 26 #[vp, vq, .int .i64 h] w fun e w' => ∃ (x : ByteArray) (vp' vq' : Value) (ps' qs' : List ByteArray) (h' : Nat), e = .returned (.tuple #[.string x, vp', vq', .int .i64 h']) ∧ Pulled w w' base vp vq ps qs h x vp' vq' ps' qs' h' ∧ KeptBut2 w w' vp vq := by
  obtain ⟨a0, c0, rfl⟩ := hp.form
  obtain ⟨a1, c1, rfl⟩ := hq.form
  have HP : Hid (OwnS w base (.slice a0 ps.length c0) ps) := hp
  have HQ : Hid (OwnS w base (.slice a1 qs.length c1) qs) := hq
  clear hp hq
  go_enter Try.func26, Try.ntmps26
  go_wp2_with fail
  refine (pull30 w.heap.size base (.slice a0 ps.length c0) (.slice a1 qs.length c1) ps qs h (w.alloc (.cells #[.slice a0 ps.length c0, .slice a1 qs.length c1, .int .i64 h] 47)) (HP.out.alloc _) (HQ.out.alloc _) (heap_alloc_new w _) hpq lp lq hh hne).mono ?_
  rintro e w1 ⟨x, vp', vq', ps', qs', h', rfl, hP, hbx, hot⟩
  obtain ⟨a0', c0', e0⟩ := hP.own0.form
  obtain ⟨a1', c1', e1⟩ := hP.own1.form
  subst e0 e1
  obtain ⟨b0, b1, b2, _⟩ := box_cells hbx
  have HE := zz_end hP hot
  clear hP hbx hot HP HQ hpq hne
  go_wp2
  go_quiet (fail)
  go_wp2
  refine bodyPost_ret (v := .tuple #[.string x, .slice a0' ps'.length c0', .slice a1' qs'.length c1', .int .i64 h']) (by simp [results, Try.results26, go_sem]) rfl ?_
  exact ⟨x, _, _, ps', qs', h', rfl, HE.1.drewN _, HE.2⟩
end Go.Proofs.Qxb6600112a
