/-
  Arrays of 256 bools: which types stand in a list; the row in memory; the built-in '!='.
-/
import Derived.Test.Qxb6600185aOffD
import Derived.ChangeKeysEq
namespace Go.Proofs.Qxb6600185a
open Go.RowKit

def allF : List Bool := List.replicate 256 false
/-- The types of a list, as 256 bools. -/
def tset (zs : List Zt) : List Bool := zs.foldl (fun b t => b.set t.1.toNat true) allF
theorem tset_nil : tset [] = allF := rfl
theorem tset_snoc (zs : List Zt) (t : Zt) : tset (zs ++ [t]) = (tset zs).set t.1.toNat true := by unfold tset; rw [List.foldl_append]; rfl
theorem tset_len (zs : List Zt) : (tset zs).length = 256 := by
  unfold tset
  have : ∀ (l : List Zt) (b : List Bool), (l.foldl (fun b t => b.set t.1.toNat true) b).length = b.length := by
    intro l
    induction l with
    | nil => intro b; rfl
    | cons t l ih => intro b; rw [List.foldl_cons, ih]; simp
  rw [this]
  exact List.length_replicate
theorem tset_take (zs : List Zt) (k : Nat) (h : k < zs.length) : tset (zs.take (k + 1)) = (tset (zs.take k)).set (zs[k]?.getD (0, 0, 0)).1.toNat true := by
  rw [List.take_add_one, List.getElem?_eq_getElem h]
  exact tset_snoc _ _

def bV (b : List Bool) : List Value := b.map Value.bool
theorem bV_len (b : List Bool) : (bV b).length = b.length := by simp [bV]
theorem bV_at (b : List Bool) (k : Nat) (h : k < b.length) : (bV b)[k]? = some (.bool (b[k]?.getD false)) := by simp [bV, h]
theorem bV_set (b : List Bool) (k : Nat) (x : Bool) : bV (b.set k x) = (bV b).set k (.bool x) := by simp [bV, List.map_set]
/-- The row of 256 bools as it lies in memory. -/
def rowB (b : List Bool) : Array Value := (bV b).toArray
theorem rowB_size (b : List Bool) : (rowB b).size = b.length := by simp [rowB, bV]
theorem rowB_set (b : List Bool) (k : Nat) (x : Bool) : (rowB b).setIfInBounds k (.bool x) = rowB (b.set k x) := by
  unfold rowB
  rw [bV_set]
  simp

theorem Try.size49 : (Try.prog.info? 49).map (·.size) = some 256 := by kernel_rfl
theorem Try.info4 : (Try.prog.info? 4).map (fun i => (i.zero, i.size, i.bytes)) = some (some (.bool false), 1, 1) := by kernel_rfl
theorem Try.cells4 : Try.prog.cellsOf 4 = 1 := by kernel_rfl
theorem zero49 (W : World) : (zeroValue 49).run Try.prog W = .ok (.agg (rowB allF)) W := by kernel_rfl

theorem eqItems_bools (d : Nat) (P Q : List Bool) (w : World) : ∀ l : List Nat, (∀ i ∈ l, i < P.length ∧ i < Q.length) →
    (Op.eqItems (d + 1) 4 (Try.prog.cellsOf 4) (rowB P) (rowB Q) l).run Try.prog w = .ok (l.all fun i => P[i]?.getD false == Q[i]?.getD false) w
  | [], _ => by simp [Op.eqItems]
  | i :: l, h => by
    obtain ⟨h1, h2⟩ := h i List.mem_cons_self
    have e1 : (part 4 (rowB P) (i * Try.prog.cellsOf 4)).run Try.prog w = .ok (.bool (P[i]?.getD false)) w := by
      rw [Try.cells4, Nat.mul_one]
      simp [part, isAgg, run_underlying Try.underlying4, rowB, bV, h1]
    have e2 : (part 4 (rowB Q) (i * Try.prog.cellsOf 4)).run Try.prog w = .ok (.bool (Q[i]?.getD false)) w := by
      rw [Try.cells4, Nat.mul_one]
      simp [part, isAgg, run_underlying Try.underlying4, rowB, bV, h2]
    have e3 : (Op.equalIn (d + 1) 4 (.bool (P[i]?.getD false)) (.bool (Q[i]?.getD false))).run Try.prog w = .ok (P[i]?.getD false == Q[i]?.getD false) w := run_equalIn_bool' w d 4 _ _ Try.underlying4
    have ih := eqItems_bools d P Q w l (fun j hj => h j (List.mem_cons_of_mem _ hj))
    simp only [Op.eqItems, Sem.run_bind, e1, e2, e3, Result.andThen_ok, List.all_cons]
    cases hb : (P[i]?.getD false == Q[i]?.getD false)
    · simp
    · simp only [Bool.not_true, Bool.false_eq_true, if_false, Bool.true_and]
      exact ih

theorem all_eq_iff (P Q : List Bool) (hP : P.length = 256) (hQ : Q.length = 256) : ((List.range 256).all fun i => P[i]?.getD false == Q[i]?.getD false) = decide (P = Q) := by
  rw [Bool.eq_iff_iff, decide_eq_true_iff]
  constructor
  · intro h
    rw [List.all_eq_true] at h
    apply List.ext_getElem (by omega)
    intro i h1 h2
    have := h i (by simp; omega)
    rw [List.getElem?_eq_getElem h1, List.getElem?_eq_getElem h2] at this
    simpa using this
  · intro h
    subst h
    rw [List.all_eq_true]
    intro i _
    simp

theorem neq49 (P Q : List Bool) (hP : P.length = 256) (hQ : Q.length = 256) (w : World) : (binOp .neq 49 (.agg (rowB P)) (.agg (rowB Q))).run Try.prog w = .ok (.bool (!decide (P = Q))) w := by
  obtain ⟨i0, hi, _, _, _⟩ := info_parts Try.info4
  rw [run_neq_struct, run_equalIn_array (w := w) 9999 (rowB P) (rowB Q) Try.underlying49 hi, eqItems_bools 9998 P Q w (List.range 256) (fun i hi => by simp at hi; omega), all_eq_iff P Q hP hQ]
  rfl
end Go.Proofs.Qxb6600185a
