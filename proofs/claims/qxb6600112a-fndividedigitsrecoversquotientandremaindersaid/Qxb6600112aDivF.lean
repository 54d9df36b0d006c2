/-
  A row of bytes of the run's own that begins anywhere in its block: how it reads, is cut, is appended to.
-/
import Derived.Test.Qxb6600112aDivE
namespace Go.Proofs.Qxb6600112a
open Go.RowKit Dg

/-- A slice of bytes in a block of the run's own, from any place on. -/
def OwnR (w : World) (base : Nat) (v : Value) (zs : List Int) : Prop :=
  (v = .slice none 0 0 ∧ zs = []) ∨
  ∃ (g off cap : Nat) (cur : Array Value), v = .slice (some ⟨g, off, none⟩) zs.length cap ∧ base ≤ g ∧ w.heap[g]? = some (.cells cur 5 (0, 0)) ∧ zs.length ≤ cap ∧ off + cap ≤ cur.size ∧ (cur.toList.drop off).take zs.length = bytV zs

theorem OwnR.rd {w : World} {base : Nat} {v : Value} {zs : List Int} (h : OwnR w base v zs) : ∃ a c, v = .slice a zs.length c ∧ RdB w a zs.length zs ∧ zs.length ≤ c := by
  rcases h with ⟨h1, h0⟩ | ⟨g, off, cap, cur, rfl, hg, h3, h4, h5, h6⟩
  · subst h0
    exact ⟨none, 0, h1, rdB_nil _ _, Nat.le_refl _⟩
  · refine ⟨some ⟨g, off, none⟩, cap, rfl, ⟨rfl, (fun hx => by cases hx), ?_⟩, h4⟩
    rintro x hx i hi
    cases hx
    rw [Addr.add_lit, cell_of_row w g _ cur 5 (0, 0) h3]
    have e1 : ((cur.toList.drop off).take zs.length)[i]? = some (.int .u8 (zs[i]?.getD 0)) := by rw [h6]; exact bytV_at _ _ hi
    rw [List.getElem?_take, if_pos (by omega), List.getElem?_drop] at e1
    simpa using e1
theorem OwnR.block {w : World} {base : Nat} {v : Value} {zs : List Int} (h : OwnR w base v zs) : ∀ k, v.ownBlock = some k → base ≤ k ∧ k < w.heap.size := by
  intro k hk
  rcases h with ⟨rfl, _⟩ | ⟨g, off, cap, cur, rfl, hg, h3, _⟩
  · simp [Value.ownBlock] at hk
  · simp [Value.ownBlock] at hk
    subst hk
    exact ⟨hg, (Array.getElem?_eq_some_iff.1 h3).1⟩
theorem OwnR.keep {w w' : World} {base : Nat} {v : Value} {ss : List Int} (h : OwnR w base v ss) (hk : ∀ k, v.ownBlock = some k → w'.heap[k]? = w.heap[k]?) : OwnR w' base v ss := by
  rcases h with h0 | ⟨g, off, cap, cur, rfl, hb, hg, r⟩
  · exact .inl h0
  · exact .inr ⟨g, off, cap, cur, rfl, hb, by rw [hk g rfl]; exact hg, r⟩
theorem OwnR.below {w w' : World} {base : Nat} {v : Value} {ss : List Int} (h : OwnR w base v ss) (hb : Below w.heap.size w w') : OwnR w' base v ss :=
  h.keep fun k hk => hb.block k (h.block k hk).2
theorem OwnR.mono {w : World} {base base' : Nat} {v : Value} {ss : List Int} (h : OwnR w base v ss) (hb : base' ≤ base) : OwnR w base' v ss := by
  rcases h with h0 | ⟨g, off, cap, cur, rfl, hg, r⟩
  · exact .inl h0
  · exact .inr ⟨g, off, cap, cur, rfl, by omega, r⟩
theorem OwnB.toR {w : World} {base : Nat} {v : Value} {zs : List Int} (h : OwnB w base v zs) : OwnR w base v zs := by
  rcases h.2 with ⟨h1, h0⟩ | ⟨g, cap, cur, rfl, hg, h3, h4, h5, h6, h7⟩
  · exact .inl ⟨h1, List.eq_nil_of_length_eq_zero h0⟩
  · exact .inr ⟨g, 0, cap, cur, rfl, hg, h3, h4, by omega, by simpa using h7⟩
theorem ownR_nil (w : World) (base : Nat) : OwnR w base (.slice none 0 0) [] := .inl ⟨rfl, rfl⟩

/-- The first element, and the rest behind 'r[1:]'. -/
theorem OwnR.uncons {w : World} {base c n : Nat} {a : Option Addr} {z : Int} {zs : List Int} (h : OwnR w base (.slice a n c) (z :: zs)) :
    n = zs.length + 1 ∧ n ≤ c ∧ ∃ g off : Nat, a = some ⟨g, off, none⟩ ∧ w.cell? ⟨g, off, none⟩ = some (.int .u8 z) ∧ (c = 1 → OwnR w base (.slice (some ⟨g, off, none⟩) 0 0) zs ∧ zs.length = 0) ∧ OwnR w base (.slice (some ⟨g, off + 1, none⟩) zs.length (c - 1)) zs := by
  rcases h with ⟨_, h0⟩ | ⟨g, off, cap, cur, he, hg, h3, h4, h5, h6⟩
  · cases h0
  · simp only [Value.slice.injEq, List.length_cons] at he
    obtain ⟨rfl, rfl, rfl⟩ := he
    simp only [List.length_cons] at h4 h6
    have hd : cur.toList.drop off = .int .u8 z :: (cur.toList.drop (off + 1)) := by
      have hlt : off < cur.toList.length := by simp; omega
      rw [List.drop_eq_getElem_cons hlt] at h6 ⊢
      rw [List.take_succ_cons] at h6
      have := (List.cons.inj h6).1
      rw [this]
    refine ⟨rfl, h4, g, off, rfl, ?_, ?_, ?_⟩
    · rw [cell_of_row w g _ cur 5 (0, 0) h3]
      have : (cur.toList.drop off)[0]? = some (.int .u8 z) := by rw [hd]; rfl
      rw [List.getElem?_drop] at this
      simpa using this
    · intro hc
      have : zs = [] := List.eq_nil_of_length_eq_zero (by omega)
      subst this
      exact ⟨.inr ⟨g, off, 0, cur, rfl, hg, h3, Nat.le_refl _, by omega, rfl⟩, rfl⟩
    · refine .inr ⟨g, off + 1, c - 1, cur, rfl, hg, h3, by omega, by omega, ?_⟩
      rw [hd, List.take_succ_cons] at h6
      exact (List.cons.inj h6).2

/-- 'v = append(v, d)'. -/
theorem wpList_append_R (w : World) {ops : Array Oper} {rest : List Oper} {o : Oper} {a : Act} {Q : Exit → Act → World → Prop}
    (hgd : o.guard = none) (s x : Operand) (hop : o.op = Op.call { callee := Callee.builtin Builtin.append, args := #[s, x], argTypes := #[22, 22] })
    (base : Nat) (v : Value) (zs : List Int) (hs : a.eval s = v) (hown : OwnR w base v zs) (hbase : base ≤ w.heap.size)
    (ad : Addr) (d : Int) (hx : a.eval x = .slice (some ad) 1 1) (hc : ∀ j u, ([.int .u8 d] : List Value)[j]? = some u → w.cell? (ad.add j) = some u) (hlen : zs.length ≤ 65536)
    (hK : ∀ v' w', OwnR w' base v' (zs ++ [d]) → w.grownBy w' v.ownBlock → (∀ g, v'.ownBlock = some g → v.ownBlock = some g ∨ w.heap.size ≤ g) → wpList Try.prog ops Q rest (a.put o.dst v') w') :
    wpList Try.prog ops Q (o :: rest) a w := by
  obtain ⟨i0, hi, hz0, hz1, hz2⟩ := info_parts Try.info5
  have h1c : ∀ u ∈ ([.int .u8 d] : List Value), u.oneCell' = true := by intro u hu; simp at hu; subst hu; rfl
  have grow : ∀ v' w', w'.ownsRow w.heap.size 5 1 v' (zs.length + 1) (bytV zs ++ [.int .u8 d]) → w.grownBy w' none → wpList Try.prog ops Q rest (a.put o.dst v') w' := by
    intro v' w' ho hg
    have hB : OwnB w' w.heap.size v' (zs ++ [d]) := by
      unfold OwnB
      rw [bytV_append, List.length_append]
      exact ho
    refine hK v' w' (hB.toR.mono hbase) ⟨hg.os, hg.tape, hg.output, hg.size, fun k hk _ => hg.block k hk (by simp)⟩ (fun g hg' => .inr (World.ownsRow.lt ho g hg').1)
  rcases hown with ⟨rfl, rfl⟩ | ⟨g, off, cap, cur, rfl, hg, h3, h4, h5, h6⟩
  · exact wpList_append_grows w hgd s x 22 hop 5 i0 (.int .u8 0) 1 1 Try.underlying22 hi hz0 hz1 hz2 rfl (by decide) none 0 0 [] hs (fun _ => ⟨rfl, rfl⟩) rfl (fun b hb => by cases hb) ad 1 1 [.int .u8 d] hx rfl hc h1c (by omega) (by unfold maxLen; omega) (by omega) grow
  · have rd := (OwnR.rd (w := w) (base := base) (.inr ⟨g, off, cap, cur, rfl, hg, h3, h4, h5, h6⟩))
    refine wpList_append_arg w hgd s x 22 hop 5 i0 (.int .u8 0) 1 1 Try.underlying22 hi hz0 hz1 hz2 rfl (by decide) g off zs.length cap (bytV zs) hs (by rw [bytV_len]; omega) ?_ ad 1 1 [.int .u8 d] hx rfl hc h1c ?_ (by unfold maxLen; omega) (by omega) ?_ (fun _ v' w' => grow v' w')
    · intro j u hj
      rw [cell_of_row w g _ cur 5 (0, 0) h3]
      rw [← h6, List.getElem?_take] at hj
      split at hj
      · rw [List.getElem?_drop] at hj; simpa using hj
      · cases hj
    · intro hroom j hj
      have hj0 : j = 0 := by simp at hj; omega
      subst hj0
      refine ⟨?_, frozen_of_row _ g _ cur 5 h3⟩
      rw [cell_of_row w g _ cur 5 (0, 0) h3]
      simp
      omega
    · intro hroom
      have e : w.setCells g (off + zs.length * 1) [.int .u8 d] = w.setCell ⟨g, off + zs.length, none⟩ (.int .u8 d) := by rw [Nat.mul_one]; rfl
      rw [e]
      have hh := heap_setCell_same w g (off + zs.length) cur 5 (.int .u8 d) h3
      refine hK _ _ (.inr ⟨g, off, cap, _, by rw [List.length_append]; rfl, hg, hh, by simp; omega, by simpa using h5, ?_⟩) ⟨rfl, rfl, rfl, by simp, fun k _ hk => heap_setCell_other w ⟨g, off + zs.length, none⟩ k _ (fun e => hk (by simp [e, Value.ownBlock]))⟩ (fun g' hg' => .inl hg')
      rw [List.length_append, List.length_singleton, bytV_append, Array.toList_setIfInBounds, List.drop_set, if_neg (by omega), Nat.add_sub_cancel_left, List.take_add_one, List.getElem?_set_self (by simp; omega), List.take_set_of_le (Nat.le_refl _), h6]
      rfl
end Go.Proofs.Qxb6600112a
