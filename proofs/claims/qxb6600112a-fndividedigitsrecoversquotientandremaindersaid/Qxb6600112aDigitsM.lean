/-
  PLAIN: the schoolbook product, and the carries, as changes of one row of integers. No Go here.
-/
import Derived.Test.Qxb6600112aDigits
namespace Go.Proofs.Qxb6600112a.Dg

theorem val_set (l : List Int) (k : Nat) (x : Int) (h : k < l.length) : val (l.set k x) = val l + (x - l[k]?.getD 0) * pw (l.length - (k + 1)) := by
  induction l generalizing k with
  | nil => simp at h
  | cons d l ih =>
    cases k with
    | zero =>
      rw [List.set_cons_zero, val_cons, val_cons]
      simp only [List.getElem?_cons_zero, Option.getD_some, List.length_cons, Nat.zero_add, Nat.add_sub_cancel, Int.sub_mul]
      omega
    | succ k =>
      have hk : k < l.length := by simpa using h
      rw [List.set_cons_succ, val_cons, val_cons, ih k hk]
      simp only [List.getElem?_cons_succ, List.length_cons, List.length_set, Nat.add_sub_add_right]
      omega

/-- The value of the first k digits, at their places. -/
def top (l : List Int) (k : Nat) : Int := val (l.take k) * pw (l.length - k)
theorem top_zero (l : List Int) : top l 0 = 0 := by simp [top, val_nil]
theorem top_all (l : List Int) (k : Nat) (h : l.length ≤ k) : top l k = val l := by unfold top; rw [List.take_of_length_le h, show l.length - k = 0 by omega, pw_zero, Int.mul_one]
theorem top_succ (l : List Int) (k : Nat) (h : k < l.length) : top l (k + 1) = top l k + l[k]?.getD 0 * pw (l.length - (k + 1)) := by
  unfold top
  rw [List.take_add_one, List.getElem?_eq_getElem h]
  show val (l.take k ++ [l[k]]) * _ = _
  rw [val_snoc, show l.length - k = (l.length - (k + 1)) + 1 by omega, pw_succ, Int.add_mul]
  show 10 * val (l.take k) * pw (l.length - (k + 1)) + _ = val (l.take k) * (10 * pw (l.length - (k + 1))) + l[k] * _
  rw [Int.mul_left_comm, Int.mul_assoc]

/-- One product goes into its column. -/
theorem mul_step {acc za zb : List Int} {la lb i j : Nat} (hb : zb.length = lb) (hacc : acc.length = la + lb) (hi : i < la) (hj : j < lb)
    (hv : val acc = top za i * val zb + za[i]?.getD 0 * pw (la - (i + 1)) * top zb j) :
    val (acc.set (i + j + 1) (acc[i + j + 1]?.getD 0 + za[i]?.getD 0 * zb[j]?.getD 0)) = top za i * val zb + za[i]?.getD 0 * pw (la - (i + 1)) * top zb (j + 1) := by
  rw [val_set _ _ _ (by omega), hv, hacc, top_succ zb j (by omega), hb, Int.mul_add, ← Int.add_assoc]
  congr 1
  rw [show la + lb - (i + j + 1 + 1) = (la - (i + 1)) + (lb - (j + 1)) by omega, pw_add]
  rw [show acc[i + j + 1]?.getD 0 + za[i]?.getD 0 * zb[j]?.getD 0 - acc[i + j + 1]?.getD 0 = za[i]?.getD 0 * zb[j]?.getD 0 by omega]
  simp only [Int.mul_assoc, Int.mul_left_comm]

theorem mul_row {za zb : List Int} {la i : Nat} (ha : za.length = la) (hi : i < la) : top za i * val zb + za[i]?.getD 0 * pw (la - (i + 1)) * val zb = top za (i + 1) * val zb := by
  rw [top_succ za i (by omega), ha, Int.add_mul]

/-- One carry. -/
def carry1 (acc : List Int) (k : Nat) : List Int := (acc.set k (acc[k]?.getD 0 + acc[k + 1]?.getD 0 / 10)).set (k + 1) (acc[k + 1]?.getD 0 % 10)
theorem carry1_len (acc : List Int) (k : Nat) : (carry1 acc k).length = acc.length := by simp [carry1]
theorem carry1_val (acc : List Int) (k : Nat) (h : k + 1 < acc.length) : val (carry1 acc k) = val acc := by
  unfold carry1
  rw [val_set _ _ _ (by simpa using h), val_set _ _ _ (by omega), List.getElem?_set_ne (by omega), List.length_set]
  rw [show acc.length - (k + 1) = (acc.length - (k + 1 + 1)) + 1 by omega, pw_succ]
  have e : acc[k + 1]?.getD 0 % 10 = acc[k + 1]?.getD 0 - 10 * (acc[k + 1]?.getD 0 / 10) := by omega
  rw [e]
  generalize acc[k + 1]?.getD 0 = y
  generalize acc[k]?.getD 0 = x
  rw [show x + y / 10 - x = y / 10 by omega, show y - 10 * (y / 10) - y = - (10 * (y / 10)) by omega]
  rw [Int.neg_mul, Int.mul_assoc, Int.mul_left_comm]
  omega

/-- What holds of the row when the columns behind k are digits. -/
structure Carried (acc : List Int) (k : Nat) (M : Int) : Prop where
  below : ∀ i, i < k → 0 ≤ acc[i]?.getD 0 ∧ acc[i]?.getD 0 ≤ M
  here : 0 ≤ acc[k]?.getD 0 ∧ acc[k]?.getD 0 ≤ 2 * M
  above : ∀ i, k < i → 0 ≤ acc[i]?.getD 0 ∧ acc[i]?.getD 0 ≤ 9

theorem carry1_at (acc : List Int) (k i : Nat) (h : k + 1 < acc.length) : (carry1 acc k)[i]?.getD 0 = if i = k + 1 then acc[k + 1]?.getD 0 % 10 else if i = k then acc[k]?.getD 0 + acc[k + 1]?.getD 0 / 10 else acc[i]?.getD 0 := by
  unfold carry1
  rw [List.getElem?_set]
  by_cases h1 : i = k + 1
  · subst h1
    rw [if_pos rfl, if_pos (by simpa using h), if_pos rfl]; rfl
  · rw [if_neg (by omega), if_neg h1, List.getElem?_set]
    by_cases h2 : i = k
    · subst h2
      rw [if_pos rfl, if_pos (by omega), if_pos rfl]; rfl
    · rw [if_neg (by omega), if_neg h2]

theorem Carried.step {acc : List Int} {k : Nat} {M : Int} (h : Carried acc (k + 1) M) (hl : k + 1 < acc.length) : Carried (carry1 acc k) k M := by
  obtain ⟨b, he, ab⟩ := h
  have hk := b k (by omega)
  refine ⟨fun i hi => ?_, ?_, fun i hi => ?_⟩
  · rw [carry1_at _ _ _ hl, if_neg (by omega), if_neg (by omega)]; exact b i (by omega)
  · rw [carry1_at _ _ _ hl, if_neg (by omega), if_pos rfl]; omega
  · rw [carry1_at _ _ _ hl]
    by_cases h1 : i = k + 1
    · rw [if_pos h1]; omega
    · rw [if_neg h1, if_neg (by omega)]; exact ab i (by omega)

/-- The row behind all carries is a row of digits, where the number fits. -/
theorem Carried.dig {acc : List Int} {M : Int} (h : Carried acc 0 M) (hv : val acc < pw acc.length) : Dig acc := by
  cases acc with
  | nil => exact dig_nil
  | cons d l =>
    have hd : 0 ≤ d := h.here.1
    have dl : Dig l := by
      intro x hx
      obtain ⟨i, hi, rfl⟩ := List.getElem_of_mem hx
      have := h.above (i + 1) (by omega)
      simpa [hi] using this
    have b := val_bounds dl
    have hp := pw_pos l.length
    refine dl.cons hd ?_
    rw [val_cons, List.length_cons, pw_succ] at hv
    rcases Int.lt_or_le 9 d with h1 | h1
    · have m := mul_le (show (10 : Int) ≤ d by omega) (Int.le_of_lt hp)
      omega
    · exact h1

theorem mul_fits {za zb : List Int} (ha : Dig za) (hb : Dig zb) : val za * val zb < pw (za.length + zb.length) := by
  obtain ⟨a0, a1⟩ := val_bounds ha
  obtain ⟨b0, b1⟩ := val_bounds hb
  rw [pw_add]
  exact Int.lt_of_le_of_lt (Int.mul_le_mul_of_nonneg_left (Int.le_of_lt b1) a0) (Int.mul_lt_mul_of_pos_right a1 (pw_pos _))

end Go.Proofs.Qxb6600112a.Dg
