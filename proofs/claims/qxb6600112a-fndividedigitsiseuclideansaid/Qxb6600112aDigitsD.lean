/-
  PLAIN: long division, digit by digit. No Go here.
-/
import Derived.Test.Qxb6600112aDigits
namespace Go.Proofs.Qxb6600112a.Dg

/-- Behind k digits. -/
structure DivInv (za zb : List Int) (k : Nat) (Q R : List Int) : Prop where
  dq : Dig Q
  nq : NoLead Q
  dr : Dig R
  nr : NoLead R
  num : val (za.take k) = val Q * val zb + val R
  lt : val R < val zb
  lq : Q.length ≤ k

theorem le_length {a b : List Int} (ha : Dig a) (hb : Dig b) (na : NoLead a) (h : val a ≤ val b) : a.length ≤ b.length := by
  rcases Nat.lt_or_ge b.length a.length with h1 | h1
  · have := val_lt_of_length hb ha na h1; omega
  · exact h1

theorem DivInv.len {za zb : List Int} {k : Nat} {Q R : List Int} (h : DivInv za zb k Q R) (db : Dig zb) : R.length ≤ zb.length := le_length h.dr db h.nr (by have := h.lt; omega)

theorem DivInv.start {za zb : List Int} (hb : 0 < val zb) : DivInv za zb 0 [] [] :=
  ⟨dig_nil, by simp [NoLead], dig_nil, by simp [NoLead], by simp [val_nil], by rw [val_nil]; exact hb, Nat.le_refl _⟩

/-- In the middle of a digit: c times the divisor has been taken off. -/
structure DivMid (zb : List Int) (V c : Int) (R : List Int) : Prop where
  dr : Dig R
  nr : NoLead R
  num : val R + c * val zb = V

theorem DivMid.next {zb : List Int} {V c : Int} {R T : List Int} (h : DivMid zb V c R) (dT : Dig T) (hT : val T = val R - val zb) : DivMid zb V (c + 1) (strip T) :=
  ⟨strip_dig dT, strip_noLead T, by rw [val_strip, hT, Int.add_mul, Int.one_mul]; have := h.num; omega⟩

theorem DivMid.bound {zb : List Int} {V c : Int} {R : List Int} (h : DivMid zb V c R) (hV : V < 10 * val zb) (hle : val zb ≤ val R) (hb : 0 < val zb) : c + 1 ≤ 9 := by
  rcases Int.lt_or_le c 9 with h1 | h1
  · omega
  · have m := mul_le h1 (Int.le_of_lt hb)
    have := h.num
    omega

theorem DivInv.begin {za zb : List Int} {k : Nat} {Q R : List Int} (h : DivInv za zb k Q R) (d : Int) (hd : 0 ≤ d ∧ d ≤ 9) :
    DivMid zb (10 * val R + d) 0 (strip (R ++ [d])) ∧ 10 * val R + d < 10 * val zb := by
  have dR : Dig (R ++ [d]) := h.dr.append (dig_nil.cons hd.1 hd.2)
  refine ⟨⟨strip_dig dR, strip_noLead _, by rw [val_strip, val_snoc]; omega⟩, by have := h.lt; omega⟩

theorem noLead_snoc {Q : List Int} {c : Int} (hQ : Q ≠ []) (nq : NoLead Q) : NoLead (Q ++ [c]) := by
  cases Q with
  | nil => exact absurd rfl hQ
  | cons x Q => exact nq

theorem num_next {za zb : List Int} {k : Nat} {Q R R' : List Int} {c d : Int} (h : DivInv za zb k Q R) (hk : za[k]? = some d) (m : DivMid zb (10 * val R + d) c R') :
    val (za.take (k + 1)) = (10 * val Q + c) * val zb + val R' := by
  rw [List.take_add_one, hk]
  show val (za.take k ++ [d]) = _
  rw [val_snoc, h.num, Int.add_mul, Int.mul_add, ← Int.mul_assoc]
  have := m.num
  omega

theorem DivInv.push {za zb : List Int} {k : Nat} {Q R R' : List Int} {c d : Int} (h : DivInv za zb k Q R) (hk : za[k]? = some d) (m : DivMid zb (10 * val R + d) c R') (hc : 0 ≤ c ∧ c ≤ 9) (hlt : val R' < val zb)
    (hq : 0 < c ∨ Q ≠ []) : DivInv za zb (k + 1) (Q ++ [c]) R' := by
  refine ⟨h.dq.append (dig_nil.cons hc.1 hc.2), ?_, m.dr, m.nr, ?_, hlt, by have := h.lq; simp; omega⟩
  · by_cases hQ : Q = []
    · subst hQ
      have : c ≠ 0 := by rcases hq with h1 | h1; omega; exact absurd rfl h1
      simpa [NoLead] using this
    · exact noLead_snoc hQ h.nq
  · rw [num_next h hk m, val_snoc]

theorem DivInv.skip {za zb : List Int} {k : Nat} {R R' : List Int} {d : Int} (h : DivInv za zb k [] R) (hk : za[k]? = some d) (m : DivMid zb (10 * val R + d) 0 R') (hlt : val R' < val zb) : DivInv za zb (k + 1) [] R' :=
  ⟨dig_nil, h.nq, m.dr, m.nr, by rw [num_next h hk m, val_nil]; omega, hlt, Nat.zero_le _⟩

/-- The division is unique. -/
theorem div_unique {q q' r r' b : Int} (hb : 0 < b) (h0 : 0 ≤ r) (h1 : r < b) (h0' : 0 ≤ r') (h1' : r' < b) (h : q * b + r = q' * b + r') : q = q' ∧ r = r' := by
  have hq : q = q' := by
    rcases Int.lt_or_le q q' with hl | hl
    · have m := mul_le (show q + 1 ≤ q' by omega) (Int.le_of_lt hb)
      rw [Int.add_mul, Int.one_mul] at m
      omega
    · rcases Int.lt_or_le q' q with hl' | hl'
      · have m := mul_le (show q' + 1 ≤ q by omega) (Int.le_of_lt hb)
        rw [Int.add_mul, Int.one_mul] at m
        omega
      · omega
  subst hq
  exact ⟨rfl, by omega⟩

end Go.Proofs.Qxb6600112a.Dg
