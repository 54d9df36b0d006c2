/-
  PLAIN: digit strings as numbers. Lists of integers, the most significant digit first. No Go here.
-/
namespace Go.Proofs.Qxb6600112a.Dg

/-- The number that a row of digits (or of any integers) stands for. -/
def val (l : List Int) : Int := l.foldl (fun a d => 10 * a + d) 0
def Dig (l : List Int) : Prop := ∀ d ∈ l, 0 ≤ d ∧ d ≤ 9
def NoLead (l : List Int) : Prop := l.head? ≠ some 0
def pw (k : Nat) : Int := (10 : Int) ^ k

theorem pw_zero : pw 0 = 1 := rfl
theorem pw_succ (k : Nat) : pw (k + 1) = 10 * pw k := by unfold pw; rw [Int.pow_succ, Int.mul_comm]
theorem pw_pos (k : Nat) : 0 < pw k := by
  induction k with
  | zero => rw [pw_zero]; omega
  | succ k ih => rw [pw_succ]; omega
theorem pw_add (a b : Nat) : pw (a + b) = pw a * pw b := by unfold pw; rw [Int.pow_add]

theorem val_nil : val [] = 0 := rfl
theorem val_from (l : List Int) : ∀ a, l.foldl (fun a d => 10 * a + d) a = a * pw l.length + val l := by
  induction l with
  | nil => intro a; simp [val, pw_zero]
  | cons d l ih =>
    intro a
    have e1 := ih (10 * a + d)
    have e2 := ih (10 * 0 + d)
    simp only [val, List.foldl_cons, List.length_cons, pw_succ] at e1 e2 ⊢
    rw [e1, e2]
    simp only [Int.add_mul, Int.mul_assoc, Int.mul_comm, Int.zero_mul]
    omega
theorem val_cons (d : Int) (l : List Int) : val (d :: l) = d * pw l.length + val l := by
  have e : val (d :: l) = l.foldl (fun a d => 10 * a + d) (10 * 0 + d) := rfl
  rw [e, val_from, show (10 * 0 + d : Int) = d by omega]
theorem val_append (a b : List Int) : val (a ++ b) = val a * pw b.length + val b := by
  unfold val
  rw [List.foldl_append]
  exact val_from b _
theorem val_snoc (a : List Int) (d : Int) : val (a ++ [d]) = 10 * val a + d := by
  rw [val_append, val_cons, val_nil]
  simp only [List.length_cons, List.length_nil, pw_succ, pw_zero]
  omega

theorem Dig.tail {d : Int} {l : List Int} (h : Dig (d :: l)) : Dig l := fun x hx => h x (List.mem_cons_of_mem _ hx)
theorem Dig.head {d : Int} {l : List Int} (h : Dig (d :: l)) : 0 ≤ d ∧ d ≤ 9 := h d List.mem_cons_self
theorem Dig.append {a b : List Int} (ha : Dig a) (hb : Dig b) : Dig (a ++ b) := by
  intro d hd
  rcases List.mem_append.1 hd with h | h
  · exact ha d h
  · exact hb d h
theorem dig_nil : Dig [] := fun _ h => by cases h
theorem Dig.cons {d : Int} {l : List Int} (h0 : 0 ≤ d) (h9 : d ≤ 9) (h : Dig l) : Dig (d :: l) := by
  intro x hx
  rcases List.mem_cons.1 hx with rfl | h'
  · exact ⟨h0, h9⟩
  · exact h x h'
theorem Dig.drop {l : List Int} (h : Dig l) (k : Nat) : Dig (l.drop k) := fun d hd => h d (List.mem_of_mem_drop hd)
theorem Dig.take {l : List Int} (h : Dig l) (k : Nat) : Dig (l.take k) := fun d hd => h d (List.mem_of_mem_take hd)
theorem Dig.at {l : List Int} (h : Dig l) (k : Nat) : 0 ≤ l[k]?.getD 0 ∧ l[k]?.getD 0 ≤ 9 := by
  by_cases hk : k < l.length
  · rw [List.getElem?_eq_getElem hk]; exact h _ (List.getElem_mem hk)
  · rw [List.getElem?_eq_none (by omega)]; simp

theorem mul_le {d e p : Int} (h : d ≤ e) (hp : 0 ≤ p) : d * p ≤ e * p := Int.mul_le_mul_of_nonneg_right h hp

theorem val_bounds {l : List Int} (h : Dig l) : 0 ≤ val l ∧ val l < pw l.length := by
  induction l with
  | nil => rw [val_nil, List.length_nil, pw_zero]; omega
  | cons d l ih =>
    obtain ⟨i1, i2⟩ := ih h.tail
    obtain ⟨h0, h9⟩ := h.head
    have hp := pw_pos l.length
    have m1 := mul_le h0 (Int.le_of_lt hp)
    have m2 := mul_le h9 (Int.le_of_lt hp)
    rw [val_cons, List.length_cons, pw_succ]
    omega

/-- A number without a leading zero is at least the power of its length less one. -/
theorem val_lead {l : List Int} (h : Dig l) (hn : NoLead l) (hl : l ≠ []) : pw (l.length - 1) ≤ val l := by
  cases l with
  | nil => exact absurd rfl hl
  | cons d l =>
    obtain ⟨i1, i2⟩ := val_bounds h.tail
    obtain ⟨h0, h9⟩ := h.head
    have hd : d ≠ 0 := fun e => hn (by rw [e]; rfl)
    have hp := pw_pos l.length
    have m1 := mul_le (show (1 : Int) ≤ d by omega) (Int.le_of_lt hp)
    rw [val_cons, List.length_cons, Nat.add_sub_cancel]
    omega

theorem pw_mono {a b : Nat} (h : a ≤ b) : pw a ≤ pw b := by
  obtain ⟨c, rfl⟩ := Nat.exists_eq_add_of_le h
  rw [pw_add]
  have h1 := pw_pos a
  have h2 := pw_pos c
  have m := mul_le (show (1 : Int) ≤ pw c by omega) (Int.le_of_lt h1)
  rw [Int.mul_comm] at m ⊢
  rw [Int.mul_one] at m
  rw [Int.mul_comm (pw c)] at m ⊢
  omega

theorem val_lt_of_length {a b : List Int} (ha : Dig a) (hb : Dig b) (nb : NoLead b) (h : a.length < b.length) : val a < val b := by
  have h1 := (val_bounds ha).2
  have h2 := val_lead hb nb (by intro e; rw [e] at h; simp at h)
  have h3 := pw_mono (show a.length ≤ b.length - 1 by omega)
  omega

/-- The strip of leading zeros. -/
def strip : List Int → List Int
  | [] => []
  | d :: l => if d = 0 then strip l else d :: l
theorem val_strip (l : List Int) : val (strip l) = val l := by
  induction l with
  | nil => rfl
  | cons d l ih =>
    unfold strip
    split
    · rename_i h; rw [ih, val_cons, h]; omega
    · rfl
theorem strip_noLead (l : List Int) : NoLead (strip l) := by
  induction l with
  | nil => simp [NoLead, strip]
  | cons d l ih =>
    unfold strip
    split
    · exact ih
    · rename_i h; simpa [NoLead] using h
theorem strip_dig {l : List Int} (h : Dig l) : Dig (strip l) := by
  induction l with
  | nil => exact h
  | cons d l ih =>
    unfold strip
    split
    · exact ih h.tail
    · exact h
theorem strip_self {l : List Int} (h : NoLead l) : strip l = l := by
  cases l with
  | nil => rfl
  | cons d l =>
    unfold strip
    rw [if_neg]
    intro e; exact h (by rw [e]; rfl)
theorem strip_length (l : List Int) : (strip l).length ≤ l.length := by
  induction l with
  | nil => exact Nat.le_refl _
  | cons d l ih =>
    unfold strip
    split
    · simp; omega
    · exact Nat.le_refl _
/-- Stripped as a cut: the first k are zeros. -/
theorem strip_drop (l : List Int) (k : Nat) (hk : k ≤ l.length) (hz : ∀ i, i < k → l[i]?.getD 0 = 0) : strip (l.drop k) = strip l := by
  induction k generalizing l with
  | zero => rfl
  | succ k ih =>
    cases l with
    | nil => simp at hk
    | cons d l =>
      have h0 : d = 0 := by simpa using hz 0 (by omega)
      have e := ih l (by simpa using hk) (fun i hi => by simpa using hz (i + 1) (by omega))
      rw [List.drop_succ_cons, e]
      conv => rhs; unfold strip
      rw [if_pos h0]

/-- The order of two rows of one length, from the left. -/
def cmpSame : List Int → List Int → Int
  | x :: a, y :: b => if x = y then cmpSame a b else if x < y then -1 else 1
  | _, _ => 0
/-- compareDigits, rxb1CmpNum behind its strips. -/
def cmpL (a b : List Int) : Int := if a.length ≠ b.length then (if a.length < b.length then -1 else 1) else cmpSame a b

theorem cmpSame_spec : ∀ (a b : List Int), Dig a → Dig b → a.length = b.length → (cmpSame a b = -1 ∧ val a < val b) ∨ (cmpSame a b = 0 ∧ a = b) ∨ (cmpSame a b = 1 ∧ val b < val a)
  | [], [], _, _, _ => .inr (.inl ⟨rfl, rfl⟩)
  | [], _ :: _, _, _, h => by simp at h
  | _ :: _, [], _, _, h => by simp at h
  | x :: a, y :: b, ha, hb, h => by
    have hl : a.length = b.length := by simpa using h
    obtain ⟨a1, a2⟩ := val_bounds ha.tail
    obtain ⟨b1, b2⟩ := val_bounds hb.tail
    have hp := pw_pos b.length
    rw [hl] at a2
    unfold cmpSame
    rw [val_cons, val_cons, hl]
    by_cases hxy : x = y
    · rw [if_pos hxy]
      rcases cmpSame_spec a b ha.tail hb.tail hl with ⟨h1, h2⟩ | ⟨h1, h2⟩ | ⟨h1, h2⟩
      · exact .inl ⟨h1, by rw [hxy]; omega⟩
      · exact .inr (.inl ⟨h1, by rw [hxy, h2]⟩)
      · exact .inr (.inr ⟨h1, by rw [hxy]; omega⟩)
    · rw [if_neg hxy]
      by_cases hlt : x < y
      · rw [if_pos hlt]
        have m := mul_le (show x + 1 ≤ y by omega) (Int.le_of_lt hp)
        rw [Int.add_mul, Int.one_mul] at m
        exact .inl ⟨rfl, by omega⟩
      · rw [if_neg hlt]
        have m := mul_le (show y + 1 ≤ x by omega) (Int.le_of_lt hp)
        rw [Int.add_mul, Int.one_mul] at m
        exact .inr (.inr ⟨rfl, by omega⟩)

theorem cmpL_spec {a b : List Int} (ha : Dig a) (hb : Dig b) (na : NoLead a) (nb : NoLead b) : (cmpL a b = -1 ∧ val a < val b) ∨ (cmpL a b = 0 ∧ a = b) ∨ (cmpL a b = 1 ∧ val b < val a) := by
  unfold cmpL
  by_cases hl : a.length = b.length
  · rw [if_neg (by simpa using hl)]
    exact cmpSame_spec a b ha hb hl
  · rw [if_pos hl]
    by_cases hlt : a.length < b.length
    · rw [if_pos hlt]
      exact .inl ⟨rfl, val_lt_of_length ha hb nb hlt⟩
    · rw [if_neg hlt]
      exact .inr (.inr ⟨rfl, val_lt_of_length hb ha na (by omega)⟩)

/-- One number has one row of digits without leading zeros. -/
theorem val_inj {a b : List Int} (ha : Dig a) (hb : Dig b) (na : NoLead a) (nb : NoLead b) (h : val a = val b) : a = b := by
  rcases cmpL_spec ha hb na nb with ⟨_, h1⟩ | ⟨_, h1⟩ | ⟨_, h1⟩
  · omega
  · exact h1
  · omega

theorem cmpL_neg {a b : List Int} (ha : Dig a) (hb : Dig b) (na : NoLead a) (nb : NoLead b) : cmpL a b < 0 ↔ val a < val b := by
  rcases cmpL_spec ha hb na nb with ⟨h0, h1⟩ | ⟨h0, h1⟩ | ⟨h0, h1⟩
  · rw [h0]; omega
  · rw [h0, h1]; omega
  · rw [h0]; omega
theorem cmpL_zero {a b : List Int} (ha : Dig a) (hb : Dig b) (na : NoLead a) (nb : NoLead b) : cmpL a b = 0 ↔ val a = val b := by
  rcases cmpL_spec ha hb na nb with ⟨h0, h1⟩ | ⟨h0, h1⟩ | ⟨h0, h1⟩
  · rw [h0]; omega
  · rw [h0, h1]; simp
  · rw [h0]; omega
theorem cmpL_range (a b : List Int) (ha : Dig a) (hb : Dig b) : -1 ≤ cmpL a b ∧ cmpL a b ≤ 1 := by
  unfold cmpL
  split
  · split <;> omega
  · rename_i h
    rcases cmpSame_spec a b ha hb (by simpa using h) with ⟨h0, _⟩ | ⟨h0, _⟩ | ⟨h0, _⟩ <;> rw [h0] <;> omega

/-- The first difference of two rows of one length. -/
theorem cmpSame_at (a b : List Int) (k : Nat) (h : a.length = b.length) (hk : k < a.length) (he : ∀ i, i < k → a[i]?.getD 0 = b[i]?.getD 0) (hd : a[k]?.getD 0 ≠ b[k]?.getD 0) :
    cmpSame a b = if a[k]?.getD 0 < b[k]?.getD 0 then -1 else 1 := by
  induction k generalizing a b with
  | zero =>
    cases a with
    | nil => simp at hk
    | cons x a =>
      cases b with
      | nil => simp at h
      | cons y b =>
        have hxy : x ≠ y := by simpa using hd
        unfold cmpSame
        rw [if_neg hxy]
        simp
  | succ k ih =>
    cases a with
    | nil => simp at hk
    | cons x a =>
      cases b with
      | nil => simp at h
      | cons y b =>
        have hxy : x = y := by simpa using he 0 (by omega)
        unfold cmpSame
        rw [if_pos hxy, ih a b (by simpa using h) (by simpa using hk) (fun i hi => by simpa using he (i + 1) (by omega)) (by simpa using hd)]
        simp
theorem cmpSame_eq (a b : List Int) (h : a.length = b.length) (he : ∀ i, i < a.length → a[i]?.getD 0 = b[i]?.getD 0) : cmpSame a b = 0 := by
  have : a = b := by
    apply List.ext_getElem h
    intro i h1 h2
    have := he i h1
    rwa [List.getElem?_eq_getElem h1, List.getElem?_eq_getElem h2] at this
  subst this
  clear h he
  induction a with
  | nil => rfl
  | cons x a ih => unfold cmpSame; rw [if_pos rfl]; exact ih

/-- The k lowest digits. -/
def low (l : List Int) (k : Nat) : Int := val (l.drop (l.length - k))
theorem low_zero (l : List Int) : low l 0 = 0 := by simp [low, val_nil]
theorem low_all (l : List Int) (k : Nat) (h : l.length ≤ k) : low l k = val l := by unfold low; rw [show l.length - k = 0 by omega]; rfl
theorem low_succ (l : List Int) (k : Nat) (h : k < l.length) : low l (k + 1) = l[l.length - (k + 1)]?.getD 0 * pw k + low l k := by
  unfold low
  have hlt : l.length - (k + 1) < l.length := by omega
  rw [List.drop_eq_getElem_cons hlt, val_cons, List.length_drop, show l.length - (k + 1) + 1 = l.length - k by omega, show l.length - (l.length - k) = k by omega, List.getElem?_eq_getElem hlt]
  rfl
/-- The digit at place k from the right, 0 beyond. -/
def dg (l : List Int) (k : Nat) : Int := if k < l.length then l[l.length - (k + 1)]?.getD 0 else 0
theorem low_step (l : List Int) (k : Nat) : low l (k + 1) = dg l k * pw k + low l k := by
  unfold dg
  split
  · rename_i h; exact low_succ l k h
  · rename_i h; rw [low_all _ _ (by omega), low_all _ _ (by omega)]; omega
theorem dg_bounds {l : List Int} (h : Dig l) (k : Nat) : 0 ≤ dg l k ∧ dg l k ≤ 9 := by
  unfold dg
  split
  · exact h.at _
  · omega

/-- One column of a subtraction. -/
theorem sub_step {T : List Int} {x y bo va vb : Int} {k : Nat} (hT : T.length = k) (h : val T - bo * pw k = va - vb) :
    val ((10 + x - bo - y) % 10 :: T) - (1 - (10 + x - bo - y) / 10) * pw (k + 1) = (x * pw k + va) - (y * pw k + vb) := by
  rw [val_cons, hT, pw_succ]
  have e := Int.emod_add_mul_ediv (10 + x - bo - y) 10
  have e2 : (10 + x - bo - y) % 10 = 10 + x - bo - y - 10 * ((10 + x - bo - y) / 10) := by omega
  rw [e2]
  generalize (10 + x - bo - y) / 10 = q
  simp only [Int.sub_mul, Int.add_mul, Int.mul_assoc, Int.one_mul]
  rw [show q * (10 * pw k) = 10 * (q * pw k) from by rw [Int.mul_left_comm]]
  omega
/-- One column of an addition. -/
theorem add_step {T : List Int} {s c va vb x y : Int} {k : Nat} (hT : T.length = k) (h : val T + c * pw k = va + vb) (hs : s = c + x + y) :
    val (s % 10 :: T) + (s / 10) * pw (k + 1) = (x * pw k + va) + (y * pw k + vb) := by
  rw [val_cons, hT, pw_succ]
  have e2 : s % 10 = s - 10 * (s / 10) := by omega
  rw [e2]
  generalize s / 10 = q
  subst hs
  simp only [Int.sub_mul, Int.add_mul, Int.mul_assoc]
  rw [show q * (10 * pw k) = 10 * (q * pw k) from by rw [Int.mul_left_comm]]
  omega

theorem sub_end {T a b : List Int} {bo : Int} {n : Nat} (hT : T.length = n) (dT : Dig T) (h : val T - bo * pw n = val a - val b) (h0 : 0 ≤ bo) (hge : val b ≤ val a) : bo = 0 ∧ val T = val a - val b := by
  have hb := (val_bounds dT).2
  rw [hT] at hb
  have hp := pw_pos n
  have : bo = 0 := by
    rcases Int.lt_or_le 0 bo with h1 | h1
    · have m := mul_le (show (1 : Int) ≤ bo by omega) (Int.le_of_lt hp)
      omega
    · omega
  subst this
  omega

end Go.Proofs.Qxb6600112a.Dg
