/-
  PLAIN: the pieces joined again; counts. No Go here.
-/
import Derived.Test.Qxb6600185aSplitP
namespace Go.Proofs.Qxb6600185a.Sp

/-- A string's bytes as numbers. -/
def nums (s : ByteArray) : List Int := s.data.toList.map fun b => (b.toNat : Int)
theorem nums_len (s : ByteArray) : (nums s).length = s.size := by simp [nums]
theorem nums_at (s : ByteArray) (j : Nat) : (nums s)[j]?.getD 0 = ch s j := by
  unfold nums ch
  rw [List.getElem?_map]
  cases s.data.toList[j]? with
  | none => rfl
  | some b => rfl
theorem nums_get (s : ByteArray) (j : Nat) (h : j < s.size) : (nums s)[j]? = some (ch s j) := by
  have hl : j < (nums s).length := by rw [nums_len]; exact h
  have := nums_at s j
  rw [List.getElem?_eq_getElem hl] at this ⊢
  rw [← this]; rfl
theorem take_nums (s : ByteArray) (j : Nat) (h : j < s.size) : (nums s).take (j + 1) = (nums s).take j ++ [ch s j] := by
  rw [List.take_add_one, nums_get s j h]; rfl
theorem nums_extract (s : ByteArray) (a b : Nat) : nums (s.extract a b) = ((nums s).drop a).take (b - a) := by
  unfold nums
  rw [ByteArray.data_extract, Array.toList_extract, List.extract_eq_take_drop, List.map_take, List.map_drop]

/-- The pieces, each followed by the separator. -/
def cl (sep : Int) (P : List ByteArray) : List Int := P.flatMap fun p => nums p ++ [sep]
theorem cl_snoc (sep : Int) (P : List ByteArray) (p : ByteArray) : cl sep (P ++ [p]) = cl sep P ++ (nums p ++ [sep]) := by simp [cl]

theorem extract_self (s : ByteArray) (a : Nat) : nums (s.extract a a) = [] := by rw [nums_extract]; simp
theorem extract_snoc (s : ByteArray) (a i : Nat) (ha : a ≤ i) (hi : i < s.size) : nums (s.extract a (i + 1)) = nums (s.extract a i) ++ [ch s i] := by
  rw [nums_extract, nums_extract, show i + 1 - a = (i - a) + 1 by omega, List.take_add_one, List.getElem?_drop, show a + (i - a) = i by omega, nums_get s i hi]
  rfl

/-- What has been read is the pieces joined. -/
theorem joined (s : ByteArray) (sep : Int) (i : Nat) (hi : i ≤ s.size) : cl sep (partsTo s sep i) ++ nums (s.extract (startTo s sep i) i) = (nums s).take i := by
  induction i with
  | zero => rw [parts_zero, start_zero, extract_self]; simp [cl]
  | succ i ih =>
    have e := ih (by omega)
    rw [take_nums s i (by omega), ← e]
    cases h : isCut (ch s) sep i with
    | true =>
      rw [parts_yes h, start_yes h, cl_snoc, extract_self, List.append_nil, isCut_sep h, List.append_assoc]
    | false =>
      rw [parts_no h, start_no h, extract_snoc s _ i (start_le s sep i) (by omega), List.append_assoc]

/-- The join of the first k pieces. -/
def joinTo (sep : Int) (P : List ByteArray) : Nat → List Int
  | 0 => []
  | k + 1 => joinTo sep P k ++ ((if 0 < k then [sep] else []) ++ nums (P[k]?.getD ByteArray.empty))
theorem joinTo_succ (sep : Int) (P : List ByteArray) (k : Nat) : joinTo sep P (k + 1) = joinTo sep P k ++ ((if 0 < k then [sep] else []) ++ nums (P[k]?.getD ByteArray.empty)) := rfl
theorem joinTo_mono (sep : Int) (P : List ByteArray) (k m : Nat) (h : k ≤ m) : (joinTo sep P k).length ≤ (joinTo sep P m).length := by
  induction m with
  | zero => rw [show k = 0 by omega]; exact Nat.le_refl _
  | succ m ih =>
    by_cases e : k = m + 1
    · rw [e]; exact Nat.le_refl _
    · have := ih (by omega)
      rw [joinTo_succ]
      simp
      omega
theorem joinTo_cl (sep : Int) (P : List ByteArray) (k : Nat) (h : k < P.length) : joinTo sep P (k + 1) = cl sep (P.take k) ++ nums (P[k]?.getD ByteArray.empty) := by
  induction k with
  | zero => simp [joinTo, cl]
  | succ k ih =>
    rw [joinTo_succ, ih (by omega), if_pos (by omega), List.take_add_one, List.getElem?_eq_getElem (show k < P.length by omega)]
    show cl sep (P.take k) ++ nums P[k] ++ ([sep] ++ _) = cl sep (P.take k ++ [P[k]]) ++ _
    rw [cl_snoc]
    simp

theorem joinTo_split (s : ByteArray) (sep : Int) : joinTo sep (splitS s sep) (splitS s sep).length = nums s := by
  have hl : (splitS s sep).length = (partsTo s sep s.size).length + 1 := by simp [splitS]
  rw [hl, joinTo_cl _ _ _ (by omega)]
  have e := joined s sep s.size (Nat.le_refl _)
  rw [List.take_of_length_le (by rw [nums_len]; exact Nat.le_refl _)] at e
  rw [← e]
  unfold splitS
  congr 2
  · simp
  · simp

/-- How often c stands below k. -/
def countTo (s : ByteArray) (c : Int) (k : Nat) : Nat := ((List.range k).filter fun j => decide (ch s j = c)).length
theorem count_zero (s : ByteArray) (c : Int) : countTo s c 0 = 0 := rfl
theorem count_yes {s : ByteArray} {c : Int} {k : Nat} (h : ch s k = c) : countTo s c (k + 1) = countTo s c k + 1 := by
  unfold countTo
  rw [List.range_succ, List.filter_append]
  simp [h]
theorem count_no {s : ByteArray} {c : Int} {k : Nat} (h : ch s k ≠ c) : countTo s c (k + 1) = countTo s c k := by
  unfold countTo
  rw [List.range_succ, List.filter_append]
  simp [h]
theorem count_le (s : ByteArray) (c : Int) (k : Nat) : countTo s c k ≤ k := by
  unfold countTo
  have := List.length_filter_le (fun j => decide (ch s j = c)) (List.range k)
  simpa using this

theorem cuts_le (s : ByteArray) (sep : Int) (k : Nat) : (cutsTo (ch s) sep k).length ≤ countTo s sep k := by
  induction k with
  | zero => exact Nat.le_refl _
  | succ k ih =>
    cases h : isCut (ch s) sep k with
    | true => rw [cutsTo_yes h, count_yes (isCut_sep h)]; simp; exact ih
    | false =>
      rw [cutsTo_no h]
      by_cases e : ch s k = sep
      · rw [count_yes e]; omega
      · rw [count_no e]; exact ih

theorem count_none {s : ByteArray} {c : Int} {k : Nat} (h : countTo s c k = 0) (j : Nat) (hj : j < k) : ch s j ≠ c := by
  induction k with
  | zero => omega
  | succ k ih =>
    by_cases e : ch s k = c
    · rw [count_yes e] at h; omega
    · rw [count_no e] at h
      by_cases e2 : j = k
      · rw [e2]; exact e
      · exact ih h (by omega)

theorem run_none {f : Nat → Int} {k : Nat} (h : ∀ j, j < k → f j ≠ 92) : run f k = 0 := by
  cases k with
  | zero => rfl
  | succ k => rw [run_succ, if_neg (h k (by omega))]

theorem cuts_plain {s : ByteArray} {sep : Int} {n : Nat} (h : countTo s 92 n = 0) (k : Nat) (hk : k ≤ n) : (cutsTo (ch s) sep k).length = countTo s sep k := by
  induction k with
  | zero => rfl
  | succ k ih =>
    have e := ih (by omega)
    have hk92 := count_none h k (by omega)
    by_cases hs : ch s k = sep
    · have hc : isCut (ch s) sep k = true := isCut_true hs (by rw [← hs]; exact hk92) (by rw [run_none (fun j hj => count_none h j (by omega))])
      rw [cutsTo_yes hc, count_yes hs]; simp [e]
    · rw [cutsTo_no (isCut_ne hs), count_no hs]; exact e

theorem cuts_bs (s : ByteArray) (k : Nat) : cutsTo (ch s) 92 k = [] := by
  induction k with
  | zero => rfl
  | succ k ih => rw [cutsTo_no (isCut_bs rfl)]; exact ih

theorem split_count (s : ByteArray) (sep : Int) : (splitS s sep).length = (cutsTo (ch s) sep s.size).length + 1 := by
  unfold splitS
  rw [List.length_append, parts_count]
  rfl

end Go.Proofs.Qxb6600185a.Sp
