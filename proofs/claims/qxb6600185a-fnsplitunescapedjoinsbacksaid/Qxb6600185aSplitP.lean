/-
  PLAIN: where a string is cut, and its pieces. No Go here.
-/
namespace Go.Proofs.Qxb6600185a.Sp

/-- The byte at place j, as a number (0 beyond the end). -/
def ch (s : ByteArray) (j : Nat) : Int := ((s.data.toList[j]?.getD 0).toNat : Int)
theorem ch_at (s : ByteArray) (k : Nat) (h : k < s.size) : ((s[k]'h).toNat : Int) = ch s k := by
  unfold ch
  have hl : k < s.data.toList.length := by simpa using h
  rw [List.getElem?_eq_getElem hl]
  rfl
theorem ch_range (s : ByteArray) (k : Nat) : 0 ≤ ch s k ∧ ch s k ≤ 255 := by
  unfold ch
  have := (s.data.toList[k]?.getD 0).toNat_lt
  omega

/-- How many backslashes stand right before place i. -/
def run (f : Nat → Int) : Nat → Nat
  | 0 => 0
  | i + 1 => if f i = 92 then run f i + 1 else 0
theorem run_succ (f : Nat → Int) (i : Nat) : run f (i + 1) = if f i = 92 then run f i + 1 else 0 := rfl
theorem run_le (f : Nat → Int) (i : Nat) : run f i ≤ i := by
  induction i with
  | zero => exact Nat.le_refl _
  | succ i ih => rw [run_succ]; split <;> omega

/-- Is there a cut at place j? -/
def isCut (f : Nat → Int) (sep : Int) (j : Nat) : Bool := decide (f j = sep) && (decide (sep ≠ 92) && decide (run f j % 2 = 0))
theorem isCut_true {f : Nat → Int} {sep : Int} {j : Nat} (h1 : f j = sep) (h2 : sep ≠ 92) (h3 : run f j % 2 = 0) : isCut f sep j = true := by simp [isCut, h1, h2, h3]
theorem isCut_ne {f : Nat → Int} {sep : Int} {j : Nat} (h : f j ≠ sep) : isCut f sep j = false := by simp [isCut, h]
theorem isCut_bs {f : Nat → Int} {sep : Int} {j : Nat} (h : sep = 92) : isCut f sep j = false := by simp [isCut, h]
theorem isCut_odd {f : Nat → Int} {sep : Int} {j : Nat} (h : run f j % 2 ≠ 0) : isCut f sep j = false := by simp [isCut, h]
theorem isCut_self {f : Nat → Int} {sep : Int} {j : Nat} (h : f j = 92) : isCut f sep j = false := by
  by_cases h1 : f j = sep
  · exact isCut_bs (by rw [← h1]; exact h)
  · exact isCut_ne h1
theorem isCut_sep {f : Nat → Int} {sep : Int} {j : Nat} (h : isCut f sep j = true) : f j = sep := by
  unfold isCut at h
  rw [Bool.and_eq_true] at h
  exact of_decide_eq_true h.1

/-- The cuts below i. -/
def cutsTo (f : Nat → Int) (sep : Int) (i : Nat) : List Nat := (List.range i).filter (isCut f sep)
theorem cutsTo_zero (f : Nat → Int) (sep : Int) : cutsTo f sep 0 = [] := rfl
theorem cutsTo_yes {f : Nat → Int} {sep : Int} {i : Nat} (h : isCut f sep i = true) : cutsTo f sep (i + 1) = cutsTo f sep i ++ [i] := by
  unfold cutsTo
  rw [List.range_succ, List.filter_append]
  simp [h]
theorem cutsTo_no {f : Nat → Int} {sep : Int} {i : Nat} (h : isCut f sep i = false) : cutsTo f sep (i + 1) = cutsTo f sep i := by
  unfold cutsTo
  rw [List.range_succ, List.filter_append]
  simp [h]
theorem cutsTo_len (f : Nat → Int) (sep : Int) (i : Nat) : (cutsTo f sep i).length ≤ i := by
  unfold cutsTo
  have := List.length_filter_le (isCut f sep) (List.range i)
  simpa using this

/-- The closed pieces, and where the open one begins. -/
def pcs (s : ByteArray) (C : List Nat) : List ByteArray × Nat := C.foldl (fun p c => (p.1 ++ [s.extract p.2 c], c + 1)) ([], 0)
theorem pcs_nil (s : ByteArray) : pcs s [] = ([], 0) := rfl
theorem pcs_snoc (s : ByteArray) (C : List Nat) (c : Nat) : pcs s (C ++ [c]) = ((pcs s C).1 ++ [s.extract (pcs s C).2 c], c + 1) := by
  unfold pcs
  rw [List.foldl_append]
  rfl

/-- The state at place i: pieces and start. -/
def partsTo (s : ByteArray) (sep : Int) (i : Nat) : List ByteArray := (pcs s (cutsTo (ch s) sep i)).1
def startTo (s : ByteArray) (sep : Int) (i : Nat) : Nat := (pcs s (cutsTo (ch s) sep i)).2
theorem parts_zero (s : ByteArray) (sep : Int) : partsTo s sep 0 = [] := rfl
theorem start_zero (s : ByteArray) (sep : Int) : startTo s sep 0 = 0 := rfl
theorem parts_yes {s : ByteArray} {sep : Int} {i : Nat} (h : isCut (ch s) sep i = true) : partsTo s sep (i + 1) = partsTo s sep i ++ [s.extract (startTo s sep i) i] := by
  unfold partsTo startTo
  rw [cutsTo_yes h, pcs_snoc]
theorem start_yes {s : ByteArray} {sep : Int} {i : Nat} (h : isCut (ch s) sep i = true) : startTo s sep (i + 1) = i + 1 := by
  unfold startTo
  rw [cutsTo_yes h, pcs_snoc]
theorem parts_no {s : ByteArray} {sep : Int} {i : Nat} (h : isCut (ch s) sep i = false) : partsTo s sep (i + 1) = partsTo s sep i := by
  unfold partsTo
  rw [cutsTo_no h]
theorem start_no {s : ByteArray} {sep : Int} {i : Nat} (h : isCut (ch s) sep i = false) : startTo s sep (i + 1) = startTo s sep i := by
  unfold startTo
  rw [cutsTo_no h]
theorem start_le (s : ByteArray) (sep : Int) (i : Nat) : startTo s sep i ≤ i := by
  induction i with
  | zero => exact Nat.le_refl _
  | succ i ih =>
    cases h : isCut (ch s) sep i with
    | true => rw [start_yes h]; exact Nat.le_refl _
    | false => rw [start_no h]; omega
theorem parts_count (s : ByteArray) (sep : Int) (i : Nat) : (partsTo s sep i).length = (cutsTo (ch s) sep i).length := by
  induction i with
  | zero => rfl
  | succ i ih =>
    cases h : isCut (ch s) sep i with
    | true => rw [parts_yes h, cutsTo_yes h]; simp [ih]
    | false => rw [parts_no h, cutsTo_no h]; exact ih
theorem parts_len (s : ByteArray) (sep : Int) (i : Nat) : (partsTo s sep i).length ≤ i := by rw [parts_count]; exact cutsTo_len _ _ _

/-- THE PIECES OF s. -/
def splitS (s : ByteArray) (sep : Int) : List ByteArray := partsTo s sep s.size ++ [s.extract (startTo s sep s.size) s.size]

/-- The scan that skips what stands behind a backslash: what holds at its head, at place i (which may lie one beyond the end). -/
structure Scan (s : ByteArray) (sep : Int) (i : Nat) (P : List ByteArray) (st : Nat) : Prop where
  le : i ≤ s.size + 1
  parts : P = partsTo s sep (min i s.size)
  start : st = startTo s sep (min i s.size)
  even : i ≤ s.size → run (ch s) i % 2 = 0

theorem Scan.zero (s : ByteArray) (sep : Int) : Scan s sep 0 [] 0 := ⟨by omega, by simp [parts_zero], by simp [start_zero], fun _ => rfl⟩
theorem Scan.bound {s : ByteArray} {sep : Int} {i : Nat} {P : List ByteArray} {st : Nat} (h : Scan s sep i P st) : st ≤ i ∧ st ≤ s.size ∧ P.length ≤ s.size := by
  have h1 := start_le s sep (min i s.size)
  have h2 := parts_len s sep (min i s.size)
  rw [h.parts, h.start]
  omega

theorem Scan.skip {s : ByteArray} {sep : Int} {i : Nat} {P : List ByteArray} {st : Nat} (h : Scan s sep i P st) (hi : i < s.size) (hb : ch s i = 92) : Scan s sep (i + 2) P st := by
  have c0 : isCut (ch s) sep i = false := isCut_self hb
  have e0 := h.even (by omega)
  have r1 : run (ch s) (i + 1) = run (ch s) i + 1 := by rw [run_succ, if_pos hb]
  obtain ⟨p1, s1⟩ : P = partsTo s sep (i + 1) ∧ st = startTo s sep (i + 1) := by
    rw [parts_no c0, start_no c0, h.parts, h.start, Nat.min_eq_left (by omega)]
    exact ⟨rfl, rfl⟩
  by_cases h1 : i + 1 < s.size
  · have c1 : isCut (ch s) sep (i + 1) = false := isCut_odd (by rw [r1]; omega)
    refine ⟨by omega, ?_, ?_, fun _ => ?_⟩
    · rw [Nat.min_eq_left (by omega), parts_no c1]; exact p1
    · rw [Nat.min_eq_left (by omega), start_no c1]; exact s1
    · rw [run_succ, r1]; split <;> omega
  · have e : i + 1 = s.size := by omega
    refine ⟨by omega, ?_, ?_, fun hle => by omega⟩
    · rw [Nat.min_eq_right (by omega), ← e]; exact p1
    · rw [Nat.min_eq_right (by omega), ← e]; exact s1

theorem Scan.cut {s : ByteArray} {sep : Int} {i : Nat} {P : List ByteArray} {st : Nat} (h : Scan s sep i P st) (hi : i < s.size) (hb : ch s i ≠ 92) (hs : ch s i = sep) : Scan s sep (i + 1) (P ++ [s.extract st i]) (i + 1) := by
  have c0 : isCut (ch s) sep i = true := isCut_true hs (by rw [← hs]; exact hb) (h.even (by omega))
  have hp := h.parts
  have hst := h.start
  rw [Nat.min_eq_left (by omega)] at hp hst
  refine ⟨by omega, ?_, ?_, fun _ => by rw [run_succ, if_neg hb]⟩
  · rw [Nat.min_eq_left (by omega), parts_yes c0, hp, hst]
  · rw [Nat.min_eq_left (by omega), start_yes c0]

theorem Scan.pass {s : ByteArray} {sep : Int} {i : Nat} {P : List ByteArray} {st : Nat} (h : Scan s sep i P st) (hi : i < s.size) (hb : ch s i ≠ 92) (hs : ch s i ≠ sep) : Scan s sep (i + 1) P st := by
  have c0 : isCut (ch s) sep i = false := isCut_ne hs
  have hp := h.parts
  have hst := h.start
  rw [Nat.min_eq_left (by omega)] at hp hst
  refine ⟨by omega, ?_, ?_, fun _ => by rw [run_succ, if_neg hb]⟩
  · rw [Nat.min_eq_left (by omega), parts_no c0]; exact hp
  · rw [Nat.min_eq_left (by omega), start_no c0]; exact hst

theorem Scan.last {s : ByteArray} {sep : Int} {i : Nat} {P : List ByteArray} {st : Nat} (h : Scan s sep i P st) (hi : s.size ≤ i) : P ++ [s.extract st s.size] = splitS s sep := by
  have hp := h.parts
  have hst := h.start
  rw [Nat.min_eq_right hi] at hp hst
  rw [hp, hst]
  rfl

end Go.Proofs.Qxb6600185a.Sp
