/-
  PLAIN: the case table (zzOffersModel), and that offers agrees with it.
-/
import Derived.Test.Qxb6600185aOffG
namespace Go.Proofs.Qxb6600185a
open Go.RowKit

/-- The first loop's test, the second's, the third's. -/
def m1 (ys : List Zt) (t : Zt) : Bool := t.1 == 4 || hasTy ys t.1
def m2 (zs : List Zt) (t : Zt) : Bool := t.1 == 4 || hasZ zs t
def m3 (ho : Bool) (zs : List Zt) (t : Zt) : Bool := !(t.1 == 4) || (if ho then hasZ zs t else t.2.1 == 0 && t.2.2 == 0)
/-- The four cases of D-H presence. -/
def mEnd (ho hp : Bool) (zs ys : List Zt) : Bool := if hp then ys.all (m3 ho zs) else if ho then hasZ zs (4, 0, 0) else true
def modelB (p1 : Int) (zs : List Zt) (p2 : Int) (ys : List Zt) : Bool := decide (p1 = p2) && (zs.all (m1 ys) && (ys.all (m2 zs) && mEnd (hasTy zs 4) (hasTy ys 4) zs ys))

theorem hasTy_iff (zs : List Zt) (v : Int) : hasTy zs v = true ↔ ∃ t ∈ zs, t.1 = v := by
  unfold hasTy; rw [List.any_eq_true]
  constructor
  · rintro ⟨t, h1, h2⟩; exact ⟨t, h1, by simpa using h2⟩
  · rintro ⟨t, h1, h2⟩; exact ⟨t, h1, by simpa using h2⟩
theorem hasTy_not {zs : List Zt} {v : Int} (h : hasTy zs v = false) {t : Zt} (ht : t ∈ zs) : t.1 ≠ v := by
  intro e
  rw [(hasTy_iff zs v).2 ⟨t, ht, e⟩] at h
  cases h
theorem mem_expl (zs : List Zt) (t : Zt) : t ∈ expl zs ↔ t ∈ zs ∨ (hasTy zs 4 = false ∧ t = (4, 0, 0)) := by
  cases h : hasTy zs 4 with
  | true => rw [expl_yes h]; simp
  | false => rw [expl_no h]; simp
theorem expl_range {zs : List Zt} (h : ∀ t ∈ zs, 0 ≤ t.1 ∧ t.1 ≤ 255) : ∀ t ∈ expl zs, 0 ≤ t.1 ∧ t.1 ≤ 255 := by
  intro t ht
  rcases (mem_expl zs t).1 ht with h1 | ⟨_, rfl⟩
  · exact h t h1
  · simp
theorem offB_iff {zs ys : List Zt} (hz : ∀ t ∈ zs, 0 ≤ t.1 ∧ t.1 ≤ 255) (hy : ∀ t ∈ ys, 0 ≤ t.1 ∧ t.1 ≤ 255) :
    offB zs ys = true ↔ (∀ t ∈ expl zs, ∃ u ∈ expl ys, u.1 = t.1) ∧ ∀ t ∈ expl ys, t ∈ expl zs := by
  have rz := expl_range hz
  have ry := expl_range hy
  unfold offB
  rw [Bool.and_eq_true, decide_eq_true_iff, List.all_eq_true]
  constructor
  · rintro ⟨he, ha⟩
    refine ⟨fun t ht => ?_, fun t ht => (hasZ_mem _ _).1 (ha t ht)⟩
    have hr := rz t ht
    have e1 := tset_at (expl zs) t.1.toNat (by omega)
    have e2 := tset_at (expl ys) t.1.toNat (by omega)
    rw [he, e1] at e2
    have : ((expl zs).any fun u => u.1.toNat == t.1.toNat) = true := List.any_eq_true.2 ⟨t, ht, by simp⟩
    rw [this] at e2
    obtain ⟨u, hu, hh⟩ := List.any_eq_true.1 e2.symm
    have hh' : u.1.toNat = t.1.toNat := by simpa using hh
    exact ⟨u, hu, by have := ry u hu; omega⟩
  · rintro ⟨h1, h2⟩
    refine ⟨tset_ext fun j _ => ?_, fun t ht => (hasZ_mem _ _).2 (h2 t ht)⟩
    rw [Bool.eq_iff_iff, List.any_eq_true, List.any_eq_true]
    constructor
    · rintro ⟨t, ht, hp⟩; exact ⟨t, h2 t ht, hp⟩
    · rintro ⟨t, ht, hp⟩
      obtain ⟨u, hu, e⟩ := h1 t ht
      exact ⟨u, hu, by rw [e]; exact hp⟩

theorem m1_iff (ys : List Zt) (t : Zt) : m1 ys t = true ↔ t.1 = 4 ∨ ∃ u ∈ ys, u.1 = t.1 := by
  unfold m1; rw [Bool.or_eq_true, hasTy_iff, beq_iff_eq]
theorem m2_iff (zs : List Zt) (t : Zt) : m2 zs t = true ↔ t.1 = 4 ∨ t ∈ zs := by
  unfold m2; rw [Bool.or_eq_true, hasZ_mem, beq_iff_eq]
theorem m3_iff (ho : Bool) (zs : List Zt) (t : Zt) : m3 ho zs t = true ↔ (t.1 = 4 → if ho then t ∈ zs else t = (4, 0, 0)) := by
  obtain ⟨x, y, z⟩ := t
  unfold m3
  cases ho with
  | true =>
    simp only [Bool.or_eq_true, Bool.not_eq_true', if_true, hasZ_mem, beq_eq_false_iff_ne]
    constructor
    · rintro (h | h) hx
      · exact absurd hx h
      · exact h
    · intro h
      by_cases hx : x = 4
      · exact .inr (h hx)
      · exact .inl hx
  | false =>
    simp only [Bool.or_eq_true, Bool.not_eq_true', beq_eq_false_iff_ne, Bool.and_eq_true, beq_iff_eq, Bool.false_eq_true, if_false, Prod.mk.injEq]
    constructor
    · rintro (h | h) hx
      · exact absurd hx h
      · exact ⟨hx, h⟩
    · intro h
      by_cases hx : x = 4
      · exact .inr (h hx).2
      · exact .inl hx

theorem model_iff {zs ys : List Zt} (hz : ∀ t ∈ zs, 0 ≤ t.1 ∧ t.1 ≤ 255) (hy : ∀ t ∈ ys, 0 ≤ t.1 ∧ t.1 ≤ 255) :
    (zs.all (m1 ys) && (ys.all (m2 zs) && mEnd (hasTy zs 4) (hasTy ys 4) zs ys)) = offB zs ys := by
  rw [Bool.eq_iff_iff, offB_iff hz hy, Bool.and_eq_true, Bool.and_eq_true, List.all_eq_true, List.all_eq_true]
  simp only [m1_iff, m2_iff, mem_expl]
  cases ho : hasTy zs 4 with
  | true =>
    obtain ⟨d, hd, hd4⟩ := (hasTy_iff zs 4).1 ho
    cases hp : hasTy ys 4 with
    | true =>
      obtain ⟨e, he, he4⟩ := (hasTy_iff ys 4).1 hp
      simp only [mEnd, if_true, List.all_eq_true, m3_iff, Bool.true_eq_false, false_and, or_false]
      constructor
      · rintro ⟨h1, h2, h3⟩
        refine ⟨fun t ht => ?_, fun t ht => ?_⟩
        · rcases h1 t ht with h | h
          · exact ⟨e, he, by omega⟩
          · exact h
        · rcases h2 t ht with h | h
          · exact h3 t ht h
          · exact h
      · rintro ⟨h1, h2⟩
        exact ⟨fun t ht => .inr (h1 t ht), fun t ht => .inr (h2 t ht), fun t ht _ => h2 t ht⟩
    | false =>
      have ny := fun t ht => hasTy_not hp (t := t) ht
      simp only [mEnd, if_true, Bool.false_eq_true, if_false, hasZ_mem, Bool.true_eq_false, false_and, or_false, true_and]
      constructor
      · rintro ⟨h1, h2, h3⟩
        refine ⟨fun t ht => ?_, ?_⟩
        · rcases h1 t ht with h | ⟨u, hu, e⟩
          · exact ⟨(4, 0, 0), .inr rfl, h.symm⟩
          · exact ⟨u, .inl hu, e⟩
        · rintro t (ht | rfl)
          · rcases h2 t ht with h | h
            · exact absurd h (ny t ht)
            · exact h
          · exact h3
      · rintro ⟨h1, h2⟩
        refine ⟨fun t ht => ?_, fun t ht => .inr (h2 t (.inl ht)), h2 _ (.inr rfl)⟩
        obtain ⟨u, hu | rfl, e⟩ := h1 t ht
        · exact .inr ⟨u, hu, e⟩
        · exact .inl e.symm
  | false =>
    have nz := fun t ht => hasTy_not ho (t := t) ht
    cases hp : hasTy ys 4 with
    | true =>
      obtain ⟨e, he, he4⟩ := (hasTy_iff ys 4).1 hp
      simp only [mEnd, if_true, List.all_eq_true, m3_iff, Bool.true_eq_false, false_and, or_false, true_and, Bool.false_eq_true, if_false]
      constructor
      · rintro ⟨h1, h2, h3⟩
        refine ⟨?_, fun t ht => ?_⟩
        · rintro t (ht | rfl)
          · rcases h1 t ht with h | h
            · exact absurd h (nz t ht)
            · exact h
          · exact ⟨e, he, he4⟩
        · rcases h2 t ht with h | h
          · exact .inr (h3 t ht h)
          · exact .inl h
      · rintro ⟨h1, h2⟩
        refine ⟨fun t ht => .inr (h1 t (.inl ht)), fun t ht => ?_, fun t ht h4 => ?_⟩
        · rcases h2 t ht with h | h
          · exact .inr h
          · exact .inl (by rw [h])
        · rcases h2 t ht with h | h
          · exact absurd h4 (nz t h)
          · exact h
    | false =>
      have ny := fun t ht => hasTy_not hp (t := t) ht
      simp only [mEnd, Bool.false_eq_true, if_false, true_and, and_true]
      constructor
      · rintro ⟨h1, h2⟩
        refine ⟨?_, ?_⟩
        · rintro t (ht | rfl)
          · rcases h1 t ht with h | ⟨u, hu, e⟩
            · exact absurd h (nz t ht)
            · exact ⟨u, .inl hu, e⟩
          · exact ⟨(4, 0, 0), .inr rfl, rfl⟩
        · rintro t (ht | rfl)
          · rcases h2 t ht with h | h
            · exact absurd h (ny t ht)
            · exact .inl h
          · exact .inr rfl
      · rintro ⟨h1, h2⟩
        refine ⟨fun t ht => ?_, fun t ht => ?_⟩
        · obtain ⟨u, hu | rfl, e⟩ := h1 t (.inl ht)
          · exact .inr ⟨u, hu, e⟩
          · exact .inl e.symm
        · rcases h2 t (.inl ht) with h | h
          · exact .inr h
          · exact .inl (by rw [h])

theorem model_offers (p1 p2 : Int) {zs ys : List Zt} (hz : ∀ t ∈ zs, 0 ≤ t.1 ∧ t.1 ≤ 255) (hy : ∀ t ∈ ys, 0 ≤ t.1 ∧ t.1 ≤ 255) : modelB p1 zs p2 ys = offersB p1 zs p2 ys := by
  unfold modelB offersB
  rw [model_iff hz hy]

theorem allF_take {f : Zt → Bool} {zs : List Zt} {k : Nat} (h : k < zs.length) (h0 : (zs.take k).all f = true) (hd : f (zs[k]?.getD (0, 0, 0)) = true) : (zs.take (k + 1)).all f = true := by
  rw [List.take_add_one, List.getElem?_eq_getElem h, List.all_append, h0]
  rw [List.getElem?_eq_getElem h] at hd
  simpa using hd
theorem allF_bad {f : Zt → Bool} {zs : List Zt} {k : Nat} (h : k < zs.length) (hd : f (zs[k]?.getD (0, 0, 0)) = false) : zs.all f = false := by
  rw [List.all_eq_false]
  rw [List.getElem?_eq_getElem h] at hd
  exact ⟨zs[k], List.getElem_mem h, by rw [show f zs[k] = false from hd]; simp⟩
end Go.Proofs.Qxb6600185a
