/-
  offers (33) at any protocols, ZZOffers (13).
-/
import Derived.Test.Qxb6600185aOffE
namespace Go.Proofs.Qxb6600185a
open Go.RowKit

/-- A proposal's value: number, protocol, SPI, transforms. -/
def propV (num proto : Int) (a2 : Option Addr) (n2 c2 : Nat) (a : Option Addr) (n c : Nat) : Value := .agg #[.int .u8 num, .int .u8 proto, .slice a2 n2 c2, .slice a n c]

/-- What is known of a proposal's transforms. -/
structure PropT (w : World) (a : Option Addr) (n c : Nat) (zs : List Zt) : Prop where
  rd : RdT w a n zs
  nil : a = none → n = 0
  le : n ≤ 65536
  cap : n ≤ c
  cmax : c ≤ 9223372036854775807
  ty : ∀ t ∈ zs, 0 ≤ t.1 ∧ t.1 ≤ 255
theorem PropT.later {w w' : World} {a : Option Addr} {n c : Nat} {zs : List Zt} (h : PropT w a n c zs) (hb : Below w.heap.size w w') : PropT w' a n c zs := ⟨h.rd.later hb, h.nil, h.le, h.cap, h.cmax, h.ty⟩

theorem expl_ty {zs : List Zt} (h : ∀ t ∈ zs, 0 ≤ t.1 ∧ t.1 ≤ 255) (k : Nat) : 0 ≤ ((expl zs)[k]?.getD (0, 0, 0)).1 ∧ ((expl zs)[k]?.getD (0, 0, 0)).1 ≤ 255 := by
  have hm : ∀ t ∈ expl zs, 0 ≤ t.1 ∧ t.1 ≤ 255 := by
    intro t ht
    unfold expl at ht
    split at ht
    · exact h t ht
    · rcases List.mem_append.1 ht with h1 | h1
      · exact h t h1
      · simp at h1; subst h1; simp
  by_cases hk : k < (expl zs).length
  · rw [List.getElem?_eq_getElem hk]; exact hm _ (List.getElem_mem hk)
  · rw [List.getElem?_eq_none (by omega)]; simp

/-- offers, whole. -/
def offersB (p1 : Int) (zs : List Zt) (p2 : Int) (ys : List Zt) : Bool := decide (p1 = p2) && offB zs ys

set_option maxHeartbeats 1000000 in
theorem offersAny (x0 x1 y0 y1 : Int) (a2 b2 : Option Addr) (n2 c2 m2 d2 : Nat) (a b : Option Addr) (n c m d : Nat) (zs ys : List Zt) (w : World) (h : PropT w a n c zs) (h' : PropT w b m d ys) :
    Calls Try.prog 33 #[propV x0 x1 a2 n2 c2 a n c, propV y0 y1 b2 m2 d2 b m d] w fun e w' => e = .returned (.bool (offersB x1 zs y1 ys)) ∧ Below w.heap.size w w' := by
  by_cases hp : x1 = y1
  · subst hp
    refine (offers33 x0 x1 y0 a2 b2 n2 c2 m2 d2 a b n c m d zs ys w h.rd h.nil h.le h.cap h.cmax h'.rd h'.nil h'.le h'.cap h'.cmax (expl_ty h.ty) (expl_ty h'.ty)).mono ?_
    rintro e w' ⟨rfl, hb⟩
    exact ⟨ret_b (by simp [offersB]), hb⟩
  · have HO : Hid (offersB x1 zs y1 ys = false) := by show offersB x1 zs y1 ys = false; simp [offersB, hp]
    have hq : (x1 != y1) = true := bne_iff_ne.2 hp
    clear h h' hp
    unfold propV
    go_enter Try.func33, Try.ntmps33
    go_wp2
    go_ret
    exact ⟨ret_b HO.out.symm, ((Below.refl _ _).alloc (Nat.le_refl _) _).alloc (by simp) _⟩

set_option maxHeartbeats 1000000 in
theorem zzoffers13 (x0 x1 y0 y1 : Int) (a2 b2 : Option Addr) (n2 c2 m2 d2 : Nat) (a b : Option Addr) (n c m d : Nat) (zs ys : List Zt) (w : World) (h : PropT w a n c zs) (h' : PropT w b m d ys) :
    Calls Try.prog 13 #[propV x0 x1 a2 n2 c2 a n c, propV y0 y1 b2 m2 d2 b m d] w fun e w' => e = .returned (.bool (offersB x1 zs y1 ys)) ∧ Below w.heap.size w w' := by
  have H : Hid (PropT w a n c zs) := h
  have H' : Hid (PropT w b m d ys) := h'
  clear h h'
  unfold propV
  go_enter Try.func13, Try.ntmps13
  go_wp2_with fail
  have bel := fun o1 o2 => ((Below.refl w.heap.size w).alloc (Nat.le_refl _) o1).alloc (by simp) o2
  refine (offersAny x0 x1 y0 y1 a2 b2 n2 c2 m2 d2 a b n c m d zs ys _ (H.out.later (bel _ _)) (H'.out.later (bel _ _))).mono ?_
  rintro e w1 ⟨rfl, hb⟩
  have bel1 : Below w.heap.size w w1 := (bel _ _).trans (hb.mono (by simp; omega))
  clear hb bel H H'
  go_wp2
  go_ret
  exact ⟨rfl, bel1⟩
end Go.Proofs.Qxb6600185a
