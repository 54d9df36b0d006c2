/-
  PLAIN FACTS on offers; zzCloneBytes (17), zzBytes (16, 11).
-/
import Derived.Test.Qxb6600185aOffF
namespace Go.Proofs.Qxb6600185a
open Go.RowKit

theorem tset_at (zs : List Zt) (j : Nat) (hj : j < 256) : (tset zs)[j]?.getD false = zs.any fun t => t.1.toNat == j := by
  unfold tset
  have key : ∀ (l : List Zt) (b : List Bool), b.length = 256 → (l.foldl (fun b t => b.set t.1.toNat true) b)[j]?.getD false = (b[j]?.getD false || l.any fun t => t.1.toNat == j) := by
    intro l
    induction l with
    | nil => intro b _; simp
    | cons t l ih =>
      intro b hb
      rw [List.foldl_cons, ih _ (by simpa using hb), List.any_cons, List.getElem?_set]
      by_cases h : t.1.toNat = j
      · rw [if_pos h, if_pos (by omega), h]; simp
      · rw [if_neg h]
        have : (t.1.toNat == j) = false := beq_eq_false_iff_ne.2 h
        rw [this, Bool.false_or]
  rw [key zs allF List.length_replicate]
  have e : allF[j]?.getD false = false := by
    unfold allF
    rw [List.getElem?_replicate, if_pos hj]; rfl
  rw [e, Bool.false_or]
theorem tset_ext {A B : List Zt} (h : ∀ j, j < 256 → (A.any fun t => t.1.toNat == j) = (B.any fun t => t.1.toNat == j)) : tset A = tset B := by
  have la := tset_len A
  have lb := tset_len B
  apply List.ext_getElem (by omega)
  intro j h1 h2
  have e1 := tset_at A j (by omega)
  have e2 := tset_at B j (by omega)
  rw [List.getElem?_eq_getElem h1] at e1
  rw [List.getElem?_eq_getElem h2] at e2
  have := h j (by omega)
  rw [← e1, ← e2] at this
  exact this
theorem any_congr_mem {A B : List Zt} (h : ∀ t, t ∈ A ↔ t ∈ B) (p : Zt → Bool) : A.any p = B.any p := by
  rw [Bool.eq_iff_iff, List.any_eq_true, List.any_eq_true]
  constructor
  · rintro ⟨t, ht, hp⟩; exact ⟨t, (h t).1 ht, hp⟩
  · rintro ⟨t, ht, hp⟩; exact ⟨t, (h t).2 ht, hp⟩
theorem hasZ_mem (zs : List Zt) (t : Zt) : hasZ zs t = true ↔ t ∈ zs := by
  unfold hasZ
  rw [List.any_eq_true]
  constructor
  · rintro ⟨u, hu, he⟩; rw [← of_decide_eq_true he]; exact hu
  · intro h; exact ⟨t, h, by simp⟩
theorem offB_same {zs ys : List Zt} (h : ∀ t, t ∈ expl zs ↔ t ∈ expl ys) : offB zs ys = true := by
  unfold offB
  have e : tset (expl ys) = tset (expl zs) := tset_ext fun j _ => any_congr_mem (fun t => (h t).symm) _
  rw [decide_eq_true e, Bool.true_and, List.all_eq_true]
  intro t ht
  exact (hasZ_mem _ _).2 ((h t).2 ht)
theorem offersB_same (p : Int) {zs ys : List Zt} (h : ∀ t, t ∈ expl zs ↔ t ∈ expl ys) : offersB p zs p ys = true := by
  unfold offersB
  rw [offB_same h]; simp

/-- D-H NONE put in at place k. -/
def withN (zs : List Zt) (k : Nat) : List Zt := zs.take k ++ ((4, 0, 0) :: zs.drop k)
theorem withN_len (zs : List Zt) (k : Nat) : (withN zs k).length = zs.length + 1 := by simp [withN]; omega
theorem withN_mem (zs : List Zt) (k : Nat) (t : Zt) : t ∈ withN zs k ↔ t ∈ zs ++ [(4, 0, 0)] := by
  have e : t ∈ zs ↔ t ∈ zs.take k ∨ t ∈ zs.drop k := by rw [← List.mem_append, List.take_append_drop]
  simp only [withN, List.mem_append, List.mem_cons, List.mem_nil_iff, or_false, e]
  constructor
  · rintro (h | h | h)
    · exact .inl (.inl h)
    · exact .inr h
    · exact .inl (.inr h)
  · rintro ((h | h) | h)
    · exact .inl h
    · exact .inr (.inr h)
    · exact .inr (.inl h)
theorem withN_dh (zs : List Zt) (k : Nat) : hasTy (withN zs k) 4 = true := by
  unfold hasTy
  rw [List.any_eq_true]
  exact ⟨(4, 0, 0), (withN_mem zs k _).2 (by simp), rfl⟩
theorem expl_mem {zs : List Zt} (k : Nat) (h : hasTy zs 4 = false) (t : Zt) : t ∈ expl zs ↔ t ∈ expl (withN zs k) := by
  rw [expl_no h, expl_yes (withN_dh zs k)]
  exact (withN_mem zs k t).symm

/-- What is known of a slice of bytes that is read. -/
structure RdB (w : World) (a : Option Addr) (n : Nat) : Prop where
  nil : a = none → n = 0
  cell : ∀ x, a = some x → ∀ i, i < n → ∃ z, w.cell? (x.add i) = some (.int .u8 z)

theorem addr_block (x : Addr) (k : Nat) : (x.add k).block = x.block := by unfold Addr.add; split <;> rfl

/-- Some bool. -/
def SomeBl (e : Ending) : Prop := ∃ b, e = .returned (.bool b)
theorem someBl (b : Bool) : SomeBl (.returned (.bool b)) := ⟨b, rfl⟩

set_option maxHeartbeats 400000 in
theorem zzb16 (p q : Int) (a0 a1 : Option Addr) (n0 n1 c0 c1 : Nat) (r : Int) (w : World) (m0 : n0 ≤ 9223372036854775807) (m1 : n1 ≤ 9223372036854775807) :
    Calls Try.prog 16 #[.int .u8 p, .int .u8 q, .slice a0 n0 c0, .slice a1 n1 c1, .int .u16 r] w fun e w' => SomeBl e ∧ w' = w := by
  go_enter Try.func16, Try.ntmps16
  go_wp2
  all_goals (go_ret; exact ⟨someBl _, rfl⟩)
set_option maxHeartbeats 400000 in
theorem zzb11 (p q : Int) (a0 a1 : Option Addr) (n0 n1 c0 c1 : Nat) (w : World) (m0 : n0 ≤ 9223372036854775807) (m1 : n1 ≤ 9223372036854775807) :
    Calls Try.prog 11 #[.int .u8 p, .slice a0 n0 c0, .int .u8 q, .slice a1 n1 c1] w fun e w' => SomeBl e ∧ w' = w := by
  go_enter Try.func11, Try.ntmps11
  go_wp2
  all_goals (go_ret; exact ⟨someBl _, rfl⟩)

theorem Try.info5' : (Try.prog.info? 5).map (fun i => (i.zero, i.size, i.bytes)) = some (some (.int .u8 0), 1, 1) := by kernel_rfl

set_option maxHeartbeats 1000000 in
theorem clone17 (a : Option Addr) (n c : Nat) (w : World) (h : RdB w a n) (m : n ≤ 65536) :
    Calls Try.prog 17 #[.slice a n c] w fun e w' => ∃ a' c', e = .returned (.slice a' n c') ∧ Below w.heap.size w w' := by
  have hq := fun w a n c => Lib.run_eql_slice_nil (P := Try.prog) w 27 5 a n c 0 0 Try.underlying27
  rcases a with _ | x
  · have z := h.nil rfl
    subst z
    go_enter Try.func17, Try.ntmps17
    go_wp2
    go_ret
    exact ⟨none, 0, rfl, Below.refl _ _⟩
  · obtain ⟨i0, hi, hz0, hz1, hz2⟩ := info_parts Try.info5'
    have H : Hid (RdB w (some x) n) := h
    clear h
    go_enter Try.func17, Try.ntmps17
    go_wp2_with (first | (at_make; refine wpList_make_full _ rfl _ _ 27 rfl w.heap.size 5 i0 (.int .u8 0) 1 Try.underlying27 hi hz0 hz1 .i64 .i64 _ _ n rfl rfl rfl rfl ?b2 ?b3 (Nat.le_refl _) ?_) | go_in)
    case b2 => rw [hz2]; omega
    case b3 => unfold maxLen; omega
    intro w1 ho hg
    have hb : Below w.heap.size w w1 := (Below.refl _ _).grown hg (Nat.le_refl _) (by simp)
    have ho0 : ∃ L, w1.ownsRow w.heap.size 5 1 (.slice (some ⟨w.heap.size, 0, none⟩) n n) n L := ⟨_, ho⟩
    clear ho hg
    go_wp2
    go_loopw [4] (fun i wr => ∃ (k : Nat) (L : List Value), k ≤ n ∧ i = .int .i64 k ∧ wr.ownsRow w.heap.size 5 1 (.slice (some ⟨w.heap.size, 0, none⟩) n n) n L ∧ Below w.heap.size w wr) (fun i _ => n - (intOf i).toNat)
    case atStart => obtain ⟨L, hL⟩ := ho0; exact ⟨0, L, Nat.zero_le _, rfl, hL, hb⟩
    case round =>
      clear ho0 hb
      obtain ⟨k, L, hk, rfl, ho, hb⟩ := hrel
      by_cases hlt : k < n
      · obtain ⟨z, hz⟩ := H.out.cell x rfl k hlt
        have hxb : x.block < w.heap.size := by have := World.block_lt_of_cell? w _ hz; rwa [addr_block] at this
        have q5 : wr.cell? (x.add k) = some (.int .u8 z) := (hb.cell (p := x.add k) (by rw [addr_block]; exact hxb)).trans hz
        have hl : L.length = n := by have := ho.1; omega
        have q1 : wr.cell? ⟨w.heap.size, k, none⟩ = some (L[k]'(by omega)) := by rw [ho.cellAt k (by omega), List.getElem?_eq_getElem (by omega)]
        have q2 : wr.frozen? ⟨w.heap.size, k, none⟩ = false := ho.frozenAt k
        have q3 := (ho.stored k (.int .u8 z)).1
        have q4 := hb.setCell (p := ⟨w.heap.size, k, none⟩) (Nat.le_refl _) (.int .u8 z)
        generalize L[k]'(by omega) = old at q1
        clear ho hb hz hl
        go_wp2
        go_roundw
        case rel => exact ⟨k + 1, _, by omega, by go_num, q3, q4⟩
        case measure => simp [intOf]; omega
      · go_wp2
        go_ret
        exact ⟨_, _, rfl, hb⟩
end Go.Proofs.Qxb6600185a
