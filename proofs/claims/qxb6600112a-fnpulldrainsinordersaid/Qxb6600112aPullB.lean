/-
  LinesWithin (function 23) returns some bool; CloneStrings (24) makes a copy; emptied (33).
-/
import Derived.Test.Qxb6600112aPullA
import Derived.Lib.SliceRun
namespace Go.Proofs.Qxb6600112a
open Go.RowKit

set_option maxHeartbeats 1000000 in
theorem lines23 (a0 a1 : Option Addr) (n0 n1 c0 c1 : Nat) (s0 s1 : List ByteArray) (hd : Int) (w : World) (h0 : RdS w a0 n0 s0) (h1 : RdS w a1 n1 s1) (m0 : n0 ≤ 9223372036854775807) (m1 : n1 ≤ 9223372036854775807) :
    Calls Try.prog 23 #[.slice a0 n0 c0, .slice a1 n1 c1, .int .i64 hd] w fun e w' => AnyBool e ∧ w' = w := by
  have k0 := h0.cell
  have k1 := h1.cell
  have l0 := h0.nil
  have l1 := h1.nil
  clear h0 h1
  rcases a0 with _ | x0 <;> rcases a1 with _ | x1
  all_goals
    first | (have z0 : n0 ≤ 0 := Nat.le_of_eq (l0 rfl)) | (have k0 := k0 x0 rfl)
    first | (have z1 : n1 ≤ 0 := Nat.le_of_eq (l1 rfl)) | (have k1 := k1 x1 rfl)
    clear l0 l1
    go_enter Try.func23, Try.ntmps23
    go_wp2
    go_loop [7, 8] (fun t i => ∃ k : Nat, k ≤ n0 ∧ i = .int .i64 k ∧ ∃ z : Int, t = .int .i64 z) (fun _ i => n0 - (intOf i).toNat)
    case atStart => exact ⟨0, Nat.zero_le _, rfl, _, rfl⟩
    case round =>
      obtain ⟨k, hk, rfl, z, rfl⟩ := hrel
      by_cases hlt : k < n0
      · try (exfalso; omega)
        all_goals
          have kk := k0 k hlt
          clear k0 k1
          go_wp2
          all_goals first
            | (go_ret; exact ⟨anyBool _, rfl⟩)
            | (go_round
               case rel => exact ⟨k + 1, by omega, by go_num, _, rfl⟩
               case measure => simp [intOf]; omega)
      · clear k0
        go_wp2
        go_loop [7, 9] (fun t i => ∃ k : Nat, k ≤ n1 ∧ i = .int .i64 k ∧ ∃ z : Int, t = .int .i64 z) (fun _ i => n1 - (intOf i).toNat)
        case atStart => exact ⟨0, Nat.zero_le _, rfl, _, rfl⟩
        case round =>
          obtain ⟨k, hk, rfl, z, rfl⟩ := hrel
          by_cases hlt : k < n1
          · try (exfalso; omega)
            all_goals
              have kk := k1 k hlt
              clear k1
              go_wp2
              all_goals first
                | (go_ret; exact ⟨anyBool _, rfl⟩)
                | (go_round
                   case rel => exact ⟨k + 1, by omega, by go_num, _, rfl⟩
                   case measure => simp [intOf]; omega)
          · go_wp2
            go_ret; exact ⟨anyBool _, rfl⟩



/-! ### The clone -/
theorem Try.info9 : (Try.prog.info? 9).map (fun i => (i.zero, i.size, i.bytes)) = some (some (.string ⟨#[]⟩), 1, 16) := by kernel_rfl

/-- A row of n zeros, of which the first k cells have been filled from xs. -/
def fillL (z : Value) (xs : List Value) (k : Nat) : List Value := xs.take k ++ List.replicate (xs.length - k) z
theorem fillL_len (z : Value) (xs : List Value) (k : Nat) (h : k ≤ xs.length) : (fillL z xs k).length = xs.length := by simp [fillL]; omega
theorem fillL_zero (z : Value) (xs : List Value) : fillL z xs 0 = List.replicate xs.length z := by simp [fillL]
theorem fillL_all (z : Value) (xs : List Value) : fillL z xs xs.length = xs := by simp [fillL]
theorem fillL_step (z : Value) (xs : List Value) (k : Nat) (h : k < xs.length) (u : Value) (hu : xs[k]? = some u) : (fillL z xs k).set k u = fillL z xs (k + 1) := by
  unfold fillL
  have e : xs.length - k = (xs.length - (k + 1)) + 1 := by omega
  have hl : (xs.take k).length = k := by simp; omega
  rw [List.set_append_right _ _ (by omega), hl, Nat.sub_self, e, List.replicate_succ, List.set_cons_zero, List.take_add_one, hu]
  simp
theorem fillL_at (z : Value) (xs : List Value) (k : Nat) (h : k < xs.length) : (fillL z xs k)[k]? = some z := by
  unfold fillL
  rw [List.getElem?_append_right (by simp; omega)]
  simp [List.getElem?_replicate]; omega

def strV (ss : List ByteArray) : List Value := ss.map Value.string
theorem strV_len (ss : List ByteArray) : (strV ss).length = ss.length := by simp [strV]
theorem strV_at (ss : List ByteArray) (k : Nat) (h : k < ss.length) : (strV ss)[k]? = some (.string (ss.getD k ByteArray.empty)) := by simp [strV, h]

theorem add_block (x : Addr) (k : Nat) : (x.add k).block = x.block := by unfold Addr.add; split <;> rfl

theorem clone_step {w wr : World} {n k : Nat} {ss : List ByteArray} (hn : ss.length = n) (hk : k < n)
    (ho : wr.ownsRow w.heap.size 9 1 (.slice (some ⟨w.heap.size, 0, none⟩) n n) n (fillL (.string ⟨#[]⟩) (strV ss) k)) (hb : Below w.heap.size w wr) :
    wr.cell? ⟨w.heap.size, k, none⟩ = some (.string ⟨#[]⟩) ∧ wr.frozen? ⟨w.heap.size, k, none⟩ = false ∧
    (wr.setCell ⟨w.heap.size, k, none⟩ (.string (ss.getD k ByteArray.empty))).ownsRow w.heap.size 9 1 (.slice (some ⟨w.heap.size, 0, none⟩) n n) n (fillL (.string ⟨#[]⟩) (strV ss) (k + 1)) ∧
    Below w.heap.size w (wr.setCell ⟨w.heap.size, k, none⟩ (.string (ss.getD k ByteArray.empty))) := by
  have hl := strV_len ss
  refine ⟨?_, ho.frozenAt k, ?_, hb.setCell (Nat.le_refl _) _⟩
  · rw [ho.cellAt k (by omega), fillL_at _ _ _ (by omega)]
  · have := (ho.stored k (.string (ss.getD k ByteArray.empty))).1
    rwa [fillL_step _ _ _ (by omega) _ (strV_at _ _ (by omega))] at this

set_option maxHeartbeats 1000000 in
theorem clone24 (a : Option Addr) (n c : Nat) (ss : List ByteArray) (w : World) (h : RdS w a n ss) (m : n ≤ 65536) (hold : ∀ x, a = some x → 0 < n → x.block < w.heap.size) :
    Calls Try.prog 24 #[.slice a n c] w fun e w' => ∃ v, e = .returned v ∧ w'.ownsRow w.heap.size 9 1 v n (strV ss) ∧ (v = .slice none 0 0 ∨ v = .slice (some ⟨w.heap.size, 0, none⟩) n n) ∧ Below w.heap.size w w' := by
  have hq := fun w a n c => Lib.run_eql_slice_nil (P := Try.prog) w 35 9 a n c 0 0 Try.underlying35
  rcases a with _ | x
  · have z := h.nil rfl
    subst n
    have : ss = [] := List.eq_nil_of_length_eq_zero h.len
    subst ss
    go_enter Try.func24, Try.ntmps24
    go_wp2
    go_ret
    exact ⟨_, rfl, World.ownsRow_nil _ _ _ _, .inl rfl, Below.refl _ _⟩
  · have hl := h.len
    have hc := h.cell x rfl
    have hx := hold x rfl
    clear h hold
    obtain ⟨i0, hi, hz0, hz1, hz2⟩ := info_parts Try.info9
    go_enter Try.func24, Try.ntmps24
    go_wp2_with (first | (at_make; refine wpList_make_full _ rfl _ _ 35 rfl w.heap.size 9 i0 (.string ⟨#[]⟩) 1 Try.underlying35 hi hz0 hz1 .i64 .i64 _ _ n rfl rfl rfl rfl ?b2 ?b3 (Nat.le_refl _) ?_) | go_in)
    case b2 => rw [hz2]; omega
    case b3 => unfold maxLen; omega
    intro w1 ho hg
    have hb : Below w.heap.size w w1 := (Below.refl _ _).grown hg (Nat.le_refl _) (by simp)
    have ho0 : w1.ownsRow w.heap.size 9 1 (.slice (some ⟨w.heap.size, 0, none⟩) n n) n (fillL (.string ⟨#[]⟩) (strV ss) 0) := by
      rw [fillL_zero, strV_len, hl]
      rwa [toList_madeCells_one] at ho
    clear ho hg
    have H : Hid (ss.length = n) := hl
    clear hl
    go_wp2
    go_loopw [4] (fun i wr => ∃ k : Nat, k ≤ n ∧ i = .int .i64 k ∧ wr.ownsRow w.heap.size 9 1 (.slice (some ⟨w.heap.size, 0, none⟩) n n) n (fillL (.string ⟨#[]⟩) (strV ss) k) ∧ Below w.heap.size w wr) (fun i _ => n - (intOf i).toNat)
    case atStart => exact ⟨0, Nat.zero_le _, rfl, ho0, hb⟩
    case round =>
      clear ho0 hb
      obtain ⟨k, hk, rfl, ho, hb⟩ := hrel
      by_cases hlt : k < n
      · obtain ⟨q1, q2, q3, q4⟩ := clone_step H.out hlt ho hb
        have q5 : wr.cell? (x.add k) = some (.string (ss.getD k ByteArray.empty)) := (hb.cell (p := x.add k) (by rw [add_block]; exact hx (by omega))).trans (hc k hlt)
        clear ho hb hc hx
        go_wp2
        go_roundw
        case rel => exact ⟨k + 1, by omega, by go_num, q3, q4⟩
        case measure => simp [intOf]; omega
      · have e : k = n := by omega
        have H2 : Hid (k = n) := e
        clear e
        go_wp2
        go_ret
        have e2 : k = (strV ss).length := by rw [strV_len, H.out]; exact H2.out
        refine ⟨_, rfl, ?_, .inr rfl, hb⟩
        rw [e2, fillL_all] at ho
        exact ho


/-! ### emptied: the slice itself, or nil for an empty one with a great capacity -/
def Emp (a : Option Addr) (n c : Nat) (a' : Option Addr) (c' : Nat) : Prop := (a' = a ∧ c' = c) ∨ (a' = none ∧ c' = 0 ∧ n = 0)
theorem emp_self (a : Option Addr) (n c : Nat) : Emp a n c a c := .inl ⟨rfl, rfl⟩
theorem emp_nil (a : Option Addr) (c : Nat) : Emp a 0 c none 0 := .inr ⟨rfl, rfl, rfl⟩

set_option maxHeartbeats 1000000 in
theorem emptied33 (a : Option Addr) (n c : Nat) (w : World) (m : n ≤ 9223372036854775807) :
    Calls Try.prog 33 #[.slice a n c] w fun e w' => ∃ a' c', e = .returned (.slice a' n c') ∧ Emp a n c a' c' ∧ w' = w := by
  by_cases hz : n = 0
  · subst n
    by_cases hc : 1024 < c
    · go_enter Try.func33, Try.ntmps33
      go_wp2
      go_ret
      exact ⟨_, _, rfl, emp_nil _ _, rfl⟩
    · go_enter Try.func33, Try.ntmps33
      go_wp2
      go_ret
      exact ⟨_, _, rfl, emp_self _ _ _, rfl⟩
  · have hn : 0 < n := by omega
    clear hz
    go_enter Try.func33, Try.ntmps33
    go_wp2
    go_ret
    exact ⟨_, _, rfl, emp_self _ _ _, rfl⟩

end Go.Proofs.Qxb6600112a
