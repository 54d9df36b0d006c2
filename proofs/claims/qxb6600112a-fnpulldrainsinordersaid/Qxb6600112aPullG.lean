/-
  ModelLines (25).
-/
import Derived.Test.Qxb6600112aPullF
namespace Go.Proofs.Qxb6600112a
open Go.RowKit

theorem RdS.lt {w : World} {a : Option Addr} {n : Nat} {ss : List ByteArray} (h : RdS w a n ss) : ∀ x, a = some x → 0 < n → x.block < w.heap.size := by
  intro x hx hn
  have := World.block_lt_of_cell? w _ (h.cell x hx 0 hn)
  rwa [add_block] at this

theorem RdS.later {w w' : World} {a : Option Addr} {n : Nat} {ss : List ByteArray} (h : RdS w a n ss) (hb : Below w.heap.size w w') : RdS w' a n ss := by
  refine ⟨h.len, h.nil, fun x hx i hi => ?_⟩
  rw [hb.cell (p := x.add i) (by rw [add_block]; exact h.lt x hx (by omega))]
  exact h.cell x hx i hi

/-- One line more. -/
theorem own_snoc {w w1 wr : World} {v v' : Value} {L : List ByteArray} {s : ByteArray} {n : Nat} {o : Obj} (hn : L.length = n) (hb : Below w.heap.size w wr) (ho : wr.ownsRow w.heap.size 9 1 v L.length (strV L))
    (ho' : w1.ownsRow w.heap.size 9 1 v' (n + 1) (strV L ++ [.string s])) (hg : (wr.alloc o).grownBy w1 v.ownBlock) :
    OwnS w1 w.heap.size v' (L ++ [s]) ∧ Below w.heap.size w w1 := by
  have hsz := hb.size
  refine ⟨?_, (hb.alloc hsz o).grown hg (by simp; omega) (fun k hk => (ho.lt k hk).1)⟩
  subst hn
  unfold OwnS
  rw [strV_append, List.length_append]
  exact ho'

theorem drop_rev (s0 : List ByteArray) (j : Nat) (h : j < s0.length) : (s0.drop (j + 1)).reverse ++ [s0[j]?.getD ByteArray.empty] = (s0.drop j).reverse := by
  have e : s0.drop j = s0[j]?.getD ByteArray.empty :: s0.drop (j + 1) := by rw [List.drop_eq_getElem_cons h]; simp [h]
  rw [e, List.reverse_cons]
theorem take_drop_snoc (s1 : List ByteArray) (h k : Nat) (hk : h + k < s1.length) : (s1.drop h).take k ++ [s1[h + k]?.getD ByteArray.empty] = (s1.drop h).take (k + 1) := by
  rw [List.take_add_one, List.getElem?_drop]
  simp [hk]
theorem take_drop_len (s1 : List ByteArray) (h k : Nat) : ((s1.drop h).take k).length ≤ s1.length := by simp; omega

set_option maxHeartbeats 1000000 in
theorem model25 (a0 a1 : Option Addr) (n0 n1 c0 c1 h : Nat) (s0 s1 : List ByteArray) (w : World) (h0 : RdS w a0 n0 s0) (h1 : RdS w a1 n1 s1) (m0 : n0 ≤ 65536) (m1 : n1 ≤ 65536) (hh : h ≤ n1) :
    Calls Try.prog 25 #[.slice a0 n0 c0, .slice a1 n1 c1, .int .i64 h] w fun e w' => ∃ v, e = .returned v ∧ OwnS w' w.heap.size v (lines s0 s1 h) ∧ Below w.heap.size w w' := by
  obtain ⟨i0, hi, hz0, hz1, hz2⟩ := info_parts Try.info9
  have H0 : Hid (RdS w a0 n0 s0) := h0
  have H1 : Hid (RdS w a1 n1 s1) := h1
  have e0 : Hid (s0.length = n0) := h0.len
  have e1 : Hid (s1.length = n1) := h1.len
  have l0 := h0.nil
  have l1 := h1.nil
  clear h0 h1
  rcases a0 with _ | x0 <;> rcases a1 with _ | x1
  all_goals
    first | (have z0 : n0 ≤ 0 := Nat.le_of_eq (l0 rfl)) | skip
    first | (have z1 : n1 ≤ 0 := Nat.le_of_eq (l1 rfl)) | skip
    clear l0 l1
    go_enter Try.func25, Try.ntmps25
    go_wp2_with (first | (at_make; refine wpList_make_own _ rfl _ _ 35 rfl w.heap.size 9 i0 (.string ⟨#[]⟩) 1 Try.underlying35 hi hz0 hz1 .i64 .i64 _ (n0 + n1 - h) rfl rfl (by omega) (by rw [hz2]; omega) (by unfold maxLen; omega) (Nat.le_refl _) ?_) | go_in)
    intro w1 ho hg
    have hb : Below w.heap.size w w1 := (Below.refl _ _).grown hg (Nat.le_refl _) (by simp)
    have ho' : OwnS w1 w.heap.size (.slice (some ⟨w.heap.size, 0, none⟩) 0 (n0 + n1 - h)) (s0.drop n0).reverse := by
      rw [List.drop_of_length_le (by rw [e0.out]; exact Nat.le_refl _)]; exact ho
    clear ho hg
    go_wp2
    go_loopw [7, 8] (fun v i wr => ∃ (j : Nat) (z : Int), j ≤ n0 ∧ i = .int .i64 z ∧ z = (j : Int) - 1 ∧ OwnS wr w.heap.size v (s0.drop j).reverse ∧ Below w.heap.size w wr) (fun _ i _ => (intOf i + 1).toNat)
    case atStart => exact ⟨n0, _, Nat.le_refl _, rfl, rfl, ho', hb⟩
    case round =>
      clear ho' hb
      obtain ⟨j, z, hj, rfl, hz, hown, hb⟩ := hrel
      by_cases hneg : z < 0
      · have ez : j = 0 := by omega
        have ho2 : OwnS wr w.heap.size u7 (s0.reverse ++ (s1.drop h).take 0) := by
          rw [ez] at hown; simpa using hown
        clear hz ez hown
        go_wp2
        go_loopw [7, 9] (fun v i wr => ∃ (k : Nat), h + k ≤ n1 ∧ i = .int .i64 (h + k : Nat) ∧ OwnS wr w.heap.size v (s0.reverse ++ (s1.drop h).take k) ∧ Below w.heap.size w wr) (fun _ i _ => n1 - (intOf i).toNat)
        case atStart => exact ⟨0, by omega, rfl, ho2, hb⟩
        case round =>
          clear ho2 hb
          obtain ⟨k, hk, rfl, hown, hb⟩ := hrel
          by_cases hlt : h + k < n1
          · try (exfalso; omega)
            all_goals
              have hc := (H1.out.later hb).cell x1 rfl (h + k) (by omega)
              have hown2 : wr.ownsRow w.heap.size 9 1 u7 (s0.reverse ++ (s1.drop h).take k).length (strV (s0.reverse ++ (s1.drop h).take k)) := hown
              have hlen : (s0.reverse ++ (s1.drop h).take k).length ≤ 131072 := by
                have := take_drop_len s1 h k
                rw [List.length_append, List.length_reverse, e0.out]; rw [e1.out] at this; omega
              generalize hL : s0.reverse ++ (s1.drop h).take k = L at *
              have HL : Hid (s0.reverse ++ (s1.drop h).take k = L) := hL
              clear hL
              go_wp2_with (first | (at_builtin; refine wpList_append_own _ rfl _ _ 35 rfl w.heap.size 9 i0 (.string ⟨#[]⟩) 1 16 Try.underlying35 hi hz0 hz1 hz2 rfl (by decide) _ _ _ rfl (hown2.alloc _) ⟨wr.heap.size, 0, none⟩ 1 1 [.string (s1.getD (h + k) ByteArray.empty)] rfl rfl (cell_one_new _ _ _) (by intro u hu; simp at hu; subst hu; rfl) (by unfold maxLen; omega) (by omega) (by have := hb.size; simp; omega) ?_) | go_in)
              intro v' w2 hown' hgrow _
              obtain ⟨R1, R2⟩ := own_snoc (by simp) hb hown2 hown' hgrow
              rw [← HL.out, List.append_assoc, take_drop_snoc _ _ _ (by rw [e1.out]; omega)] at R1
              clear hown hown2 hown' hgrow hb hc
              go_wp2
              go_roundw
              case rel => exact ⟨k + 1, by omega, by go_num, R1, R2⟩
              case measure => simp [intOf]; omega
          · have hfin : OwnS wr w.heap.size u7 (lines s0 s1 h) := by
              unfold lines
              rw [List.take_of_length_le (by rw [List.length_drop, e1.out]; omega)] at hown
              exact hown
            clear hown
            go_wp2
            go_ret
            exact ⟨_, rfl, hfin, hb⟩
      · obtain ⟨j', hj'⟩ : ∃ j' : Nat, z = j' := ⟨z.toNat, by omega⟩
        have ej : j = j' + 1 := by omega
        clear hz hneg
        subst hj' ej
        try (exfalso; omega)
        all_goals
          have hc := (H0.out.later hb).cell x0 rfl j' (by omega)
          have hown2 : wr.ownsRow w.heap.size 9 1 u7 (s0.drop (j' + 1)).reverse.length (strV (s0.drop (j' + 1)).reverse) := hown
          have hlen : (s0.drop (j' + 1)).reverse.length ≤ 65536 := by rw [List.length_reverse, List.length_drop, e0.out]; omega
          go_wp2_with (first | (at_builtin; refine wpList_append_own _ rfl _ _ 35 rfl w.heap.size 9 i0 (.string ⟨#[]⟩) 1 16 Try.underlying35 hi hz0 hz1 hz2 rfl (by decide) _ _ _ rfl (hown2.alloc _) ⟨wr.heap.size, 0, none⟩ 1 1 [.string (s0.getD j' ByteArray.empty)] rfl rfl (cell_one_new _ _ _) (by intro u hu; simp at hu; subst hu; rfl) (by unfold maxLen; omega) (by omega) (by have := hb.size; simp; omega) ?_) | go_in)
          intro v' w2 hown' hgrow _
          obtain ⟨R1, R2⟩ := own_snoc (by simp) hb hown2 hown' hgrow
          rw [drop_rev _ _ (by rw [e0.out]; omega)] at R1
          clear hown hown2 hown' hgrow hb hc
          go_wp2
          go_roundw
          case rel => exact ⟨j', _, by omega, rfl, rfl, R1, R2⟩
          case measure => simp [intOf]
end Go.Proofs.Qxb6600112a
