/-
  The first walks of the pull laws: the two tests on lengths (functions 22, 27, 23): each returns some bool and writes nothing.
-/
import Derived.Test.Qxb6600112aRows
import Derived.WalkKit
import Derived.WalkSpells
import Derived.WalkLawsBesides
namespace Go.Proofs.Qxb6600112a
open Go.RowKit

/-- What is known of a slice of strings that is read: nil means empty; the cells hold the strings. -/
structure RdS (w : World) (a : Option Addr) (n : Nat) (ss : List ByteArray) : Prop where
  len : ss.length = n
  nil : a = none → n = 0
  cell : ∀ x, a = some x → ∀ i, i < n → w.cell? (x.add i) = some (.string (ss.getD i ByteArray.empty))

/-- The call ended with some bool. -/
def AnyBool (e : Ending) : Prop := ∃ b, e = .returned (.bool b)
theorem anyBool (b : Bool) : AnyBool (.returned (.bool b)) := ⟨b, rfl⟩

set_option maxHeartbeats 1000000 in
theorem zzb22 (a0 a1 : Option Addr) (n0 n1 c0 c1 : Nat) (s0 s1 : List ByteArray) (hd : Int) (w : World) (h0 : RdS w a0 n0 s0) (h1 : RdS w a1 n1 s1) (m0 : n0 ≤ 9223372036854775807) (m1 : n1 ≤ 9223372036854775807) :
    Calls Try.prog 22 #[.slice a0 n0 c0, .slice a1 n1 c1, .int .i64 hd] w fun e w' => AnyBool e ∧ w' = w := by
  have k0 := h0.cell
  have k1 := h1.cell
  have l0 := h0.nil
  have l1 := h1.nil
  clear h0 h1
  rcases a0 with _ | x0 <;> rcases a1 with _ | x1
  all_goals
    first | (have z0 : n0 ≤ 0 := Nat.le_of_eq (l0 rfl)) | (have k0 := k0 x0 rfl)
    first | (have z1 : n1 ≤ 0 := Nat.le_of_eq (l1 rfl)) | (have k1 := k1 x1 rfl)
    clear l0 l1
    go_enter Try.func22, Try.ntmps22
    go_wp2
    all_goals first
      | (go_ret; exact ⟨anyBool _, rfl⟩)
      | skip
    go_loop [7, 8] (fun t i => ∃ k : Nat, k ≤ n0 ∧ i = .int .i64 k ∧ ∃ z : Int, t = .int .i64 z) (fun _ i => n0 - (intOf i).toNat)
    case atStart => exact ⟨0, Nat.zero_le _, rfl, _, rfl⟩
    case round =>
      obtain ⟨k, hk, rfl, z, rfl⟩ := hrel
      by_cases hlt : k < n0
      · try (exfalso; omega)
        all_goals
          have kk := k0 k hlt
          clear k0 k1
          go_wp2
          all_goals first
            | (go_ret; exact ⟨anyBool _, rfl⟩)
            | (go_round
               case rel => exact ⟨k + 1, by omega, by go_num, _, rfl⟩
               case measure => simp [intOf]; omega)
      · clear k0
        go_wp2
        all_goals first
          | (go_ret; exact ⟨anyBool _, rfl⟩)
          | skip
        go_loop [7, 9] (fun t i => ∃ k : Nat, k ≤ n1 ∧ i = .int .i64 k ∧ ∃ z : Int, t = .int .i64 z) (fun _ i => n1 - (intOf i).toNat)
        case atStart => exact ⟨0, Nat.zero_le _, rfl, _, rfl⟩
        case round =>
          obtain ⟨k, hk, rfl, z, rfl⟩ := hrel
          by_cases hlt : k < n1
          · try (exfalso; omega)
            all_goals
              have kk := k1 k hlt
              clear k1
              go_wp2
              all_goals first
                | (go_ret; exact ⟨anyBool _, rfl⟩)
                | (go_round
                   case rel => exact ⟨k + 1, by omega, by go_num, _, rfl⟩
                   case measure => simp [intOf]; omega)
          · go_wp2
            go_ret; exact ⟨anyBool _, rfl⟩

set_option maxHeartbeats 1000000 in
theorem zzb27 (a0 a1 : Option Addr) (n0 n1 c0 c1 : Nat) (s0 s1 : List ByteArray) (hd : Int) (w : World) (h0 : RdS w a0 n0 s0) (h1 : RdS w a1 n1 s1) (m0 : n0 ≤ 9223372036854775807) (m1 : n1 ≤ 9223372036854775807) :
    Calls Try.prog 27 #[.slice a0 n0 c0, .slice a1 n1 c1, .int .i64 hd] w fun e w' => AnyBool e ∧ w' = w := by
  have k0 := h0.cell
  have k1 := h1.cell
  have l0 := h0.nil
  have l1 := h1.nil
  clear h0 h1
  rcases a0 with _ | x0 <;> rcases a1 with _ | x1
  all_goals
    first | (have z0 : n0 ≤ 0 := Nat.le_of_eq (l0 rfl)) | (have k0 := k0 x0 rfl)
    first | (have z1 : n1 ≤ 0 := Nat.le_of_eq (l1 rfl)) | (have k1 := k1 x1 rfl)
    clear l0 l1
    go_enter Try.func27, Try.ntmps27
    go_wp2
    all_goals first
      | (go_ret; exact ⟨anyBool _, rfl⟩)
      | skip
    go_loop [7, 8] (fun t i => ∃ k : Nat, k ≤ n0 ∧ i = .int .i64 k ∧ ∃ z : Int, t = .int .i64 z) (fun _ i => n0 - (intOf i).toNat)
    case atStart => exact ⟨0, Nat.zero_le _, rfl, _, rfl⟩
    case round =>
      obtain ⟨k, hk, rfl, z, rfl⟩ := hrel
      by_cases hlt : k < n0
      · try (exfalso; omega)
        all_goals
          have kk := k0 k hlt
          clear k0 k1
          go_wp2
          all_goals first
            | (go_ret; exact ⟨anyBool _, rfl⟩)
            | (go_round
               case rel => exact ⟨k + 1, by omega, by go_num, _, rfl⟩
               case measure => simp [intOf]; omega)
      · clear k0
        go_wp2
        all_goals first
          | (go_ret; exact ⟨anyBool _, rfl⟩)
          | skip
        go_loop [7, 9] (fun t i => ∃ k : Nat, k ≤ n1 ∧ i = .int .i64 k ∧ ∃ z : Int, t = .int .i64 z) (fun _ i => n1 - (intOf i).toNat)
        case atStart => exact ⟨0, Nat.zero_le _, rfl, _, rfl⟩
        case round =>
          obtain ⟨k, hk, rfl, z, rfl⟩ := hrel
          by_cases hlt : k < n1
          · try (exfalso; omega)
            all_goals
              have kk := k1 k hlt
              clear k1
              go_wp2
              all_goals first
                | (go_ret; exact ⟨anyBool _, rfl⟩)
                | (go_round
                   case rel => exact ⟨k + 1, by omega, by go_num, _, rfl⟩
                   case measure => simp [intOf]; omega)
          · go_wp2
            go_ret; exact ⟨anyBool _, rfl⟩
end Go.Proofs.Qxb6600112a
