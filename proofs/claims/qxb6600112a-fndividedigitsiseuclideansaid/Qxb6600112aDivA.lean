/-
  Walks over rows of bytes that only read: zzBytes (14, 19), ValidDigits (9), NoLeading (10), StripZeros (20), EqBytes (21), CmpNum (16), compareDigits (31); CloneBytes (12).
-/
import Derived.Test.Qxb6600112aRows
import Derived.Test.Qxb6600112aDigits
import Derived.WalkKit
import Derived.WalkSpells
import Derived.WalkLawsBesides
import Derived.Lib.SliceRun
import Derived.Deep.QuietTactic
import Derived.BigQuiet
namespace Go.Proofs.Qxb6600112a
open Go.RowKit

/-- What is known of a slice of bytes that is read. -/
structure RdB (w : World) (a : Option Addr) (n : Nat) (zs : List Int) : Prop where
  len : zs.length = n
  nil : a = none → n = 0
  cell : ∀ x, a = some x → ∀ i, i < n → w.cell? (x.add i) = some (.int .u8 (zs[i]?.getD 0))

theorem addr_block (x : Addr) (k : Nat) : (x.add k).block = x.block := by unfold Addr.add; split <;> rfl

theorem RdB.lt {w : World} {a : Option Addr} {n : Nat} {zs : List Int} (h : RdB w a n zs) : ∀ x, a = some x → 0 < n → x.block < w.heap.size := by
  intro x hx hn
  have := World.block_lt_of_cell? w _ (h.cell x hx 0 hn)
  rwa [addr_block] at this

theorem RdB.later {w w' : World} {a : Option Addr} {n : Nat} {zs : List Int} (h : RdB w a n zs) (hb : Below w.heap.size w w') : RdB w' a n zs := by
  refine ⟨h.len, h.nil, fun x hx i hi => ?_⟩
  rw [hb.cell (p := x.add i) (by rw [addr_block]; exact h.lt x hx (by omega))]
  exact h.cell x hx i hi

/-- Some bool. -/
def SomeB (e : Ending) : Prop := ∃ b, e = .returned (.bool b)
theorem someB (b : Bool) : SomeB (.returned (.bool b)) := ⟨b, rfl⟩

set_option maxHeartbeats 400000 in
theorem zzb14 (a0 a1 : Option Addr) (n0 n1 c0 c1 : Nat) (w : World) (m0 : n0 ≤ 9223372036854775807) (m1 : n1 ≤ 9223372036854775807) :
    Calls Try.prog 14 #[.slice a0 n0 c0, .slice a1 n1 c1] w fun e w' => SomeB e ∧ w' = w := by
  go_enter Try.func14, Try.ntmps14
  go_wp2
  all_goals (go_ret; exact ⟨someB _, rfl⟩)

set_option maxHeartbeats 400000 in
theorem zzb19 (a0 a1 a2 : Option Addr) (n0 n1 n2 c0 c1 c2 : Nat) (w : World) (m0 : n0 ≤ 9223372036854775807) (m1 : n1 ≤ 9223372036854775807) (m2 : n2 ≤ 9223372036854775807) :
    Calls Try.prog 19 #[.slice a0 n0 c0, .slice a1 n1 c1, .slice a2 n2 c2] w fun e w' => SomeB e ∧ w' = w := by
  go_enter Try.func19, Try.ntmps19
  go_wp2
  all_goals (go_ret; exact ⟨someB _, rfl⟩)

def okDig (l : List Int) : Bool := l.all fun d => decide (d ≤ 9)
theorem okDig_take (l : List Int) (k : Nat) (h : k < l.length) (hk : okDig (l.take k) = true) (hd : l[k]?.getD 0 ≤ 9) : okDig (l.take (k + 1)) = true := by
  unfold okDig at *
  rw [List.take_add_one, List.getElem?_eq_getElem h, List.all_append, hk]
  rw [List.getElem?_eq_getElem h] at hd
  simpa using hd
theorem okDig_bad (l : List Int) (k : Nat) (h : k < l.length) (hd : 9 < l[k]?.getD 0) : okDig l = false := by
  unfold okDig
  rw [List.all_eq_false]
  rw [List.getElem?_eq_getElem h] at hd
  have hd' : 9 < l[k] := hd
  exact ⟨l[k], List.getElem_mem h, by simp; omega⟩

set_option maxHeartbeats 400000 in
theorem valid9 (a : Option Addr) (n c : Nat) (zs : List Int) (w : World) (h : RdB w a n zs) (m : n ≤ 9223372036854775807) :
    Calls Try.prog 9 #[.slice a n c] w fun e w' => e = .returned (.bool (okDig zs)) ∧ w' = w := by
  have hl : Hid (zs.length = n) := h.len
  have k0 := h.cell
  have l0 := h.nil
  clear h
  rcases a with _ | x
  all_goals
    first | (have z0 : n ≤ 0 := Nat.le_of_eq (l0 rfl)) | (have k0 := k0 x rfl)
    clear l0
    go_enter Try.func9, Try.ntmps9
    go_wp2
    go_loop [3] (fun i => ∃ k : Nat, k ≤ n ∧ i = .int .i64 k ∧ okDig (zs.take k) = true) (fun i => n - (intOf i).toNat)
    case atStart => exact ⟨0, Nat.zero_le _, rfl, by simp [okDig]⟩
    case round =>
      obtain ⟨k, hk, rfl, hok⟩ := hrel
      have HO : Hid (okDig (zs.take k) = true) := hok
      clear hok
      by_cases hlt : k < n
      · try (exfalso; omega)
        all_goals
          have kk := k0 k hlt
          clear k0
          by_cases hd : 9 < zs[k]?.getD 0
          · have hf : Hid (okDig zs = false) := okDig_bad zs k (by rw [hl.out]; exact hlt) hd
            go_wp2
            go_ret
            exact ⟨by rw [hf.out]; rfl, rfl⟩
          · have hf : Hid (okDig (zs.take (k + 1)) = true) := okDig_take zs k (by rw [hl.out]; exact hlt) HO.out (by omega)
            go_wp2
            go_round
            case rel => exact ⟨k + 1, by omega, by go_num, hf.out⟩
            case measure => simp [intOf]; omega
      · have hf : Hid (okDig zs = true) := by have := HO.out; rwa [List.take_of_length_le (by rw [hl.out]; omega)] at this
        clear k0
        go_wp2
        go_ret
        exact ⟨by rw [hf.out]; rfl, rfl⟩


/-! ### NoLeading -/
def noLeadB (l : List Int) : Bool := l.head? != some 0
theorem noLeadB_iff (l : List Int) : noLeadB l = true ↔ Dg.NoLead l := by unfold noLeadB Dg.NoLead; simp

set_option maxHeartbeats 400000 in
theorem noLead10 (a : Option Addr) (n c : Nat) (zs : List Int) (w : World) (h : RdB w a n zs) (m : n ≤ 9223372036854775807) :
    Calls Try.prog 10 #[.slice a n c] w fun e w' => e = .returned (.bool (noLeadB zs)) ∧ w' = w := by
  cases zs with
  | nil =>
    have : n = 0 := by have := h.len; simpa using this.symm
    subst this
    clear h
    go_enter Try.func10, Try.ntmps10
    go_wp2
    go_ret
    exact ⟨rfl, rfl⟩
  | cons d l =>
    have hn : 0 < n := by have := h.len; simp at this; omega
    rcases a with _ | x
    · have := h.nil rfl; omega
    have hc : w.cell? x = some (.int .u8 d) := by have := h.cell x rfl 0 hn; simpa [Addr.add] using this
    clear h
    go_enter Try.func10, Try.ntmps10
    go_wp2
    go_ret
    refine ⟨congrArg (fun b => Ending.returned (.bool b)) ?_, rfl⟩
    have hn0 : n ≠ 0 := by omega
    by_cases hd : d = 0
    · simp [noLeadB, hd, hn0]
    · have e1 : (d != 0) = true := bne_iff_ne.2 hd
      have e2 : noLeadB (d :: l) = true := (noLeadB_iff _).2 (by simpa [Dg.NoLead] using hd)
      rw [e2, e1, Bool.or_true]

/-! ### StripZeros -/
theorem addr_add (x : Addr) (i j : Nat) : (x.add i).add j = x.add (i + j) := by
  unfold Addr.add
  by_cases hi : i = 0
  · subst hi; simp
  · by_cases hj : j = 0
    · subst hj; simp
    · rw [if_neg hi, if_neg hj, if_neg (by omega)]
      simp [Nat.add_assoc]
theorem rdB_nil (w : World) (a : Option Addr) : RdB w a 0 [] := ⟨rfl, (fun _ => rfl), fun _ _ i hi => by omega⟩
/-- 'x[i:]' reads as the list without its first i. -/
theorem RdB.cut {w : World} {x : Addr} {n i : Nat} {zs : List Int} (h : RdB w (some x) n zs) : RdB w (some (x.add i)) (n - i) (zs.drop i) := by
  refine ⟨by rw [List.length_drop, h.len], (fun e => by cases e), ?_⟩
  intro y hy j hj
  cases hy
  rw [addr_add, List.getElem?_drop]
  exact h.cell x rfl (i + j) (by omega)

set_option maxHeartbeats 1000000 in
theorem strip20 (a : Option Addr) (n c : Nat) (zs : List Int) (w : World) (h : RdB w a n zs) (m : n ≤ 9223372036854775807) (hnc : n ≤ c) :
    Calls Try.prog 20 #[.slice a n c] w fun e w' => ∃ a' c', e = .returned (.slice a' (Dg.strip zs).length c') ∧ RdB w a' (Dg.strip zs).length (Dg.strip zs) ∧ (Dg.strip zs).length ≤ c' ∧ w' = w := by
  rcases a with _ | x
  · have z := h.nil rfl
    subst n
    have : zs = [] := List.eq_nil_of_length_eq_zero h.len
    subst this
    go_enter Try.func20, Try.ntmps20
    go_wp2
    refine wp_loop_rounds 1 ?_
    rw [rounds_succ]
    go_wp2
    go_ret
    exact ⟨_, _, rfl, ⟨rfl, (fun _ => rfl), (fun _ e => by cases e)⟩, Nat.zero_le _, rfl⟩
  · have hl : Hid (zs.length = n) := h.len
    have k0 := h.cell x rfl
    have H : Hid (RdB w (some x) n zs) := h
    clear h
    go_enter Try.func20, Try.ntmps20
    go_wp2
    go_loop [3] (fun i => ∃ k : Nat, k ≤ n ∧ i = .int .i64 k ∧ Hid (∀ i, i < k → zs[i]?.getD 0 = 0)) (fun i => n - (intOf i).toNat)
    case atStart => exact ⟨0, Nat.zero_le _, rfl, fun i hi => by omega⟩
    case round =>
      obtain ⟨k, hk, rfl, hz⟩ := hrel
      have fin : (k < n → zs[k]?.getD 0 ≠ 0) → Dg.strip zs = zs.drop k := by
        intro hd
        rw [← Dg.strip_drop zs k (by rw [hl.out]; exact hk) hz.out]
        apply Dg.strip_self
        unfold Dg.NoLead
        rw [List.head?_drop]
        intro e
        have hkn : k < n := by rw [← hl.out]; exact (List.getElem?_eq_some_iff.1 e).1
        exact hd hkn (by rw [e]; rfl)
      by_cases hlt : k < n
      · have kk := k0 k hlt
        by_cases hd : zs[k]?.getD 0 = 0
        · have hd' : (zs[k]?.getD 0 == 0) = true := beq_iff_eq.2 hd
          have HD : Hid (zs[k]?.getD 0 = 0) := hd
          clear k0 fin hd
          go_wp2
          go_round
          case rel => exact ⟨k + 1, by omega, by go_num, fun i hi => by
            by_cases e : i < k
            · exact hz.out i e
            · rw [show i = k by omega]; exact HD.out⟩
          case measure => simp [intOf]; omega
        · have hd' : (zs[k]?.getD 0 == 0) = false := beq_eq_false_iff_ne.2 hd
          have F : Hid (Dg.strip zs = zs.drop k) := fin fun _ => hd
          clear k0 fin hd
          go_wp2
          go_ret
          have e : n - k = (Dg.strip zs).length := by rw [F.out, List.length_drop, hl.out]
          refine ⟨some (x.add k), c - k, congrArg (fun q => Ending.returned (.slice (some (x.add k)) q (c - k))) e, ?_, by omega, rfl⟩
          have := H.out.cut (i := k)
          rw [← F.out, e] at this
          exact this
      · have e0 : Dg.strip zs = [] := by rw [fin (fun h => absurd h hlt)]; exact List.drop_of_length_le (by rw [hl.out]; omega)
        have F : Hid (Dg.strip zs = []) := e0
        have hkn : k = n := by omega
        subst hkn
        clear k0 fin e0
        by_cases hck : c = k
        · subst hck
          go_wp2
          go_ret
          exact ⟨_, _, by rw [F.out]; rfl, by rw [F.out]; exact rdB_nil _ _, by rw [F.out]; exact Nat.zero_le _, rfl⟩
        · have hck : k < c := by omega
          go_wp2
          go_ret
          exact ⟨_, _, by rw [F.out]; rfl, by rw [F.out]; exact rdB_nil _ _, by rw [F.out]; exact Nat.zero_le _, rfl⟩


/-! ### compareDigits -/
theorem cmpL_diff (a b : List Int) (h : a.length ≠ b.length) : Dg.cmpL a b = if a.length < b.length then -1 else 1 := by unfold Dg.cmpL; rw [if_pos h]
theorem cmpL_same (a b : List Int) (h : a.length = b.length) : Dg.cmpL a b = Dg.cmpSame a b := by unfold Dg.cmpL; rw [if_neg (by simpa using h)]
theorem ret_i64 {a b : Int} (h : a = b) : Ending.returned (.int .i64 a) = .returned (.int .i64 b) := by rw [h]

set_option maxHeartbeats 1000000 in
theorem compare31 (a0 a1 : Option Addr) (n0 n1 c0 c1 : Nat) (z0 z1 : List Int) (w : World) (h0 : RdB w a0 n0 z0) (h1 : RdB w a1 n1 z1) (m0 : n0 ≤ 9223372036854775807) (m1 : n1 ≤ 9223372036854775807) :
    Calls Try.prog 31 #[.slice a0 n0 c0, .slice a1 n1 c1] w fun e w' => e = .returned (.int .i64 (Dg.cmpL z0 z1)) ∧ Below w.heap.size w w' := by
  by_cases hne : n0 = n1
  · subst hne
    have HC : Hid (Dg.cmpL z0 z1 = Dg.cmpSame z0 z1) := cmpL_same _ _ (by rw [h0.len, h1.len])
    have e0 : Hid (z0.length = n0) := h0.len
    have e1 : Hid (z1.length = n0) := h1.len
    have H0 : Hid (RdB w a0 n0 z0) := h0
    have H1 : Hid (RdB w a1 n0 z1) := h1
    have l0 := h0.nil
    have l1 := h1.nil
    clear h0 h1
    rcases a0 with _ | x0 <;> rcases a1 with _ | x1
    all_goals
      first | (have y0 : n0 ≤ 0 := Nat.le_of_eq (l0 rfl)) | (have y0 : n0 ≤ 0 := Nat.le_of_eq (l1 rfl)) | skip
      clear l0 l1
      go_enter Try.func31, Try.ntmps31
      go_wp2
      go_loopw [18] (fun i wr => ∃ k : Nat, k ≤ n0 ∧ i = .int .i64 k ∧ Hid (∀ i, i < k → z0[i]?.getD 0 = z1[i]?.getD 0) ∧ Below w.heap.size w wr) (fun i _ => n0 - (intOf i).toNat)
      case atStart => exact ⟨0, Nat.zero_le _, rfl, (fun i hi => by omega), Below.refl _ _⟩
      case round =>
        obtain ⟨k, hk, rfl, hz, hb⟩ := hrel
        by_cases hlt : k < n0
        · try (exfalso; omega)
          all_goals
            have k0 := (H0.out.later hb).cell x0 rfl k hlt
            have k1 := (H1.out.later hb).cell x1 rfl k hlt
            have hi1 : (k : Int) < (n0 : Int) := by omega
            by_cases hd : z0[k]?.getD 0 = z1[k]?.getD 0
            · have hd' : (z0[k]?.getD 0 != z1[k]?.getD 0) = false := by rw [bne_eq_false_iff_eq]; exact hd
              have hz' : Hid (∀ i, i < k + 1 → z0[i]?.getD 0 = z1[i]?.getD 0) := fun i hi => by
                by_cases e : i < k
                · exact hz.out i e
                · rw [show i = k by omega]; exact hd
              clear hd
              go_wp2
              go_region
              go_wp2
              go_roundw
              case rel => exact ⟨k + 1, by omega, by go_num, hz', hb.drew⟩
              case measure => simp [intOf]; omega
            · have hd' : (z0[k]?.getD 0 != z1[k]?.getD 0) = true := bne_iff_ne.2 hd
              have F : Hid (Dg.cmpL z0 z1 = if z0[k]?.getD 0 < z1[k]?.getD 0 then -1 else 1) := HC.out.trans (Dg.cmpSame_at z0 z1 k (by rw [e0.out, e1.out]) (by rw [e0.out]; exact hlt) hz.out hd)
              by_cases hs : z0[k]?.getD 0 < z1[k]?.getD 0
              · have F' : Hid (Dg.cmpL z0 z1 = -1) := by have := F.out; rwa [if_pos hs] at this
                clear F hd
                go_wp2
                go_region
                go_wp2
                go_region
                go_wp2
                go_ret
                exact ⟨ret_i64 F'.out.symm, hb.drew.drew⟩
              · have F' : Hid (Dg.cmpL z0 z1 = 1) := by have := F.out; rwa [if_neg hs] at this
                clear F hd
                go_wp2
                go_region
                go_wp2
                go_region
                go_wp2
                go_ret
                exact ⟨ret_i64 F'.out.symm, hb.drew.drew⟩
        · have F : Hid (Dg.cmpL z0 z1 = 0) := HC.out.trans (Dg.cmpSame_eq _ _ (by rw [e0.out, e1.out]) (fun i hi => hz.out i (by rw [e0.out] at hi; omega)))
          go_wp2
          go_ret
          exact ⟨ret_i64 F.out.symm, hb⟩
  · have F : Hid (Dg.cmpL z0 z1 = if n0 < n1 then -1 else 1) := by have := cmpL_diff z0 z1 (by rw [h0.len, h1.len]; exact hne); rwa [h0.len, h1.len] at this
    clear h0 h1
    by_cases hs : n0 < n1
    · have F' : Hid (Dg.cmpL z0 z1 = -1) := by have := F.out; rwa [if_pos hs] at this
      clear hne F
      go_enter Try.func31, Try.ntmps31
      go_wp2
      go_ret
      exact ⟨ret_i64 F'.out.symm, Below.refl _ _⟩
    · have F' : Hid (Dg.cmpL z0 z1 = 1) := by have := F.out; rwa [if_neg hs] at this
      have hs' : n1 < n0 := by omega
      clear hne F hs
      go_enter Try.func31, Try.ntmps31
      go_wp2
      go_ret
      exact ⟨ret_i64 F'.out.symm, Below.refl _ _⟩

end Go.Proofs.Qxb6600112a
