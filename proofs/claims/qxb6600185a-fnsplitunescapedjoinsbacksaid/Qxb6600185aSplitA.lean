/-
  splitUnescaped (36), ZZSplitUnescaped (23), zzSplitModel (24), zzBytes (22, 25).
-/
import Derived.Test.Qxb6600185aRows
import Derived.Test.Qxb6600185aSplitP
import Derived.WalkKit
import Derived.WalkSpells
import Derived.WalkLawsBesides
import Derived.Deep.QuietTactic
import Derived.BigQuiet
namespace Go.Proofs.Qxb6600185a
open Go.RowKit Sp

theorem Try.info9 : (Try.prog.info? 9).map (fun i => (i.zero, i.size, i.bytes)) = some (some (.string ⟨#[]⟩), 1, 16) := by kernel_rfl

def strV (ss : List ByteArray) : List Value := ss.map Value.string
theorem strV_len (ss : List ByteArray) : (strV ss).length = ss.length := by simp [strV]
theorem strV_at (ss : List ByteArray) (k : Nat) (h : k < ss.length) : (strV ss)[k]? = some (.string (ss[k]?.getD ByteArray.empty)) := by simp [strV, h]
theorem strV_append (a b : List ByteArray) : strV (a ++ b) = strV a ++ strV b := by simp [strV]

/-- A slice of strings that the run itself has made. -/
def OwnS (w : World) (base : Nat) (v : Value) (ss : List ByteArray) : Prop := w.ownsRow base 9 1 v ss.length (strV ss)

/-- Some bool. -/
def SomeB (e : Ending) : Prop := ∃ b, e = .returned (.bool b)
theorem someB (b : Bool) : SomeB (.returned (.bool b)) := ⟨b, rfl⟩

set_option maxHeartbeats 400000 in
theorem zzb22 (s : ByteArray) (sep : Int) (w : World) (hs : s.size ≤ 9223372036854775807) : Calls Try.prog 22 #[.string s, .int .u8 sep] w fun e w' => SomeB e ∧ w' = w := by
  go_enter Try.func22, Try.ntmps22
  go_wp2
  all_goals (go_ret; exact ⟨someB _, rfl⟩)
set_option maxHeartbeats 400000 in
theorem zzb25 (s : ByteArray) (sep : Int) (w : World) (hs : s.size ≤ 9223372036854775807) : Calls Try.prog 25 #[.string s, .int .u8 sep] w fun e w' => SomeB e ∧ w' = w := by
  go_enter Try.func25, Try.ntmps25
  go_wp2
  all_goals (go_ret; exact ⟨someB _, rfl⟩)

/-- One string more. -/
theorem own_snoc {w w1 wr : World} {v v' : Value} {L : List ByteArray} {t : ByteArray} {n : Nat} {o : Obj} (hn : L.length = n) (hb : Below w.heap.size w wr) (ho : wr.ownsRow w.heap.size 9 1 v L.length (strV L))
    (ho' : w1.ownsRow w.heap.size 9 1 v' (n + 1) (strV L ++ [.string t])) (hg : (wr.alloc o).grownBy w1 v.ownBlock) :
    OwnS w1 w.heap.size v' (L ++ [t]) ∧ Below w.heap.size w w1 := by
  have hsz := hb.size
  refine ⟨?_, (hb.alloc hsz o).grown hg (by simp; omega) (fun k hk => (ho.lt k hk).1)⟩
  subst hn
  unfold OwnS
  rw [strV_append, List.length_append]
  exact ho'

set_option maxHeartbeats 1000000 in
theorem split36 (s : ByteArray) (sep : Int) (w : World) (hs : s.size ≤ 1048576) :
    Calls Try.prog 36 #[.string s, .int .u8 sep] w fun e w' => ∃ v, e = .returned v ∧ OwnS w' w.heap.size v (splitS s sep) ∧ Below w.heap.size w w' := by
  obtain ⟨i0, hi, hz0, hz1, hz2⟩ := info_parts Try.info9
  go_enter Try.func36, Try.ntmps36
  go_wp2
  go_loopw [5, 6, 7] (fun pv sv iv wr => ∃ (i : Nat) (P : List ByteArray) (st : Nat), iv = .int .i64 i ∧ sv = .int .i64 st ∧ Hid (Scan s sep i P st) ∧ OwnS wr w.heap.size pv P ∧ Below w.heap.size w wr) (fun _ _ iv _ => s.size + 2 - (intOf iv).toNat)
  case atStart => exact ⟨0, [], 0, rfl, rfl, Scan.zero s sep, World.ownsRow_nil _ _ _ _, Below.refl _ _⟩
  case round =>
    obtain ⟨i, P, st, rfl, rfl, hS, ho, hb⟩ := hrel
    obtain ⟨b1, b2, b3⟩ := hS.out.bound
    have b4 := hS.out.le
    by_cases hlt : i < s.size
    · have hc := ch_at s i hlt
      by_cases h92 : ch s i = 92
      · have HN : Hid (Scan s sep (i + 2) P st) := hS.out.skip hlt h92
        have hq : (ch s i == 92) = true := beq_iff_eq.2 h92
        clear h92 hS
        go_wp2
        go_roundw
        case rel => exact ⟨i + 2, P, st, by go_num, rfl, HN, ho, hb⟩
        case measure => simp [intOf]; omega
      · have hq : (ch s i == 92) = false := beq_eq_false_iff_ne.2 h92
        by_cases hsep : ch s i = sep
        · have HN : Hid (Scan s sep (i + 1) (P ++ [s.extract st i]) (i + 1)) := hS.out.cut hlt h92 hsep
          have hq2 : (ch s i == sep) = true := beq_iff_eq.2 hsep
          have ho2 : wr.ownsRow w.heap.size 9 1 u5 P.length (strV P) := ho
          clear h92 hsep hS
          go_wp2_with (first | (at_builtin; refine wpList_append_own _ rfl _ _ 41 rfl w.heap.size 9 i0 (.string ⟨#[]⟩) 1 16 Try.underlying41 hi hz0 hz1 hz2 rfl (by decide) _ _ _ rfl (ho2.alloc _) ⟨wr.heap.size, 0, none⟩ 1 1 [.string (s.extract st i)] rfl rfl (cell_one_new _ _ _) (by intro u hu; simp at hu; subst hu; rfl) (by unfold maxLen; omega) (by omega) (by have := hb.size; simp; omega) ?_) | go_in)
          intro v' w2 hown' hgrow _
          obtain ⟨R1, R2⟩ := own_snoc rfl hb ho2 hown' hgrow
          clear ho ho2 hown' hgrow hb
          go_wp2
          go_roundw
          case rel => exact ⟨i + 1, _, i + 1, by go_num, by go_num, HN, R1, R2⟩
          case measure => simp [intOf]; omega
        · have HN : Hid (Scan s sep (i + 1) P st) := hS.out.pass hlt h92 hsep
          have hq2 : (ch s i == sep) = false := beq_eq_false_iff_ne.2 hsep
          clear h92 hsep hS
          go_wp2
          go_roundw
          case rel => exact ⟨i + 1, P, st, by go_num, rfl, HN, ho, hb⟩
          case measure => simp [intOf]; omega
    · have HL : Hid (P ++ [s.extract st s.size] = splitS s sep) := hS.out.last (by omega)
      have ho2 : wr.ownsRow w.heap.size 9 1 u5 P.length (strV P) := ho
      clear hS
      go_wp2_with (first | (at_builtin; refine wpList_append_own _ rfl _ _ 41 rfl w.heap.size 9 i0 (.string ⟨#[]⟩) 1 16 Try.underlying41 hi hz0 hz1 hz2 rfl (by decide) _ _ _ rfl (ho2.alloc _) ⟨wr.heap.size, 0, none⟩ 1 1 [.string (s.extract st s.size)] rfl rfl (cell_one_new _ _ _) (by intro u hu; simp at hu; subst hu; rfl) (by unfold maxLen; omega) (by omega) (by have := hb.size; simp; omega) ?_) | go_in)
      intro v' w2 hown' hgrow _
      obtain ⟨R1, R2⟩ := own_snoc rfl hb ho2 hown' hgrow
      rw [HL.out] at R1
      clear ho ho2 hown' hgrow hb
      go_wp2
      go_ret
      exact ⟨_, rfl, R1, R2⟩

set_option maxHeartbeats 1000000 in
theorem zzsplit23 (s : ByteArray) (sep : Int) (w : World) (hs : s.size ≤ 1048576) :
    Calls Try.prog 23 #[.string s, .int .u8 sep] w fun e w' => ∃ v, e = .returned v ∧ OwnS w' w.heap.size v (splitS s sep) ∧ Below w.heap.size w w' := by
  go_enter Try.func23, Try.ntmps23
  go_wp2_with fail
  refine (split36 s sep w hs).mono ?_
  rintro e w1 ⟨v, rfl, o, b⟩
  have O : Hid (OwnS w1 w.heap.size v (splitS s sep)) := o
  clear o
  go_wp2
  go_ret
  exact ⟨_, rfl, O.out, b⟩

set_option maxHeartbeats 2000000 in
theorem model24 (s : ByteArray) (sep : Int) (w : World) (hs : s.size ≤ 1048576) :
    Calls Try.prog 24 #[.string s, .int .u8 sep] w fun e w' => ∃ v, e = .returned v ∧ OwnS w' w.heap.size v (splitS s sep) ∧ Below w.heap.size w w' := by
  obtain ⟨i0, hi, hz0, hz1, hz2⟩ := info_parts Try.info9
  go_enter Try.func24, Try.ntmps24
  go_wp2
  go_loopw [5, 6, 7] (fun pv sv iv wr => ∃ (i : Nat), i ≤ s.size ∧ iv = .int .i64 i ∧ sv = .int .i64 (startTo s sep i) ∧ OwnS wr w.heap.size pv (partsTo s sep i) ∧ Below w.heap.size w wr) (fun _ _ iv _ => s.size - (intOf iv).toNat)
  case atStart => exact ⟨0, Nat.zero_le _, rfl, rfl, World.ownsRow_nil _ _ _ _, Below.refl _ _⟩
  case round =>
    obtain ⟨i, hile, rfl, rfl, ho, hb⟩ := hrel
    have b1 := start_le s sep i
    have b2 := parts_len s sep i
    by_cases hlt : i < s.size
    · have hc := ch_at s i hlt
      have hR : ∀ {b}, isCut (ch s) sep i = b → Hid (isCut (ch s) sep i = b) := fun h => h
      by_cases hsep : ch s i = sep
      · by_cases h92 : sep = 92
        · have HC := hR (isCut_bs h92)
          have hq1 : (ch s i != sep) = false := by rw [bne_eq_false_iff_eq]; exact hsep
          have hq2 : (sep == 92) = true := beq_iff_eq.2 h92
          have HP : Hid (partsTo s sep (i + 1) = partsTo s sep i ∧ startTo s sep (i + 1) = startTo s sep i) := ⟨parts_no HC.out, start_no HC.out⟩
          clear hsep h92 HC hR
          generalize partsTo s sep i = P at *
          generalize startTo s sep i = st at *
          go_wp2
          go_roundw
          case rel => exact ⟨i + 1, by omega, by go_num, by rw [HP.out.2], by rw [HP.out.1]; exact ho, hb⟩
          case measure => simp [intOf]; omega
        · have hq1 : (ch s i != sep) = false := by rw [bne_eq_false_iff_eq]; exact hsep
          have hq2 : (sep == 92) = false := beq_eq_false_iff_ne.2 h92
          have HS : Hid (ch s i = sep ∧ sep ≠ 92) := ⟨hsep, h92⟩
          have HP : Hid ((run (ch s) i % 2 = 0 → partsTo s sep (i + 1) = partsTo s sep i ++ [s.extract (startTo s sep i) i] ∧ startTo s sep (i + 1) = i + 1) ∧ (run (ch s) i % 2 ≠ 0 → partsTo s sep (i + 1) = partsTo s sep i ∧ startTo s sep (i + 1) = startTo s sep i)) :=
            ⟨fun h => ⟨parts_yes (isCut_true hsep h92 h), start_yes (isCut_true hsep h92 h)⟩, fun h => ⟨parts_no (isCut_odd h), start_no (isCut_odd h)⟩⟩
          have hrl := run_le (ch s) i
          clear hsep h92 hR
          generalize partsTo s sep i = P at *
          generalize startTo s sep i = st at *
          go_wp2
          go_loop [8, 9] (fun rv jv => ∃ (j r : Nat) (z : Int), j ≤ i ∧ jv = .int .i64 z ∧ z = (j : Int) - 1 ∧ rv = .int .i64 r ∧ Hid (r + run (ch s) j = run (ch s) i) ∧ r ≤ i) (fun _ jv => (intOf jv + 1).toNat)
          case atStart => exact ⟨i, 0, _, Nat.le_refl _, rfl, rfl, rfl, by show 0 + run (ch s) i = run (ch s) i; omega, Nat.zero_le _⟩
          case round =>
            obtain ⟨j, r, z, hji, rfl, hz, rfl, HR, hri⟩ := hrel
            by_cases hcont : ∃ j', j = j' + 1 ∧ ch s j' = 92
            · obtain ⟨j', hj', h92⟩ := hcont
              have hzj : z = (j' : Int) := by omega
              clear hz
              subst hj' hzj
              have hjs : j' < s.size := by omega
              have hcj := ch_at s j' hjs
              have hr' := HR.out
              rw [run_succ, if_pos h92] at hr'
              have HR' : Hid (r + 1 + run (ch s) j' = run (ch s) i) := by show r + 1 + run (ch s) j' = run (ch s) i; omega
              have hq3 : (ch s j' == 92) = true := beq_iff_eq.2 h92
              have hrb : r + 1 ≤ i := by omega
              clear h92 HR hr'
              go_wp2
              go_round
              case rel => exact ⟨j', r + 1, _, by omega, rfl, rfl, by go_num, HR', hrb⟩
              case measure => simp [intOf]
            · have HR' : r = run (ch s) i := by
                have hr' := HR.out
                cases j with
                | zero => simpa [run] using hr'
                | succ j' =>
                  rw [run_succ, if_neg (fun h => hcont ⟨j', rfl, h⟩)] at hr'
                  omega
              have hg : z < 0 ∨ ∃ j' : Nat, z = (j' : Int) ∧ j' < s.size ∧ (ch s j' == 92) = false := by
                cases j with
                | zero => left; omega
                | succ j' => right; exact ⟨j', by omega, by omega, beq_eq_false_iff_ne.2 (fun h => hcont ⟨j', rfl, h⟩)⟩
              have hpar : (((r : Int) % 2 == 0) = true ∧ Hid (partsTo s sep (i + 1) = P ++ [s.extract st i] ∧ startTo s sep (i + 1) = i + 1)) ∨ (((r : Int) % 2 == 0) = false ∧ Hid (partsTo s sep (i + 1) = P ∧ startTo s sep (i + 1) = st)) := by
                by_cases he : run (ch s) i % 2 = 0
                · left; exact ⟨beq_iff_eq.2 (by omega), HP.out.1 he⟩
                · right; exact ⟨beq_eq_false_iff_ne.2 (by omega), HP.out.2 he⟩
              clear hz HR HR' hcont HP
              rcases hg with hg | ⟨j', hzj, hjs, hq3⟩
              · rcases hpar with ⟨he, HP⟩ | ⟨he, HP⟩
                · have ho2 : wr.ownsRow w.heap.size 9 1 u5 P.length (strV P) := ho
                  go_wp2_with (first | (at_builtin; refine wpList_append_own _ rfl _ _ 41 rfl w.heap.size 9 i0 (.string ⟨#[]⟩) 1 16 Try.underlying41 hi hz0 hz1 hz2 rfl (by decide) _ _ _ rfl (ho2.alloc _) ⟨wr.heap.size, 0, none⟩ 1 1 [.string (s.extract st i)] rfl rfl (cell_one_new _ _ _) (by intro u hu; simp at hu; subst hu; rfl) (by unfold maxLen; omega) (by omega) (by have := hb.size; simp; omega) ?_) | go_in)
                  intro v' w2 hown' hgrow _
                  obtain ⟨R1, R2⟩ := own_snoc rfl hb ho2 hown' hgrow
                  clear ho ho2 hown' hgrow hb
                  go_wp2
                  go_roundw
                  case rel => exact ⟨i + 1, by omega, by go_num, by rw [HP.out.2]; go_num, by rw [HP.out.1]; exact R1, R2⟩
                  case measure => simp [intOf]; omega
                · go_wp2
                  go_roundw
                  case rel => exact ⟨i + 1, by omega, by go_num, by rw [HP.out.2], by rw [HP.out.1]; exact ho, hb⟩
                  case measure => simp [intOf]; omega
              · subst hzj
                have hcj := ch_at s j' hjs
                rcases hpar with ⟨he, HP⟩ | ⟨he, HP⟩
                · have ho2 : wr.ownsRow w.heap.size 9 1 u5 P.length (strV P) := ho
                  go_wp2_with (first | (at_builtin; refine wpList_append_own _ rfl _ _ 41 rfl w.heap.size 9 i0 (.string ⟨#[]⟩) 1 16 Try.underlying41 hi hz0 hz1 hz2 rfl (by decide) _ _ _ rfl (ho2.alloc _) ⟨wr.heap.size, 0, none⟩ 1 1 [.string (s.extract st i)] rfl rfl (cell_one_new _ _ _) (by intro u hu; simp at hu; subst hu; rfl) (by unfold maxLen; omega) (by omega) (by have := hb.size; simp; omega) ?_) | go_in)
                  intro v' w2 hown' hgrow _
                  obtain ⟨R1, R2⟩ := own_snoc rfl hb ho2 hown' hgrow
                  clear ho ho2 hown' hgrow hb
                  go_wp2
                  go_roundw
                  case rel => exact ⟨i + 1, by omega, by go_num, by rw [HP.out.2]; go_num, by rw [HP.out.1]; exact R1, R2⟩
                  case measure => simp [intOf]; omega
                · go_wp2
                  go_roundw
                  case rel => exact ⟨i + 1, by omega, by go_num, by rw [HP.out.2], by rw [HP.out.1]; exact ho, hb⟩
                  case measure => simp [intOf]; omega
      · have hq1 : (ch s i != sep) = true := bne_iff_ne.2 hsep
        have HP : Hid (partsTo s sep (i + 1) = partsTo s sep i ∧ startTo s sep (i + 1) = startTo s sep i) := ⟨parts_no (isCut_ne hsep), start_no (isCut_ne hsep)⟩
        clear hsep hR
        generalize partsTo s sep i = P at *
        generalize startTo s sep i = st at *
        go_wp2
        go_roundw
        case rel => exact ⟨i + 1, by omega, by go_num, by rw [HP.out.2], by rw [HP.out.1]; exact ho, hb⟩
        case measure => simp [intOf]; omega
    · have hin : i = s.size := by omega
      subst hin
      have HL : Hid (partsTo s sep s.size ++ [s.extract (startTo s sep s.size) s.size] = splitS s sep) := rfl
      generalize partsTo s sep s.size = P at *
      generalize startTo s sep s.size = st at *
      have ho2 : wr.ownsRow w.heap.size 9 1 u5 P.length (strV P) := ho
      go_wp2_with (first | (at_builtin; refine wpList_append_own _ rfl _ _ 41 rfl w.heap.size 9 i0 (.string ⟨#[]⟩) 1 16 Try.underlying41 hi hz0 hz1 hz2 rfl (by decide) _ _ _ rfl (ho2.alloc _) ⟨wr.heap.size, 0, none⟩ 1 1 [.string (s.extract st s.size)] rfl rfl (cell_one_new _ _ _) (by intro u hu; simp at hu; subst hu; rfl) (by unfold maxLen; omega) (by omega) (by have := hb.size; simp; omega) ?_) | go_in)
      intro v' w2 hown' hgrow _
      obtain ⟨R1, R2⟩ := own_snoc rfl hb ho2 hown' hgrow
      rw [HL.out] at R1
      clear ho ho2 hown' hgrow hb
      go_wp2
      go_ret
      exact ⟨_, rfl, R1, R2⟩

end Go.Proofs.Qxb6600185a
