/-
  Rows of ZT and of Transform that the run makes: zzCloneZT (12), zzTransforms (34).
-/
import Derived.Test.Qxb6600185aOffA
namespace Go.Proofs.Qxb6600185a
open Go.RowKit

theorem Try.info38 : (Try.prog.info? 38).map (fun i => (i.zero, i.size, i.bytes)) = some (some (.agg #[.int .u8 0, .int .u16 0, .int .u16 0]), 3, 6) := by kernel_rfl
theorem Try.info56 : (Try.prog.info? 56).map (fun i => (i.zero, i.size, i.bytes)) = some (some (.agg #[.int .u8 0, .int .u16 0, .int .u16 0, .bool false]), 4, 8) := by kernel_rfl

/-- The cells of a row of ZT. -/
def ztV : List Zt → List Value
  | [] => []
  | t :: l => .int .u8 t.1 :: .int .u16 t.2.1 :: .int .u16 t.2.2 :: ztV l
theorem ztV_len (l : List Zt) : (ztV l).length = l.length * 3 := by
  induction l with
  | nil => rfl
  | cons t l ih => simp [ztV, ih]; omega
theorem ztV_at (l : List Zt) (k : Nat) (h : k < l.length) : (ztV l)[k * 3]? = some (.int .u8 (l[k]?.getD (0, 0, 0)).1) ∧ (ztV l)[k * 3 + 1]? = some (.int .u16 (l[k]?.getD (0, 0, 0)).2.1) ∧ (ztV l)[k * 3 + 2]? = some (.int .u16 (l[k]?.getD (0, 0, 0)).2.2) := by
  induction l generalizing k with
  | nil => simp at h
  | cons t l ih =>
    cases k with
    | zero => exact ⟨rfl, rfl, rfl⟩
    | succ k =>
      obtain ⟨h1, h2, h3⟩ := ih k (by simpa using h)
      rw [show (k + 1) * 3 = k * 3 + 1 + 1 + 1 by omega]
      simp only [ztV, List.getElem?_cons_succ]
      exact ⟨h1, h2, h3⟩
theorem ztV_set (l : List Zt) (k : Nat) (t : Zt) : ztV (l.set k t) = (((ztV l).set (k * 3) (.int .u8 t.1)).set (k * 3 + 1) (.int .u16 t.2.1)).set (k * 3 + 2) (.int .u16 t.2.2) := by
  induction l generalizing k with
  | nil => simp [ztV]
  | cons u l ih =>
    cases k with
    | zero => simp [ztV]
    | succ k =>
      rw [List.set_cons_succ]
      simp only [ztV]
      rw [ih k, show (k + 1) * 3 = k * 3 + 1 + 1 + 1 by omega]
      simp only [List.set_cons_succ]
theorem ztV_append (a b : List Zt) : ztV (a ++ b) = ztV a ++ ztV b := by
  induction a with
  | nil => rfl
  | cons t a ih => simp [ztV, ih]

/-- The cells of a row of Transform, none with an unknown attribute. -/
def trV : List Zt → List Value
  | [] => []
  | t :: l => .int .u8 t.1 :: .int .u16 t.2.1 :: .int .u16 t.2.2 :: .bool false :: trV l
theorem trV_len (l : List Zt) : (trV l).length = l.length * 4 := by
  induction l with
  | nil => rfl
  | cons t l ih => simp [trV, ih]; omega
theorem trV_at (l : List Zt) (k : Nat) (h : k < l.length) : (trV l)[k * 4]? = some (.int .u8 (l[k]?.getD (0, 0, 0)).1) ∧ (trV l)[k * 4 + 1]? = some (.int .u16 (l[k]?.getD (0, 0, 0)).2.1) ∧ (trV l)[k * 4 + 2]? = some (.int .u16 (l[k]?.getD (0, 0, 0)).2.2) ∧ (trV l)[k * 4 + 3]? = some (.bool false) := by
  induction l generalizing k with
  | nil => simp at h
  | cons t l ih =>
    cases k with
    | zero => exact ⟨rfl, rfl, rfl, rfl⟩
    | succ k =>
      obtain ⟨h1, h2, h3, h4⟩ := ih k (by simpa using h)
      rw [show (k + 1) * 4 = k * 4 + 1 + 1 + 1 + 1 by omega]
      simp only [trV, List.getElem?_cons_succ]
      exact ⟨h1, h2, h3, h4⟩
theorem trV_set (l : List Zt) (k : Nat) (t : Zt) : trV (l.set k t) = ((((trV l).set (k * 4) (.int .u8 t.1)).set (k * 4 + 1) (.int .u16 t.2.1)).set (k * 4 + 2) (.int .u16 t.2.2)).set (k * 4 + 3) (.bool false) := by
  induction l generalizing k with
  | nil => simp [trV]
  | cons u l ih =>
    cases k with
    | zero => simp [trV]
    | succ k =>
      rw [List.set_cons_succ]
      simp only [trV]
      rw [ih k, show (k + 1) * 4 = k * 4 + 1 + 1 + 1 + 1 by omega]
      simp only [List.set_cons_succ]
theorem trV_append (a b : List Zt) : trV (a ++ b) = trV a ++ trV b := by
  induction a with
  | nil => rfl
  | cons t a ih => simp [trV, ih]

theorem made_at (z : Array Value) (n j : Nat) (h : j < n) : (madeCells z n).toList[j]? = some (z[j % z.size]!) := by
  simp [madeCells, h]

theorem made_zt (n : Nat) : (madeCells #[.int .u8 0, .int .u16 0, .int .u16 0] (n * 3)).toList = ztV (List.replicate n (0, 0, 0)) := by
  apply List.ext_getElem?
  intro j
  by_cases hj : j < n * 3
  · rw [made_at _ _ _ hj]
    obtain ⟨k, r, hr, rfl⟩ : ∃ k r, r < 3 ∧ j = k * 3 + r := ⟨j / 3, j % 3, by omega, by omega⟩
    have hk : k < (List.replicate n ((0, 0, 0) : Zt)).length := by simp; omega
    have hkn : k < n := by omega
    obtain ⟨h1, h2, h3⟩ := ztV_at (List.replicate n (0, 0, 0)) k hk
    have e0 : ((List.replicate n ((0, 0, 0) : Zt))[k]?.getD (0, 0, 0)) = (0, 0, 0) := by simp [hkn]
    rw [e0] at h1 h2 h3
    have em : (k * 3 + r) % 3 = r := by omega
    show some ((#[Value.int .u8 0, .int .u16 0, .int .u16 0] : Array Value)[(k * 3 + r) % 3]!) = _
    rw [em]
    match r, hr with
    | 0, _ => rw [Nat.add_zero, h1]; rfl
    | 1, _ => rw [h2]; rfl
    | 2, _ => rw [h3]; rfl
  · rw [List.getElem?_eq_none (by simp [madeCells]; omega), List.getElem?_eq_none (by rw [ztV_len]; simp; omega)]

theorem made_tr (n : Nat) : (madeCells #[.int .u8 0, .int .u16 0, .int .u16 0, .bool false] (n * 4)).toList = trV (List.replicate n (0, 0, 0)) := by
  apply List.ext_getElem?
  intro j
  by_cases hj : j < n * 4
  · rw [made_at _ _ _ hj]
    obtain ⟨k, r, hr, rfl⟩ : ∃ k r, r < 4 ∧ j = k * 4 + r := ⟨j / 4, j % 4, by omega, by omega⟩
    have hk : k < (List.replicate n ((0, 0, 0) : Zt)).length := by simp; omega
    have hkn : k < n := by omega
    obtain ⟨h1, h2, h3, h4⟩ := trV_at (List.replicate n (0, 0, 0)) k hk
    have e0 : ((List.replicate n ((0, 0, 0) : Zt))[k]?.getD (0, 0, 0)) = (0, 0, 0) := by simp [hkn]
    rw [e0] at h1 h2 h3
    have em : (k * 4 + r) % 4 = r := by omega
    show some ((#[Value.int .u8 0, .int .u16 0, .int .u16 0, .bool false] : Array Value)[(k * 4 + r) % 4]!) = _
    rw [em]
    match r, hr with
    | 0, _ => rw [Nat.add_zero, h1]; rfl
    | 1, _ => rw [h2]; rfl
    | 2, _ => rw [h3]; rfl
    | 3, _ => rw [h4]; rfl
  · rw [List.getElem?_eq_none (by simp [madeCells]; omega), List.getElem?_eq_none (by rw [trV_len]; simp; omega)]

/-- The first k of xs, then zeros. -/
def fillZ (xs : List Zt) (k : Nat) : List Zt := xs.take k ++ List.replicate (xs.length - k) (0, 0, 0)
theorem fillZ_len (xs : List Zt) (k : Nat) (h : k ≤ xs.length) : (fillZ xs k).length = xs.length := by simp [fillZ]; omega
theorem fillZ_zero (xs : List Zt) : fillZ xs 0 = List.replicate xs.length (0, 0, 0) := by simp [fillZ]
theorem fillZ_all (xs : List Zt) : fillZ xs xs.length = xs := by simp [fillZ]
theorem fillZ_step (xs : List Zt) (k : Nat) (h : k < xs.length) : (fillZ xs k).set k (xs[k]?.getD (0, 0, 0)) = fillZ xs (k + 1) := by
  unfold fillZ
  have e : xs.length - k = (xs.length - (k + 1)) + 1 := by omega
  have hl : (xs.take k).length = k := by simp; omega
  rw [List.set_append_right _ _ (by omega), hl, Nat.sub_self, e, List.replicate_succ, List.set_cons_zero, List.take_add_one, List.getElem?_eq_getElem h, List.append_assoc]
  rfl

/-- A row of ZT that the run has made. -/
def OwnZ (w : World) (base : Nat) (v : Value) (zs : List Zt) : Prop := w.ownsRow base 38 3 v zs.length (ztV zs)
/-- A row of Transform that the run has made. -/
def OwnT (w : World) (base : Nat) (v : Value) (zs : List Zt) : Prop := w.ownsRow base 56 4 v zs.length (trV zs)

theorem OwnZ.rd {w : World} {base : Nat} {v : Value} {zs : List Zt} (h : OwnZ w base v zs) : ∃ a c, v = .slice a zs.length c ∧ RdZ w a zs.length zs ∧ zs.length ≤ c := by
  rcases h.2 with ⟨h1, h0⟩ | ⟨g, cap, cur, rfl, hg, h3, h4, h5, h6, h7⟩
  · exact ⟨none, 0, by rw [h0]; exact h1, ⟨rfl, fun hn => by omega⟩, by omega⟩
  · refine ⟨some ⟨g, 0, none⟩, cap, rfl, ⟨rfl, fun _ => ⟨g, 0, rfl, fun i hi => ?_⟩⟩, h4⟩
    have key : ∀ j, j < zs.length * 3 → w.cell? ⟨g, 0 + j, none⟩ = (ztV zs)[j]? := by
      intro j hj
      rw [Nat.zero_add, cell_of_row w g _ cur 38 (0, 0) h3, ← h7, List.getElem?_take, if_pos hj]
      simp
    obtain ⟨k1, k2, k3⟩ := ztV_at zs i hi
    unfold ZtAt
    rw [Nat.add_assoc, Nat.add_assoc]
    exact ⟨(key _ (by omega)).trans k1, (key _ (by omega)).trans k2, (key _ (by omega)).trans k3⟩

theorem ownsRow_keep {w w' : World} {base : Nat} {e : TypeId} {size : Nat} {v : Value} {n : Nat} {xs : List Value} (h : w.ownsRow base e size v n xs) (hb : Below w.heap.size w w') : w'.ownsRow base e size v n xs := by
  refine ⟨h.1, ?_⟩
  rcases h.2 with h0 | ⟨g, cap, cur, rfl, hg, hh, r⟩
  · exact .inl h0
  · exact .inr ⟨g, cap, cur, rfl, hg, by rw [hb.block g (Array.getElem?_eq_some_iff.1 hh).1]; exact hh, r⟩

/-- A ZT stored at place k of a made row. -/
theorem zt_store {wr w : World} {B n k : Nat} {L : List Zt} {t : Zt} (ho : wr.ownsRow B 38 3 (.slice (some ⟨B, 0, none⟩) n n) n (ztV L)) (hL : L.length = n) (hk : k < n) (hb : Below B w wr) :
    (∃ a b c, wr.cell? ⟨B, k * 3, none⟩ = some a ∧ wr.cell? ⟨B, k * 3 + 1, none⟩ = some b ∧ wr.cell? ⟨B, k * 3 + 2, none⟩ = some c) ∧ (∀ j, wr.frozen? ⟨B, j, none⟩ = false) ∧
    (((wr.setCell ⟨B, k * 3, none⟩ (.int .u8 t.1)).setCell ⟨B, k * 3 + 1, none⟩ (.int .u16 t.2.1)).setCell ⟨B, k * 3 + 2, none⟩ (.int .u16 t.2.2)).ownsRow B 38 3 (.slice (some ⟨B, 0, none⟩) n n) n (ztV (L.set k t)) ∧
    Below B w (((wr.setCell ⟨B, k * 3, none⟩ (.int .u8 t.1)).setCell ⟨B, k * 3 + 1, none⟩ (.int .u16 t.2.1)).setCell ⟨B, k * 3 + 2, none⟩ (.int .u16 t.2.2)) := by
  obtain ⟨k1, k2, k3⟩ := ztV_at L k (by omega)
  refine ⟨⟨_, _, _, (ho.cellAt _ (by omega)).trans k1, (ho.cellAt _ (by omega)).trans k2, (ho.cellAt _ (by omega)).trans k3⟩, ho.frozenAt, ?_, ((hb.setCell (Nat.le_refl _) _).setCell (Nat.le_refl _) _).setCell (Nat.le_refl _) _⟩
  rw [ztV_set]
  exact ((((ho.stored _ _).1.stored _ _).1).stored _ _).1
theorem tr_store {wr w : World} {B n k : Nat} {L : List Zt} {t : Zt} (ho : wr.ownsRow B 56 4 (.slice (some ⟨B, 0, none⟩) n n) n (trV L)) (hL : L.length = n) (hk : k < n) (hb : Below B w wr) :
    (∃ a b c d, wr.cell? ⟨B, k * 4, none⟩ = some a ∧ wr.cell? ⟨B, k * 4 + 1, none⟩ = some b ∧ wr.cell? ⟨B, k * 4 + 2, none⟩ = some c ∧ wr.cell? ⟨B, k * 4 + 3, none⟩ = some d) ∧ (∀ j, wr.frozen? ⟨B, j, none⟩ = false) ∧
    ((((wr.setCell ⟨B, k * 4, none⟩ (.int .u8 t.1)).setCell ⟨B, k * 4 + 1, none⟩ (.int .u16 t.2.1)).setCell ⟨B, k * 4 + 2, none⟩ (.int .u16 t.2.2)).setCell ⟨B, k * 4 + 3, none⟩ (.bool false)).ownsRow B 56 4 (.slice (some ⟨B, 0, none⟩) n n) n (trV (L.set k t)) ∧
    Below B w ((((wr.setCell ⟨B, k * 4, none⟩ (.int .u8 t.1)).setCell ⟨B, k * 4 + 1, none⟩ (.int .u16 t.2.1)).setCell ⟨B, k * 4 + 2, none⟩ (.int .u16 t.2.2)).setCell ⟨B, k * 4 + 3, none⟩ (.bool false)) := by
  obtain ⟨k1, k2, k3, k4⟩ := trV_at L k (by omega)
  refine ⟨⟨_, _, _, _, (ho.cellAt _ (by omega)).trans k1, (ho.cellAt _ (by omega)).trans k2, (ho.cellAt _ (by omega)).trans k3, (ho.cellAt _ (by omega)).trans k4⟩, ho.frozenAt, ?_, (((hb.setCell (Nat.le_refl _) _).setCell (Nat.le_refl _) _).setCell (Nat.le_refl _) _).setCell (Nat.le_refl _) _⟩
  rw [trV_set]
  exact (((((ho.stored _ _).1.stored _ _).1).stored _ _).1.stored _ _).1

set_option maxHeartbeats 1000000 in
theorem clone12 (a : Option Addr) (n c : Nat) (zs : List Zt) (w : World) (h : RdZ w a n zs) (ha : a = none → n = 0) (m : n ≤ 65536) :
    Calls Try.prog 12 #[.slice a n c] w fun e w' => ∃ v, e = .returned v ∧ OwnZ w' w.heap.size v zs ∧ Below w.heap.size w w' := by
  have hq := fun w a n c => Lib.run_eql_slice_nil (P := Try.prog) w 22 38 a n c 0 0 Try.underlying22
  have hl : Hid (zs.length = n) := h.len
  obtain ⟨i0, hi, hz0, hz1, hz2⟩ := info_parts Try.info38
  rcases a with _ | x
  · have z := ha rfl
    have : zs = [] := List.eq_nil_of_length_eq_zero (by rw [hl.out]; exact z)
    subst z this
    go_enter Try.func12, Try.ntmps12
    go_wp2
    go_ret
    exact ⟨_, rfl, World.ownsRow_nil _ _ _ _, Below.refl _ _⟩
  · clear ha
    have hcase : n ≤ 0 ∨ (0 < n ∧ ∃ b off, x = ⟨b, off, none⟩ ∧ b < w.heap.size ∧ ∀ i, i < n → ZtAt w b off i (zs[i]?.getD (0, 0, 0))) := by
      rcases h.cases with h0 | ⟨h0, b, off, he, hbl, hc⟩
      · exact .inl h0
      · exact .inr ⟨h0, b, off, by cases he; rfl, hbl, hc⟩
    clear h
    rcases hcase with h0 | ⟨h0, b, off, rfl, hbl, hc⟩
    all_goals
      go_enter Try.func12, Try.ntmps12
      go_wp2_with (first | (at_make; refine wpList_make_full _ rfl _ _ 22 rfl w.heap.size 38 i0 (.agg #[.int .u8 0, .int .u16 0, .int .u16 0]) 3 Try.underlying22 hi hz0 hz1 .i64 .i64 _ _ n rfl rfl rfl rfl (by rw [hz2]; omega) (by unfold maxLen; omega) (Nat.le_refl _) ?_) | go_in)
      intro w1 ho hg
      have hb : Below w.heap.size w w1 := (Below.refl _ _).grown hg (Nat.le_refl _) (by simp)
      have ho0 : w1.ownsRow w.heap.size 38 3 (.slice (some ⟨w.heap.size, 0, none⟩) n n) n (ztV (fillZ zs 0)) := by
        rw [fillZ_zero, hl.out, ← made_zt]; exact ho
      clear ho hg
      go_wp2
      go_loopw [4] (fun i wr => ∃ k : Nat, k ≤ n ∧ i = .int .i64 k ∧ wr.ownsRow w.heap.size 38 3 (.slice (some ⟨w.heap.size, 0, none⟩) n n) n (ztV (fillZ zs k)) ∧ Below w.heap.size w wr) (fun i _ => n - (intOf i).toNat)
      case atStart => exact ⟨0, Nat.zero_le _, rfl, ho0, hb⟩
      case round =>
        clear ho0 hb
        obtain ⟨k, hk, rfl, ho, hb⟩ := hrel
        by_cases hlt : k < n
        · try (exfalso; omega)
          all_goals
            obtain ⟨⟨o1, o2, o3, s1, s2, s3⟩, hf, hown, hbel⟩ := zt_store (t := zs[k]?.getD (0, 0, 0)) ho (by rw [fillZ_len _ _ (by rw [hl.out]; exact hk), hl.out]) hlt hb
            rw [fillZ_step _ _ (by rw [hl.out]; exact hlt)] at hown
            obtain ⟨q1, q2, q3⟩ := (hc k hlt).later hb hbl
            have f1 := hf (k * 3)
            have f2 := hf (k * 3 + 1)
            have f3 := hf (k * 3 + 2)
            clear hc ho hb hf
            generalize zs[k]?.getD (0, 0, 0) = t at *
            obtain ⟨x, y, z⟩ := t
            go_wp2
            go_roundw
            case rel => exact ⟨k + 1, by omega, by go_num, hown, hbel⟩
            case measure => simp [intOf]; omega
        · have e : Hid (k = zs.length) := by have := hl.out; show k = zs.length; omega
          go_wp2
          go_ret
          refine ⟨_, rfl, ?_, hb⟩
          rw [e.out, fillZ_all] at ho
          unfold OwnZ
          rw [hl.out]
          exact ho

set_option maxHeartbeats 2000000 in
theorem trans34 (a : Option Addr) (n c : Nat) (zs : List Zt) (w : World) (h : RdZ w a n zs) (ha : a = none → n = 0) (m : n ≤ 65536) :
    Calls Try.prog 34 #[.slice a n c] w fun e w' => ∃ v, e = .returned v ∧ OwnT w' w.heap.size v zs ∧ Below w.heap.size w w' := by
  have hq := fun w a n c => Lib.run_eql_slice_nil (P := Try.prog) w 22 38 a n c 0 0 Try.underlying22
  have hl : Hid (zs.length = n) := h.len
  obtain ⟨i0, hi, hz0, hz1, hz2⟩ := info_parts Try.info56
  rcases a with _ | x
  · have z := ha rfl
    have : zs = [] := List.eq_nil_of_length_eq_zero (by rw [hl.out]; exact z)
    subst z this
    go_enter Try.func34, Try.ntmps34
    go_wp2
    go_ret
    exact ⟨_, rfl, World.ownsRow_nil _ _ _ _, Below.refl _ _⟩
  · clear ha
    have hcase : n ≤ 0 ∨ (0 < n ∧ ∃ b off, x = ⟨b, off, none⟩ ∧ b < w.heap.size ∧ ∀ i, i < n → ZtAt w b off i (zs[i]?.getD (0, 0, 0))) := by
      rcases h.cases with h0 | ⟨h0, b, off, he, hbl, hc⟩
      · exact .inl h0
      · exact .inr ⟨h0, b, off, by cases he; rfl, hbl, hc⟩
    clear h
    rcases hcase with h0 | ⟨h0, b, off, rfl, hbl, hc⟩
    all_goals
      go_enter Try.func34, Try.ntmps34
      go_wp2_with (first | (at_make; refine wpList_make_full _ rfl _ _ 28 rfl w.heap.size 56 i0 (.agg #[.int .u8 0, .int .u16 0, .int .u16 0, .bool false]) 4 Try.underlying28 hi hz0 hz1 .i64 .i64 _ _ n rfl rfl rfl rfl (by rw [hz2]; omega) (by unfold maxLen; omega) (Nat.le_refl _) ?_) | go_in)
      intro w1 ho hg
      have hb : Below w.heap.size w w1 := (Below.refl _ _).grown hg (Nat.le_refl _) (by simp)
      have ho0 : w1.ownsRow w.heap.size 56 4 (.slice (some ⟨w.heap.size, 0, none⟩) n n) n (trV (fillZ zs 0)) := by
        rw [fillZ_zero, hl.out, ← made_tr]; exact ho
      clear ho hg
      go_wp2
      go_loopw [4] (fun i wr => ∃ k : Nat, k ≤ n ∧ i = .int .i64 k ∧ wr.ownsRow w.heap.size 56 4 (.slice (some ⟨w.heap.size, 0, none⟩) n n) n (trV (fillZ zs k)) ∧ Below w.heap.size w wr) (fun i _ => n - (intOf i).toNat)
      case atStart => exact ⟨0, Nat.zero_le _, rfl, ho0, hb⟩
      case round =>
        clear ho0 hb
        obtain ⟨k, hk, rfl, ho, hb⟩ := hrel
        by_cases hlt : k < n
        · try (exfalso; omega)
          all_goals
            obtain ⟨⟨o1, o2, o3, o4, s1, s2, s3, s4⟩, hf, hown, hbel⟩ := tr_store (t := zs[k]?.getD (0, 0, 0)) ho (by rw [fillZ_len _ _ (by rw [hl.out]; exact hk), hl.out]) hlt hb
            rw [fillZ_step _ _ (by rw [hl.out]; exact hlt)] at hown
            obtain ⟨q1, q2, q3⟩ := (hc k hlt).later hb hbl
            have f1 := hf (k * 4)
            have f2 := hf (k * 4 + 1)
            have f3 := hf (k * 4 + 2)
            have f4 := hf (k * 4 + 3)
            have hi1 : (k : Int) < (n : Int) := by omega
            clear hc ho hb hf
            generalize zs[k]?.getD (0, 0, 0) = t at *
            obtain ⟨x, y, z⟩ := t
            go_wp2
            go_region
            go_wp2
            go_roundw
            case rel => exact ⟨k + 1, by omega, by go_num, hown, hbel.drew⟩
            case measure => simp [intOf]; omega
        · have e : Hid (k = zs.length) := by have := hl.out; show k = zs.length; omega
          go_wp2
          go_ret
          refine ⟨_, rfl, ?_, hb⟩
          rw [e.out, fillZ_all] at ho
          unfold OwnT
          rw [hl.out]
          exact ho
end Go.Proofs.Qxb6600185a
