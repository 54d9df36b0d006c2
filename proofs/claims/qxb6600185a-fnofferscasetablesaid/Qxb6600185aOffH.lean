/-
  The law on offers of a proposal to itself (4).
-/
import Derived.Test.Qxb6600185aOffG
import Derived.Deep.DeepAppendRoom
namespace Go.Proofs.Qxb6600185a
open Go.RowKit

theorem OwnZ.rdn {w : World} {base : Nat} {v : Value} {zs : List Zt} (h : OwnZ w base v zs) : ∃ a c, v = .slice a zs.length c ∧ RdZ w a zs.length zs ∧ zs.length ≤ c ∧ (a = none → zs.length = 0) := by
  obtain ⟨a, c, e, r, l⟩ := h.rd
  refine ⟨a, c, e, r, l, fun ha => ?_⟩
  rcases r.cases with h0 | ⟨_, b, off, e', _⟩
  · omega
  · rw [ha] at e'; cases e'
theorem OwnT.prop {w : World} {base : Nat} {v : Value} {zs : List Zt} (h : OwnT w base v zs) (hn : zs.length ≤ 65536) (ty : ∀ t ∈ zs, 0 ≤ t.1 ∧ t.1 ≤ 255) : ∃ a c, v = .slice a zs.length c ∧ PropT w a zs.length c zs := by
  obtain ⟨a, c, e, r, l, hc⟩ := h.rd
  refine ⟨a, c, e, r, fun ha => by have := hc ha; omega, hn, l, ?_, ty⟩
  rcases h.2 with ⟨h1, h0⟩ | ⟨g, cap, cur, e', _, _, _, h5, _, _⟩
  · rw [h1] at e; injection e with _ _ e3; rw [← e3]; decide
  · rw [e'] at e; injection e with _ _ e3; rw [← e3]; exact h5

theorem zt_cells (w : World) (x y z : Int) (j : Nat) (u : Value) (hj : ([.int .u8 x, .int .u16 y, .int .u16 z] : List Value)[j]? = some u) : (w.alloc (.cells #[.int .u8 x, .int .u16 y, .int .u16 z] 38)).cell? ((⟨w.heap.size, 0, none⟩ : Addr).add j) = some u := by
  rw [Addr.add_lit, Nat.zero_add, cell_of_row _ w.heap.size _ #[.int .u8 x, .int .u16 y, .int .u16 z] 38 (0, 0) (heap_alloc_new w _), ← hj]
  simp

/-- What stands from the first proposal's box on. -/
structure Sf (w W : World) (B : Nat) (v0 v1 v2 : Value) (a : Option Addr) (n : Nat) (at' : Option Addr) (ct : Nat) (zs : List Zt) : Prop where
  bel : Below w.heap.size w W
  lo : w.heap.size ≤ B
  hi : B < W.heap.size
  rz : RdZ W a n zs
  pt : PropT W at' n ct zs
  box : W.cell? ⟨B, 0, none⟩ = some v0 ∧ W.cell? ⟨B, 1, none⟩ = some v1 ∧ W.cell? ⟨B, 2, none⟩ = some v2 ∧ W.cell? ⟨B, 3, none⟩ = some (.slice at' n ct)
theorem Sf.later {w W W' : World} {B : Nat} {v0 v1 v2 : Value} {a : Option Addr} {n : Nat} {at' : Option Addr} {ct : Nat} {zs : List Zt} (h : Sf w W B v0 v1 v2 a n at' ct zs) (hb : Below W.heap.size W W') : Sf w W' B v0 v1 v2 a n at' ct zs := by
  have c : ∀ o, W'.cell? ⟨B, o, none⟩ = W.cell? ⟨B, o, none⟩ := fun o => hb.cell (p := ⟨B, o, none⟩) h.hi
  refine ⟨h.bel.trans (hb.mono h.bel.size), h.lo, by have := hb.size; have := h.hi; omega, h.rz.later hb, h.pt.later hb, ?_⟩
  simp only [c]; exact h.box
theorem box_cells (w : World) (c0 c1 c2 c3 : Value) :
    (w.alloc (.cells #[c0, c1, c2, c3] 30)).cell? ⟨w.heap.size, 0, none⟩ = some c0 ∧ (w.alloc (.cells #[c0, c1, c2, c3] 30)).cell? ⟨w.heap.size, 1, none⟩ = some c1 ∧ (w.alloc (.cells #[c0, c1, c2, c3] 30)).cell? ⟨w.heap.size, 2, none⟩ = some c2 ∧ (w.alloc (.cells #[c0, c1, c2, c3] 30)).cell? ⟨w.heap.size, 3, none⟩ = some c3 := by
  obtain ⟨h0, h1, h2, h3, _⟩ := block_cells (w := w) (c0 := c0) (c1 := c1) (c2 := c2) (c3 := c3) (Below.refl _ _)
  exact ⟨h0, h1, h2, h3⟩

theorem take_snoc (zs : List Zt) (k : Nat) (h : k < zs.length) : zs.take (k + 1) = zs.take k ++ [zs[k]?.getD (0, 0, 0)] := by
  rw [List.take_add_one, List.getElem?_eq_getElem h]; rfl
/-- NONE put in at place p, as far as element k. -/
def partN (zs : List Zt) (p k : Nat) : List Zt := zs.take p ++ ((4, 0, 0) :: (zs.drop p).take (k - p))
theorem partN_step (zs : List Zt) (p k : Nat) (hp : p ≤ k) (h : k < zs.length) : partN zs p (k + 1) = partN zs p k ++ [zs[k]?.getD (0, 0, 0)] := by
  unfold partN
  have e : k + 1 - p = (k - p) + 1 := by omega
  rw [e, take_snoc (zs.drop p) (k - p) (by simp; omega), List.getElem?_drop, show p + (k - p) = k by omega]
  simp
theorem partN_all (zs : List Zt) (p : Nat) : partN zs p zs.length = withN zs p := by
  unfold partN withN
  rw [List.take_of_length_le (l := zs.drop p) (by simp)]
theorem partN_start (zs : List Zt) (p : Nat) : partN zs p p = zs.take p ++ [(4, 0, 0)] := by simp [partN]

theorem ty_withN {zs : List Zt} (p : Nat) (h : ∀ t ∈ zs, 0 ≤ t.1 ∧ t.1 ≤ 255) : ∀ t ∈ withN zs p, 0 ≤ t.1 ∧ t.1 ≤ 255 := by
  intro t ht
  rcases List.mem_append.1 ((withN_mem zs p t).1 ht) with h1 | h1
  · exact h t h1
  · simp at h1; subst h1; simp

/-- One more ZT: the row's cells behind an append. -/
theorem ownZ_snoc {w : World} {B n c : Nat} {L : List Zt} {t : Zt} (ho : w.ownsRow B 38 3 (.slice (some ⟨B, 0, none⟩) (n + 1) c) (n + 1) (ztV L ++ [.int .u8 t.1, .int .u16 t.2.1, .int .u16 t.2.2])) : w.ownsRow B 38 3 (.slice (some ⟨B, 0, none⟩) (n + 1) c) (n + 1) (ztV (L ++ [t])) := by
  rw [ztV_append]; exact ho

set_option maxHeartbeats 4000000 in
theorem self4 (p q : Int) (a0 : Option Addr) (n0 c0 : Nat) (a : Option Addr) (n c : Nat) (r : Int) (zs : List Zt) (w : World) (hs : RdB w a0 n0) (h : RdZ w a n zs) (ha : a = none → n = 0) (m0 : n0 ≤ 9223372036854775807) (m1 : n ≤ 9223372036854775807) (hr : 0 ≤ r) (hr' : r ≤ 65535) (ty : ∀ t ∈ zs, 0 ≤ t.1 ∧ t.1 ≤ 255) :
    Calls Try.prog 4 #[.int .u8 p, .int .u8 q, .slice a0 n0 c0, .slice a n c, .int .u16 r] w fun e w' => e = .returned (.bool true) ∧ Below w.heap.size w w' := by
  have hl : Hid (zs.length = n) := h.len
  have H : Hid (RdZ w a n zs) := h
  have HS : Hid (RdB w a0 n0) := hs
  have HA : Hid (a = none → n = 0) := ha
  have HT : Hid (∀ t ∈ zs, 0 ≤ t.1 ∧ t.1 ≤ 255) := ty
  obtain ⟨i0, hi, hz0, hz1, hz2⟩ := info_parts Try.info38
  clear h hs ha ty
  go_enter Try.func4, Try.ntmps4
  go_wp2_with fail
  refine (zzb16 p q a0 a n0 n c0 c r w m0 m1).mono ?_
  rintro e w0 ⟨⟨b0, rfl⟩, rfl⟩
  cases b0 with
  | false =>
    go_wp2
    go_ret
    exact ⟨rfl, Below.refl _ _⟩
  | true =>
    by_cases hbig : 65536 < n0 ∨ 4096 < n
    · rcases hbig with hbig | hbig
      · go_wp2
        go_ret
        exact ⟨rfl, Below.refl _ _⟩
      · by_cases hb2 : 65536 < n0
        · go_wp2
          go_ret
          exact ⟨rfl, Below.refl _ _⟩
        · go_wp2
          go_ret
          exact ⟨rfl, Below.refl _ _⟩
    · have g0 : n0 ≤ 65536 := by omega
      have g1 : n ≤ 4096 := by omega
      clear hbig
      go_wp2_with fail
      refine (clone17 a0 n0 c0 w0 HS.out g0).mono ?_
      rintro e w1 ⟨a1, c1, rfl, b1⟩
      go_wp2_with fail
      refine (clone12 a n c zs w1 (H.out.later b1) HA.out (by omega)).mono ?_
      rintro e w2 ⟨v2, rfl, o2, b2⟩
      obtain ⟨a2, c2, e2, r2, _, nz2⟩ := o2.rdn
      subst e2
      have R2 : Hid (RdZ w2 a2 zs.length zs) := r2
      have NZ : Hid (a2 = none → zs.length = 0) := nz2
      have hlen := hl.out
      have B2 : Hid (Below w0.heap.size w0 w2) := b1.trans (b2.mono b1.size)
      clear o2 r2 nz2 b1 b2 H HS HA
      generalize hN : zs.length = N at *
      have HN : Hid (zs.length = N) := hN
      clear hN hl
      subst hlen
      go_wp2_with fail
      refine (prop18 p q a1 n0 c1 a2 N c2 zs w2 R2.out NZ.out (by omega)).mono ?_
      rintro e w3 ⟨v3, rfl, o3, b3⟩
      obtain ⟨a3, c3, e3, pt3⟩ := o3.prop (by rw [HN.out]; omega) HT.out
      subst e3
      rw [HN.out] at pt3
      rw [HN.out]
      have S4 : Hid (Sf w0 (w3.alloc (.cells #[.int .u8 q, .int .u8 p, .slice a1 n0 c1, .slice a3 N c3] 30)) w3.heap.size (.int .u8 q) (.int .u8 p) (.slice a1 n0 c1) a2 N a3 c3 zs) := by
        have bA : Below w3.heap.size w3 (w3.alloc (.cells #[.int .u8 q, .int .u8 p, .slice a1 n0 c1, .slice a3 N c3] 30)) := (Below.refl _ _).alloc (Nat.le_refl _) _
        exact ⟨(B2.out.trans (b3.mono B2.out.size)).alloc (Nat.le_trans B2.out.size b3.size) _, Nat.le_trans B2.out.size b3.size, by simp, (R2.out.later b3).later bA, pt3.later bA, box_cells _ _ _ _ _⟩
      clear o3 pt3 b3 B2 R2
      go_wp2_with fail
      generalize hB : w3.heap.size = B at *
      generalize w3.alloc (.cells #[.int .u8 q, .int .u8 p, .slice a1 n0 c1, .slice a3 N c3] 30) = W4 at *
      clear hB
      have T1 : offersB p zs p zs = true := offersB_same p fun _ => Iff.rfl
      refine (zzoffers13 q p q p a1 a1 n0 c1 n0 c1 a3 a3 N c3 N c3 zs zs W4 S4.out.pt S4.out.pt).mono ?_
      rintro e w5 ⟨rfl, b5⟩
      rw [T1]
      have S5 : Hid (Sf w0 w5 B (.int .u8 q) (.int .u8 p) (.slice a1 n0 c1) a2 N a3 c3 zs) := S4.out.later b5
      clear T1 b5 S4
      go_wp2_with fail
      refine (hasType19 a2 N c2 zs 4 w5 S5.out.rz (by omega)).mono ?_
      rintro e w6 ⟨rfl, rfl⟩
      cases hty : hasTy zs 4 with
      | true =>
        have B5 := S5.out.bel
        go_wp2
        go_ret
        exact ⟨rfl, B5⟩
      | false =>
        have HTY : Hid (hasTy zs 4 = false) := hty
        clear hty
        obtain ⟨P, hP, hP'⟩ : ∃ P : Nat, r.tmod ((N : Int) + 1) = (P : Int) ∧ P ≤ N := by
          have e1 : r.tmod ((N : Int) + 1) = r % ((N : Int) + 1) := Int.tmod_eq_emod_of_nonneg hr
          have h1 : 0 ≤ r % ((N : Int) + 1) := Int.emod_nonneg _ (by omega)
          have h2 : r % ((N : Int) + 1) < (N : Int) + 1 := Int.emod_lt_of_pos _ (by omega)
          exact ⟨(r % ((N : Int) + 1)).toNat, by rw [e1]; omega, by omega⟩
        go_wp2_with (first | (at_make; refine wpList_make_own _ rfl _ _ 22 rfl w6.heap.size 38 i0 (.agg #[.int .u8 0, .int .u16 0, .int .u16 0]) 3 Try.underlying22 hi hz0 hz1 .i64 .i64 _ (N + 1) rfl rfl (by omega) (by rw [hz2]; omega) (by unfold maxLen; omega) (Nat.le_refl _) ?_) | go_in)
        intro w7 o7 g7
        have b7 : Below w6.heap.size w6 w7 := (Below.refl _ _).grown g7 (Nat.le_refl _) (by simp)
        clear g7
        go_wp2
        go_loopw [13, 14] (fun s i wr => ∃ k : Nat, k ≤ P ∧ s = .slice (some ⟨w6.heap.size, 0, none⟩) k (N + 1) ∧ i = .int .i64 k ∧ wr.ownsRow w6.heap.size 38 3 (.slice (some ⟨w6.heap.size, 0, none⟩) k (N + 1)) k (ztV (zs.take k)) ∧ Below w6.heap.size w6 wr) (fun _ i _ => P - (intOf i).toNat)
        case atStart => exact ⟨0, Nat.zero_le _, rfl, rfl, o7, b7⟩
        case round =>
          clear o7 b7
          obtain ⟨k, hk, rfl, rfl, ho, hb⟩ := hrel
          by_cases hlt : k < P
          · obtain ⟨b, off, e2, hbl, hc⟩ : ∃ b off, a2 = some ⟨b, off, none⟩ ∧ b < w6.heap.size ∧ ∀ i, i < N → ZtAt w6 b off i (zs[i]?.getD (0, 0, 0)) := by
              rcases S5.out.rz.cases with h0 | ⟨_, b, off, e, h1, h2⟩
              · omega
              · exact ⟨b, off, e, h1, h2⟩
            subst e2
            obtain ⟨q1, q2, q3⟩ := (hc k (by omega)).later hb hbl
            have ET : Hid (zs.take (k + 1) = zs.take k ++ [zs[k]?.getD (0, 0, 0)]) := take_snoc zs k (by rw [HN.out]; omega)
            have hi1 : (k : Int) < (N : Int) := by omega
            have hsz := hb.size
            clear hc
            generalize zs[k]?.getD (0, 0, 0) = t at *
            obtain ⟨x, y, z⟩ := t
            go_wp2_with (first | (at_builtin; refine wpList_append_own_spare _ rfl _ _ 22 rfl w6.heap.size 38 i0 3 Try.underlying22 hi hz1 w6.heap.size k (N + 1) _ rfl (ho.alloc _) ⟨wr.heap.size, 0, none⟩ 1 1 [.int .u8 x, .int .u16 y, .int .u16 z] rfl rfl (zt_cells wr x y z) (fun u hu => by simp at hu; rcases hu with rfl | rfl | rfl <;> rfl) (by omega) ?_) | go_in)
            intro w8 o8 g8
            have b8 : Below w6.heap.size w6 w8 := (hb.alloc hsz _).grown g8 (by simp; omega) (by intro k hk; simp at hk; omega)
            have O8 := ownZ_snoc (t := (x, y, z)) o8
            rw [← ET.out] at O8
            clear o8 g8 ho hb q1 q2 q3
            go_wp2
            go_roundw
            case rel => exact ⟨k + 1, by omega, rfl, by go_num, O8, b8⟩
            case measure => simp [intOf]; omega
          · have hkP : k = P := by omega
            subst hkP
            have hsz := hb.size
            go_wp2_with (first | (at_builtin; refine wpList_append_own_spare _ rfl _ _ 22 rfl w6.heap.size 38 i0 3 Try.underlying22 hi hz1 w6.heap.size k (N + 1) _ rfl (ho.alloc _) ⟨wr.heap.size, 0, none⟩ 1 1 [.int .u8 4, .int .u16 0, .int .u16 0] rfl rfl (zt_cells wr 4 0 0) (fun u hu => by simp at hu; rcases hu with rfl | rfl <;> rfl) (by omega) ?_) | go_in)
            intro w8 o8 g8
            have b8 : Below w6.heap.size w6 w8 := (hb.alloc hsz _).grown g8 (by simp; omega) (by intro k hk; simp at hk; omega)
            have O8 := ownZ_snoc (t := (4, 0, 0)) o8
            rw [← partN_start] at O8
            clear o8 g8 ho hb hsz
            go_wp2
            go_loopw [13, 15] (fun s i wr => ∃ j : Nat, k ≤ j ∧ j ≤ N ∧ s = .slice (some ⟨w6.heap.size, 0, none⟩) (j + 1) (N + 1) ∧ i = .int .i64 j ∧ wr.ownsRow w6.heap.size 38 3 (.slice (some ⟨w6.heap.size, 0, none⟩) (j + 1) (N + 1)) (j + 1) (ztV (partN zs k j)) ∧ Below w6.heap.size w6 wr) (fun _ i _ => N - (intOf i).toNat)
            case atStart => exact ⟨k, Nat.le_refl _, hP', rfl, rfl, O8, b8⟩
            case round =>
              clear O8 b8 hlt hk
              obtain ⟨j, hkj, hj, rfl, rfl, ho, hb⟩ := hrel
              have hsz := hb.size
              by_cases hlt : j < N
              · obtain ⟨b, off, e2, hbl, hc⟩ : ∃ b off, a2 = some ⟨b, off, none⟩ ∧ b < w6.heap.size ∧ ∀ i, i < N → ZtAt w6 b off i (zs[i]?.getD (0, 0, 0)) := by
                  rcases S5.out.rz.cases with h0 | ⟨_, b, off, e, h1, h2⟩
                  · omega
                  · exact ⟨b, off, e, h1, h2⟩
                subst e2
                obtain ⟨q1, q2, q3⟩ := (hc j hlt).later hb hbl
                have ET : Hid (partN zs k (j + 1) = partN zs k j ++ [zs[j]?.getD (0, 0, 0)]) := partN_step zs k j hkj (by rw [HN.out]; omega)
                have hi1 : (j : Int) < (N : Int) := by omega
                clear hc
                generalize zs[j]?.getD (0, 0, 0) = t at *
                obtain ⟨x, y, z⟩ := t
                go_wp2_with (first | (at_builtin; refine wpList_append_own_spare _ rfl _ _ 22 rfl w6.heap.size 38 i0 3 Try.underlying22 hi hz1 w6.heap.size (j + 1) (N + 1) _ rfl (ho.alloc _) ⟨wr.heap.size, 0, none⟩ 1 1 [.int .u8 x, .int .u16 y, .int .u16 z] rfl rfl (zt_cells wr x y z) (fun u hu => by simp at hu; rcases hu with rfl | rfl | rfl <;> rfl) (by omega) ?_) | go_in)
                intro w9 o9 g9
                have b9 : Below w6.heap.size w6 w9 := (hb.alloc hsz _).grown g9 (by simp; omega) (by intro k hk; simp at hk; omega)
                have O9 := ownZ_snoc (t := (x, y, z)) o9
                rw [← ET.out] at O9
                clear o9 g9 ho hb q1 q2 q3
                go_wp2
                go_roundw
                case rel => exact ⟨j + 1, by omega, by omega, rfl, by go_num, O9, b9⟩
                case measure => simp [intOf]; omega
              · have hjN : j = N := by omega
                have OZ : OwnZ wr w6.heap.size (.slice (some ⟨w6.heap.size, 0, none⟩) (N + 1) (N + 1)) (withN zs k) := by
                  have e := partN_all zs k
                  rw [HN.out] at e
                  rw [hjN, e] at ho
                  unfold OwnZ
                  rw [withN_len, HN.out]
                  exact ho
                obtain ⟨a9, c9, e9, r9, _, nz9⟩ := OZ.rdn
                have e9' : a9 = some ⟨w6.heap.size, 0, none⟩ := by injection e9 with h1 _ _; exact h1.symm
                subst e9'
                have SW := S5.out.later hb
                have hwl : Hid ((withN zs k).length = N + 1) := by show _ = _; rw [withN_len, HN.out]
                rw [hwl.out] at r9
                have R9 : Hid (RdZ wr (some ⟨w6.heap.size, 0, none⟩) (N + 1) (withN zs k)) := r9
                have S9 : Hid (Sf w0 wr B (.int .u8 q) (.int .u8 p) (.slice a1 n0 c1) a2 N a3 c3 zs) := SW
                subst hjN
                clear OZ e9 nz9 r9 SW ho hb hsz S5 hkj hj hlt
                go_wp2_with fail
                refine (prop18 p _ a1 n0 c1 _ (j + 1) _ (withN zs k) wr R9.out (by intro h; cases h) (by omega)).mono ?_
                rintro e w10 ⟨v10, rfl, o10, b10⟩
                obtain ⟨a10, c10, e10, pt10⟩ := o10.prop (by rw [hwl.out]; omega) (ty_withN k HT.out)
                subst e10
                rw [hwl.out] at pt10
                rw [hwl.out]
                have bA : Below w10.heap.size w10 (w10.alloc (.cells #[.int .u8 ((q + 1) % 256), .int .u8 p, .slice a1 n0 c1, .slice a10 (j + 1) c10] 30)) := (Below.refl _ _).alloc (Nat.le_refl _) _
                have S11 := (S9.out.later b10).later bA
                have PT := pt10.later bA
                obtain ⟨f0, f1, f2, f3⟩ := box_cells w10 (.int .u8 ((q + 1) % 256)) (.int .u8 p) (.slice a1 n0 c1) (.slice a10 (j + 1) c10)
                have hlt16 : w10.heap.size < (w10.alloc (.cells #[.int .u8 ((q + 1) % 256), .int .u8 p, .slice a1 n0 c1, .slice a10 (j + 1) c10] 30)).heap.size := by simp
                obtain ⟨k0, k1, k2, k3⟩ := S11.box
                clear S9 R9 o10 pt10 b10 bA
                go_wp2_with fail
                generalize w10.heap.size = D at *
                generalize w10.alloc (.cells #[.int .u8 ((q + 1) % 256), .int .u8 p, .slice a1 n0 c1, .slice a10 (j + 1) c10] 30) = W11 at *
                generalize (q + 1) % 256 = q' at *
                have T1 : offersB p zs p (withN zs k) = true := offersB_same p fun t => expl_mem k HTY.out t
                have T2 : offersB p (withN zs k) p zs = true := offersB_same p fun t => (expl_mem k HTY.out t).symm
                have T3 : offersB p (withN zs k) p (withN zs k) = true := offersB_same p fun t => Iff.rfl
                refine (zzoffers13 q p q' p a1 a1 n0 c1 n0 c1 a3 a10 j c3 (j + 1) c10 zs (withN zs k) W11 S11.pt PT).mono ?_
                rintro e w12 ⟨rfl, b12⟩
                rw [T1]
                have S12 := S11.later b12
                have PT12 := PT.later b12
                obtain ⟨k0', k1', k2', k3'⟩ := S12.box
                have f0' := (b12.cell (p := ⟨D, 0, none⟩) hlt16).trans f0
                have f1' := (b12.cell (p := ⟨D, 1, none⟩) hlt16).trans f1
                have f2' := (b12.cell (p := ⟨D, 2, none⟩) hlt16).trans f2
                have f3' := (b12.cell (p := ⟨D, 3, none⟩) hlt16).trans f3
                have hlt12 := Nat.lt_of_lt_of_le hlt16 b12.size
                clear S11 PT b12 f0 f1 f2 f3 k0 k1 k2 k3 hlt16 T1
                go_wp2_with fail
                refine (zzoffers13 q' p q p a1 a1 n0 c1 n0 c1 a10 a3 (j + 1) c10 j c3 (withN zs k) zs w12 PT12 S12.pt).mono ?_
                rintro e w13 ⟨rfl, b13⟩
                rw [T2]
                have B13 := (S12.later b13).bel
                have PT13 := PT12.later b13
                have f0 := (b13.cell (p := ⟨D, 0, none⟩) hlt12).trans f0'
                have f1 := (b13.cell (p := ⟨D, 1, none⟩) hlt12).trans f1'
                have f2 := (b13.cell (p := ⟨D, 2, none⟩) hlt12).trans f2'
                have f3 := (b13.cell (p := ⟨D, 3, none⟩) hlt12).trans f3'
                clear S12 PT12 b13 f0' f1' f2' f3' k0' k1' k2' k3' hlt12 T2
                go_wp2_with fail
                refine (zzoffers13 q' p q' p a1 a1 n0 c1 n0 c1 a10 a10 (j + 1) c10 (j + 1) c10 (withN zs k) (withN zs k) w13 PT13 PT13).mono ?_
                rintro e w14 ⟨rfl, b14⟩
                rw [T3]
                have B14 := B13.trans (b14.mono B13.size)
                clear B13 b14 PT13 T3 f0 f1 f2 f3
                go_wp2
                go_ret
                exact ⟨rfl, B14⟩
end Go.Proofs.Qxb6600185a
