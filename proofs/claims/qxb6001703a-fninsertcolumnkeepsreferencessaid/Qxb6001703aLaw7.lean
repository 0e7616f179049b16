/- The walk of 'FnInsertColumnKeepsReferences'. -/
import Derived.Test.Qxb6001703aSame
import Derived.Test.Qxb6001703aByt
namespace Go.Proofs.Qxb6001703a
open Go.ChangeShapes Go.WideShapes Go.ChangeAt Go.RowKit
set_option linter.unusedSimpArgs false

/-! ### The plain law: where a position goes, and what stands there -/
theorem mv_in (i n : Nat) (z : Int) (_h0 : 0 ≤ z) (h1 : z < (n : Int)) (hn : n ≤ 65536) : mv i z = if (i : Int) ≤ z then z + 1 else z := by
  unfold mv
  by_cases h : (i : Int) ≤ z
  · rw [if_pos h, if_pos h]; unfold wrap64; omega
  · rw [if_neg h, if_neg h]
theorem mv_bounds (i n : Nat) (z : Int) (h0 : 0 ≤ z) (h1 : z < (n : Int)) (hn : n ≤ 65536) : 0 ≤ mv i z ∧ mv i z < ((n + 1 : Nat) : Int) ∧ mv i z ≠ (i : Int) := by
  rw [mv_in i n z h0 h1 hn]
  by_cases h : (i : Int) ≤ z
  · rw [if_pos h]; omega
  · rw [if_neg h]; omega
theorem insN_mv {α : Type} (f : Nat → α) (x : α) (i n : Nat) (z : Int) (h0 : 0 ≤ z) (h1 : z < (n : Int)) (hn : n ≤ 65536) : insN f x i (mv i z).toNat = f z.toNat := by
  rw [mv_in i n z h0 h1 hn]
  unfold insN
  by_cases h : (i : Int) ≤ z
  · rw [if_pos h, if_neg (by omega), if_neg (by omega)]
    congr 1
    omega
  · rw [if_neg h, if_pos (by omega)]
theorem insN_at {α : Type} (f : Nat → α) (x : α) (i : Nat) : insN f x i i = x := by unfold insN; rw [if_neg (by omega), if_pos rfl]
theorem insN_lo {α : Type} (f : Nat → α) (x : α) (i k : Nat) (h : k < i) : insN f x i k = f k := by unfold insN; rw [if_pos h]
theorem insN_hi {α : Type} (f : Nat → α) (x : α) (i k : Nat) (h : i ≤ k) : insN f x i (k + 1) = f k := by
  unfold insN
  rw [if_neg (by omega), if_neg (by omega)]
  rfl
theorem mv_none (i : Nat) : mv i (-1) = -1 := by unfold mv; rw [if_neg (by omega)]

set_option maxRecDepth 100000 in
set_option maxHeartbeats 16000000 in
theorem insertLaw_any (s0 : ByteArray) (a1 : Option Addr) (n1 c1 : Nat) (z1 : Nat → ByteArray) (a2 : Option Addr) (n2 c2 : Nat) (z2 : Nat → Int) (a3 : Option Addr) (n3 c3 : Nat) (z3 : Nat → Int) (a4 : Option Addr) (n4 c4 : Nat) (z4 : Nat → Int) (i5 i6 : Int) (s7 : ByteArray) (w : World)
    (l0 : s0.size ≤ 9223372036854775807) (l1 : n1 ≤ 9223372036854775807) (r1 : Reads w a1 n1 (fun i => .string (z1 i))) (y1 : ∀ i, i < n1 → (z1 i).size ≤ 9223372036854775807) (l2 : n2 ≤ 9223372036854775807) (r2 : Reads w a2 n2 (fun i => .int .i64 (z2 i)))
    (l3 : n3 ≤ 9223372036854775807) (r3 : Reads w a3 n3 (fun i => .int .i64 (z3 i))) (l4 : n4 ≤ 9223372036854775807) (r4 : Reads w a4 n4 (fun i => .int .i64 (z4 i))) (l7 : s7.size ≤ 9223372036854775807) :
    Calls Try.prog 7 #[.string s0, .slice a1 n1 c1, .slice a2 n2 c2, .slice a3 n3 c3, .slice a4 n4 c4, .int .i64 i5, .int .i64 i6, .string s7] w fun e w' => e = .returned (.bool true) ∧ Below w.heap.size w w' := by
  go_enter Try.func7, Try.ntmps7
  go_wp2_with fail
  refine (bytes7_any s0 a1 n1 c1 z1 a2 n2 c2 a3 n3 c3 a4 n4 c4 i5 i6 s7 _ l0 l1 r1 y1 l2 l3 l4 l7).mono ?_
  rintro e w1 ⟨⟨b, rfl⟩, rfl⟩
  cases b
  · go_wp2_with fail
    go_ret
    exact ⟨rfl, Below.refl _ _⟩
  by_cases q0 : s0.size ≤ 65536
  rotate_left
  · go_wp2_with fail
    go_ret
    exact ⟨rfl, Below.refl _ _⟩
  by_cases q7 : s7.size ≤ 65536
  rotate_left
  · go_wp2_with fail
    go_ret
    exact ⟨rfl, Below.refl _ _⟩
  by_cases q1 : n1 ≤ 65536
  rotate_left
  · go_wp2_with fail
    go_ret
    exact ⟨rfl, Below.refl _ _⟩
  by_cases q2 : n2 ≤ 65536
  rotate_left
  · go_wp2_with fail
    go_ret
    exact ⟨rfl, Below.refl _ _⟩
  by_cases q3 : n3 ≤ 65536
  rotate_left
  · go_wp2_with fail
    go_ret
    exact ⟨rfl, Below.refl _ _⟩
  by_cases q4 : n4 ≤ 65536
  rotate_left
  · go_wp2_with fail
    go_ret
    exact ⟨rfl, Below.refl _ _⟩
  by_cases qT : s0.size + s7.size + 16 * n1 + 8 * (n2 + n3 + n4) ≤ 1048576
  rotate_left
  · go_wp2_with fail
    go_ret
    exact ⟨rfl, Below.refl _ _⟩
  have d0 : decide ((65536 : Int) < (s0.size : Int)) = false := decide_eq_false (by omega)
  have d7 : decide ((65536 : Int) < (s7.size : Int)) = false := decide_eq_false (by omega)
  have d1 : decide ((65536 : Int) < (n1 : Int)) = false := decide_eq_false (by omega)
  have d2 : decide ((65536 : Int) < (n2 : Int)) = false := decide_eq_false (by omega)
  have d3 : decide ((65536 : Int) < (n3 : Int)) = false := decide_eq_false (by omega)
  have d4 : decide ((65536 : Int) < (n4 : Int)) = false := decide_eq_false (by omega)
  have dT : decide ((1048576 : Int) < (s0.size : Int) + (s7.size : Int) + 16 * (n1 : Int) + 8 * ((n2 : Int) + (n3 : Int) + (n4 : Int))) = false := decide_eq_false (by omega)
  go_wp2_with fail
  clear d0 d7 d1 d2 d3 d4 dT
  go_loop [17, 18] (fun t i => ∃ k m : Nat, k ≤ n1 ∧ i = .int .i64 k ∧ t = .int .i64 m ∧ m ≤ 1048576) (fun _ i => n1 - (intOf i).toNat)
  case atStart => exact ⟨0, s0.size + s7.size + 16 * n1 + 8 * (n2 + n3 + n4), Nat.zero_le _, rfl, vint (by omega), qT⟩
  case round =>
  obtain ⟨k, m, hk, rfl, rfl, hm⟩ := hrel
  by_cases hlt : k < n1
  · obtain ⟨b, off, _, rfl, hcc⟩ := r1.at (by omega)
    have g1 := hcc k hlt
    have yk := y1 k hlt
    by_cases p0 : (z1 k).size ≤ 1048576
    rotate_left
    · go_wp2_with fail
      go_ret
      exact ⟨rfl, Below.refl _ _⟩
    by_cases p1 : m + (z1 k).size ≤ 1048576
    rotate_left
    · go_wp2_with fail
      go_ret
      exact ⟨rfl, Below.refl _ _⟩
    go_wp2_with fail
    go_round
    case rel => exact ⟨k + 1, m + (z1 k).size, by omega, by go_num, vint (by omega), p1⟩
    case measure => simp [intOf]; omega
  by_cases e0 : i6 < 0
  · go_wp2_with fail
    go_ret
    exact ⟨rfl, Below.refl _ _⟩
  by_cases e1 : (n1 : Int) < i6
  · go_wp2_with fail
    go_ret
    exact ⟨rfl, Below.refl _ _⟩
  obtain ⟨at', rfl⟩ := Int.eq_ofNat_of_zero_le (show 0 ≤ i6 by omega)
  go_wp2_with fail
  go_loop [20] (fun i => ∃ k : Nat, k ≤ n2 ∧ i = .int .i64 k ∧ ∀ j, j < k → 0 ≤ z2 j ∧ z2 j < (n1 : Int)) (fun i => n2 - (intOf i).toNat)
  case atStart => exact ⟨0, Nat.zero_le _, rfl, fun j hj => by omega⟩
  case round =>
  obtain ⟨k20, hk20, rfl, hin20⟩ := hrel
  by_cases hlt20 : k20 < n2
  · obtain ⟨b, off, _, rfl, hcc⟩ := r2.at (by omega)
    have g1 := hcc k20 hlt20
    by_cases p0 : z2 k20 < 0
    · go_wp2_with fail
      go_ret
      exact ⟨rfl, Below.refl _ _⟩
    by_cases p1 : (n1 : Int) ≤ z2 k20
    · go_wp2_with fail
      go_ret
      exact ⟨rfl, Below.refl _ _⟩
    go_wp2_with fail
    go_round
    case rel => exact ⟨k20 + 1, by omega, by go_num, upto_all hin20 (by omega)⟩
    case measure => simp [intOf]; omega
  have in20 : ∀ j, j < n2 → 0 ≤ z2 j ∧ z2 j < (n1 : Int) := fun j hj => hin20 j (by omega)
  clear hin20
  go_wp2_with fail
  go_loop [21] (fun i => ∃ k : Nat, k ≤ n3 ∧ i = .int .i64 k ∧ ∀ j, j < k → 0 ≤ z3 j ∧ z3 j < (n1 : Int)) (fun i => n3 - (intOf i).toNat)
  case atStart => exact ⟨0, Nat.zero_le _, rfl, fun j hj => by omega⟩
  case round =>
  obtain ⟨k21, hk21, rfl, hin21⟩ := hrel
  by_cases hlt21 : k21 < n3
  · obtain ⟨b, off, _, rfl, hcc⟩ := r3.at (by omega)
    have g1 := hcc k21 hlt21
    by_cases p0 : z3 k21 < 0
    · go_wp2_with fail
      go_ret
      exact ⟨rfl, Below.refl _ _⟩
    by_cases p1 : (n1 : Int) ≤ z3 k21
    · go_wp2_with fail
      go_ret
      exact ⟨rfl, Below.refl _ _⟩
    go_wp2_with fail
    go_round
    case rel => exact ⟨k21 + 1, by omega, by go_num, upto_all hin21 (by omega)⟩
    case measure => simp [intOf]; omega
  have in21 : ∀ j, j < n3 → 0 ≤ z3 j ∧ z3 j < (n1 : Int) := fun j hj => hin21 j (by omega)
  clear hin21
  go_wp2_with fail
  go_loop [22] (fun i => ∃ k : Nat, k ≤ n4 ∧ i = .int .i64 k ∧ ∀ j, j < k → 0 ≤ z4 j ∧ z4 j < (n1 : Int)) (fun i => n4 - (intOf i).toNat)
  case atStart => exact ⟨0, Nat.zero_le _, rfl, fun j hj => by omega⟩
  case round =>
  obtain ⟨k22, hk22, rfl, hin22⟩ := hrel
  by_cases hlt22 : k22 < n4
  · obtain ⟨b, off, _, rfl, hcc⟩ := r4.at (by omega)
    have g1 := hcc k22 hlt22
    by_cases p0 : z4 k22 < 0
    · go_wp2_with fail
      go_ret
      exact ⟨rfl, Below.refl _ _⟩
    by_cases p1 : (n1 : Int) ≤ z4 k22
    · go_wp2_with fail
      go_ret
      exact ⟨rfl, Below.refl _ _⟩
    go_wp2_with fail
    go_round
    case rel => exact ⟨k22 + 1, by omega, by go_num, upto_all hin22 (by omega)⟩
    case measure => simp [intOf]; omega
  have in22 : ∀ j, j < n4 → 0 ≤ z4 j ∧ z4 j < (n1 : Int) := fun j hj => hin22 j (by omega)
  clear hin22
  by_cases hbad : i5 ≠ -1 ∧ (i5 < 0 ∨ (n1 : Int) ≤ i5)
  · obtain ⟨hb0, hb1⟩ := hbad
    have hne : (i5 != -1) = true := by simpa using hb0
    rcases hb1 with hb1 | hb1
    · go_wp2_with fail
      go_ret
      exact ⟨rfl, Below.refl _ _⟩
    · have hb2 : ¬ i5 < 0 := by omega
      go_wp2_with fail
      go_ret
      exact ⟨rfl, Below.refl _ _⟩
  have hgood : i5 = -1 ∨ (0 ≤ i5 ∧ i5 < (n1 : Int)) := by omega
  have HG := hide hgood
  clear hgood hbad
  go_upto_region 36 with fail
  go_cut [184] from 174 to 184 (fun t w' => t = .bool false ∧ w' = w1)
  case first =>
    rcases HG.out with h | ⟨h, h'⟩
    · subst h
      go_wp2_with fail
      go_meet
      case rel => exact ⟨rfl, rfl⟩
    · have hne : (i5 != -1) = true := by simp; omega
      have hb2 : ¬ i5 < 0 := by omega
      have hb3 : ¬ (n1 : Int) ≤ i5 := by omega
      go_wp2_with fail
      go_meet
      case rel => exact ⟨rfl, rfl⟩
  case rest =>
  as_aux_lemma =>
  obtain ⟨rfl, rfl⟩ := hcut
  go_wp2_with fail
  refine (copyStrings_any a1 n1 c1 z1 (by omega) _ r1).mono ?_
  rintro e v1 ⟨b1, rfl, _, o1, hb1⟩
  go_wp2_with fail
  refine (copyInts_any a2 n2 c2 z2 (by omega) _ (r2.below hb1 (Nat.le_refl _))).mono ?_
  rintro e v2 ⟨b2, rfl, _, o2, hb2⟩
  have B2 : Below wc.heap.size wc v2 := hb1.trans (hb2.mono hb1.size)
  go_wp2_with fail
  refine (copyInts_any a3 n3 c3 z3 (by omega) _ (r3.below B2 (Nat.le_refl _))).mono ?_
  rintro e v3 ⟨b3, rfl, _, o3, hb3⟩
  have B3 : Below wc.heap.size wc v3 := B2.trans (hb3.mono B2.size)
  go_wp2_with fail
  refine (copyInts_any a4 n4 c4 z4 (by omega) _ (r4.below B3 (Nat.le_refl _))).mono ?_
  rintro e v4 ⟨b4, rfl, _, o4, hb4⟩
  have B4 : Below wc.heap.size wc v4 := B3.trans (hb4.mono B3.size)
  have R1 := (((o1.below hb2 (Nat.le_refl _)).below hb3 (Nat.le_refl _)).below hb4 (Nat.le_refl _)).reads
  have R2 := ((o2.below hb3 (Nat.le_refl _)).below hb4 (Nat.le_refl _)).reads
  have R3 := (o3.below hb4 (Nat.le_refl _)).reads
  have R4 := o4.reads
  clear o1 o2 o3 o4 hb1 hb2 hb3 hb4 B2 B3 r1 r2 r3 r4
  go_wp2_with fail
  refine (table_any s0 b1 n1 n1 z1 (by omega) b2 b3 b4 n2 n2 n3 n3 n4 n4 z2 z3 z4 i5 _ (by omega) (by omega) (by omega) R2 R3 R4 R1).mono ?_
  rintro e v5 ⟨pd, rfl, T5, hb5⟩
  have B5 : Below wc.heap.size wc v5 := B4.trans (hb5.mono B4.size)
  clear R1 R2 R3 R4
  go_wp2_with fail
  refine (zzClone_any v4.heap.size v5.heap.size pd s0 n1 z1 _ n2 z2 n3 z3 n4 z4 i5 _ (by omega) (by omega) (by omega) (by omega) (Nat.le_refl _) T5).mono ?_
  rintro e v6 ⟨g1, g2, g3, g4, g5, pc, rfl, T6, hb6⟩
  have hv56 := hb6.size
  have D7 : Below v6.heap.size v6 (v6.alloc (.cells #[.string s7, .int .u8 0, .string ⟨#[]⟩, .string ⟨#[]⟩, .int .i64 (-1), .int .i64 0, .bool false, .bool false, .int .u8 0, .int .i64 0, .string ⟨#[]⟩, .bool false, .bool false, .bool false] 49)) := (Below.refl _ _).alloc (Nat.le_refl _) _
  have T7 := T6.below D7 (Nat.le_refl _)
  have hC7 := rowIs_col v6 s7
  go_wp2_with fail
  refine (zzInsertColumn_full v5.heap.size g1 g2 g3 g4 g5 v6.heap.size pc s0 n1 z1 _ n2 z2 n3 z3 n4 z4 i5 s7 at' (v6.alloc (.cells #[.string s7, .int .u8 0, .string ⟨#[]⟩, .string ⟨#[]⟩, .int .i64 (-1), .int .i64 0, .bool false, .bool false, .int .u8 0, .int .i64 0, .string ⟨#[]⟩, .bool false, .bool false, .bool false] 49)) (by omega) (by omega) (by omega) (by omega) (by omega) (by simp) hv56 T7).mono ?_
  rintro e v8 ⟨rfl, T8, hb8, hK8⟩
  have hN8 := hC7.of_block (hK8 v6.heap.size (Nat.le_refl _) (by simp))
  have D8 : Below v5.heap.size v5 v8 := hb6.trans ((D7.mono hv56).trans hb8)
  have U5 := T5.below D8 (Nat.le_refl _)
  have B8 : Below wc.heap.size wc v8 := B5.trans (D8.mono B5.size)
  clear T5 T6 T7 hC7 hK8 hb8 D7 D8 hb6
  obtain ⟨ac, cc, ap, cp, gi, ci, F, x0, y0, x1, y1', t1, t2, t3, t4, t5, t6, t6', t7, t8, t9, t10, t11, t12⟩ := T8
  obtain ⟨ac', cc', ap', cp', gi', ci', F', x0', y0', x1', y1'', u1, u2, u3, u4, u5, u6, u6', u7, u8, u9, u10, u11, u12⟩ := U5
  obtain ⟨_, P1, P2, P3, P4, _⟩ := obj_cells t5
  obtain ⟨_, Q1, Q2, Q3, _, _⟩ := obj_cells u5
  obtain ⟨gc, G, _, _, rfl, s4, s5, s6, s7'⟩ := t9.at (by omega)
  have hcol : ∀ (k : Nat) (ss : ByteArray) (ll : Int), k < n1 + 1 → insN z1 s7 at' k = ss → insN (fun k => (k : Int)) (-1) at' k = ll → ∀ j, j < 14 → G (k * 14 + j) = ccell ss ll j := fun k ss ll hk e1 e2 j hj => by
    rw [s7' _ (by omega), cflat_at _ _ _ _ hj, e1, e2]
  have HC := hide hcol
  clear hcol
  have C1 := col_cells (k := at') (s := s7) (l := -1) s6 (by omega) (HC.out at' s7 (-1) (by omega) (insN_at _ _ _) (insN_at _ _ _))
  have C2 := col_cells (k := 0) (s := s7) (l := -1) hN8 (by omega) (fun j hj => by rw [Nat.zero_mul, Nat.zero_add])
  simp only [Nat.zero_mul, Nat.zero_add] at C2
  obtain ⟨ca0, ca1, ca2, ca3, ca4, ca5, ca6, ca7, ca8, ca9, ca10, ca11, ca12, ca13⟩ := C1
  obtain ⟨cb0, cb1, cb2, cb3, cb4, cb5, cb6, cb7, cb8, cb9, cb10, cb11, cb12, cb13⟩ := C2
  have j0 : (0 : Int) ≤ (at' : Int) := by omega
  have j1 : (at' : Int) < (n1 : Int) + 1 := by omega
  go_wp2_with fail
  go_quiet (fail)
  go_wp2_with fail
  clear ca0 ca1 ca2 ca3 ca4 ca5 ca6 ca7 ca8 ca9 ca10 ca11 ca12 ca13 cb0 cb1 cb2 cb3 cb4 cb5 cb6 cb7 cb8 cb9 cb10 cb11 cb12 cb13
  as_aux_lemma =>
  go_loopw [26] (fun i wr => ∃ k q : Nat, k ≤ n1 ∧ i = .int .i64 k ∧ wr = v8.drewN q) (fun i _ => n1 - (intOf i).toNat)
  case atStart => exact ⟨0, _, Nat.zero_le _, rfl, rfl⟩
  case round =>
  obtain ⟨k, q, hk, rfl, rfl⟩ := hrel
  by_cases hlt : k < n1
  · obtain ⟨gd, G', _, _, rfl, w4, w5, w6, w7⟩ := u9.at (by omega)
    have C2 := col_cells (k := k) (s := z1 k) (l := (k : Int)) w6 (by omega) (fun j hj => by rw [w7 _ (by omega), cflat_at _ _ _ _ hj])
    obtain ⟨cb0, cb1, cb2, cb3, cb4, cb5, cb6, cb7, cb8, cb9, cb10, cb11, cb12, cb13⟩ := C2
    have i0 : (0 : Int) ≤ (k : Int) := by omega
    have i1 : (k : Int) < (n1 : Int) := by omega
    by_cases hge : at' ≤ k
    · have C1 := col_cells (k := k + 1) (s := z1 k) (l := (k : Int)) s6 (by omega) (HC.out (k + 1) (z1 k) (k : Int) (by omega) (insN_hi _ _ _ _ (by omega)) (insN_hi _ _ _ _ (by omega)))
      obtain ⟨ca0, ca1, ca2, ca3, ca4, ca5, ca6, ca7, ca8, ca9, ca10, ca11, ca12, ca13⟩ := C1
      have m1 : (at' : Int) ≤ (k : Int) := by omega
      have m2 : (k : Int) + 1 < (n1 : Int) + 1 := by omega
      have m3 : (0 : Int) ≤ (k : Int) + 1 := by omega
      go_wp2_with fail
      go_quiet (fail)
      go_wp2_with fail
      go_roundw
      case rel => exact ⟨k + 1, q + nq, by omega, by go_num, rfl⟩
      case measure => simp [intOf]; omega
    · have C1 := col_cells (k := k) (s := z1 k) (l := (k : Int)) s6 (by omega) (HC.out (k) (z1 k) (k : Int) (by omega) (insN_lo _ _ _ _ (by omega)) (insN_lo _ _ _ _ (by omega)))
      obtain ⟨ca0, ca1, ca2, ca3, ca4, ca5, ca6, ca7, ca8, ca9, ca10, ca11, ca12, ca13⟩ := C1
      have m1 : ¬ (at' : Int) ≤ (k : Int) := by omega
      have m2 : (k : Int) < (n1 : Int) + 1 := by omega
      go_wp2_with fail
      go_quiet (fail)
      go_wp2_with fail
      go_roundw
      case rel => exact ⟨k + 1, q + nq, by omega, by go_num, rfl⟩
      case measure => simp [intOf]; omega
  as_aux_lemma =>
  have HR2 := hide (show ∀ x, Calls Try.prog 24 #[.slice ap n2 cp, .slice (some ⟨gc, 0, none⟩) (n1 + 1) cc, .slice ap' n2 cp', .slice ac' n1 cc', .int .i64 at'] (v8.drewN x) fun e w' => e = .returned (.bool true) ∧ ∃ q, w' = (v8.drewN x).drewN q from fun x =>
    sameRefs_any ap ap' n2 cp cp' (fun i => mv at' (z2 i)) z2 (some ⟨gc, 0, none⟩) ac' (n1 + 1) cc n1 cc' _ _ _ _ (insN z1 s7 at') z1 (insN (fun k => (k : Int)) (-1) at') (fun k => (k : Int)) at' (v8.drewN x) (by omega) (reads_draws t10.reads) (reads_draws u10.reads) (by exact t9) (by exact u9)
      (fun i hi => mv_bounds at' n1 (z2 i) (in20 i hi).1 (in20 i hi).2 q1) in20 (fun i hi => ⟨insN_mv _ _ at' n1 (z2 i) (in20 i hi).1 (in20 i hi).2 q1, insN_mv _ _ at' n1 (z2 i) (in20 i hi).1 (in20 i hi).2 q1⟩))
  have HR3 := hide (show ∀ x, Calls Try.prog 24 #[.slice x0 n3 y0, .slice (some ⟨gc, 0, none⟩) (n1 + 1) cc, .slice x0' n3 y0', .slice ac' n1 cc', .int .i64 at'] (v8.drewN x) fun e w' => e = .returned (.bool true) ∧ ∃ q, w' = (v8.drewN x).drewN q from fun x =>
    sameRefs_any x0 x0' n3 y0 y0' (fun i => mv at' (z3 i)) z3 (some ⟨gc, 0, none⟩) ac' (n1 + 1) cc n1 cc' _ _ _ _ (insN z1 s7 at') z1 (insN (fun k => (k : Int)) (-1) at') (fun k => (k : Int)) at' (v8.drewN x) (by omega) (reads_draws t11.reads) (reads_draws u11.reads) (by exact t9) (by exact u9)
      (fun i hi => mv_bounds at' n1 (z3 i) (in21 i hi).1 (in21 i hi).2 q1) in21 (fun i hi => ⟨insN_mv _ _ at' n1 (z3 i) (in21 i hi).1 (in21 i hi).2 q1, insN_mv _ _ at' n1 (z3 i) (in21 i hi).1 (in21 i hi).2 q1⟩))
  have HR4 := hide (show ∀ x, Calls Try.prog 24 #[.slice x1 n4 y1', .slice (some ⟨gc, 0, none⟩) (n1 + 1) cc, .slice x1' n4 y1'', .slice ac' n1 cc', .int .i64 at'] (v8.drewN x) fun e w' => e = .returned (.bool true) ∧ ∃ q, w' = (v8.drewN x).drewN q from fun x =>
    sameRefs_any x1 x1' n4 y1' y1'' (fun i => mv at' (z4 i)) z4 (some ⟨gc, 0, none⟩) ac' (n1 + 1) cc n1 cc' _ _ _ _ (insN z1 s7 at') z1 (insN (fun k => (k : Int)) (-1) at') (fun k => (k : Int)) at' (v8.drewN x) (by omega) (reads_draws t12.reads) (reads_draws u12.reads) (by exact t9) (by exact u9)
      (fun i hi => mv_bounds at' n1 (z4 i) (in22 i hi).1 (in22 i hi).2 q1) in22 (fun i hi => ⟨insN_mv _ _ at' n1 (z4 i) (in22 i hi).1 (in22 i hi).2 q1, insN_mv _ _ at' n1 (z4 i) (in22 i hi).1 (in22 i hi).2 q1⟩))
  go_wp2_with fail
  go_quiet ((go_at_call 24; first | exact quiet_at (HR2.out _) | exact Calls.quiet_of (HR2.out _)))
  go_wp2_with fail
  go_quiet (fail)
  go_wp2_with fail
  as_aux_lemma =>
  go_loopw [28] (fun i wr => ∃ k q : Nat, k ≤ 2 ∧ i = .int .i64 k ∧ wr = v8.drewN q) (fun i _ => 2 - (intOf i).toNat)
  case atStart => exact ⟨0, _, by omega, rfl, draws3 _ _ _ _⟩
  case round =>
  obtain ⟨k28, q28, hk28, rfl, rfl⟩ := hrel
  rcases (by omega : k28 = 0 ∨ k28 = 1 ∨ k28 = 2) with rfl | rfl | rfl
  · have f1 : v8.cell? ⟨gi, 1, none⟩ = some (.slice x0 n3 y0) := by rw [t7.cell (by omega), t8 1 (by omega)]; rfl
    have f2 : v8.cell? ⟨gi', 1, none⟩ = some (.slice x0' n3 y0') := by rw [u7.cell (by omega), u8 1 (by omega)]; rfl
    go_wp2_with fail
    go_quiet ((go_at_call 24; first | exact quiet_at (HR3.out _) | exact Calls.quiet_of (HR3.out _)))
    go_wp2_with fail
    go_roundw
    case rel => exact ⟨1, _, by omega, by go_num, rfl⟩
    case measure => simp [intOf]
  · have f1 : v8.cell? ⟨gi, 4, none⟩ = some (.slice x1 n4 y1') := by rw [t7.cell (by omega), t8 4 (by omega)]; rfl
    have f2 : v8.cell? ⟨gi', 4, none⟩ = some (.slice x1' n4 y1'') := by rw [u7.cell (by omega), u8 4 (by omega)]; rfl
    go_wp2_with fail
    go_quiet ((go_at_call 24; first | exact quiet_at (HR4.out _) | exact Calls.quiet_of (HR4.out _)))
    go_wp2_with fail
    go_roundw
    case rel => exact ⟨2, _, by omega, by go_num, rfl⟩
    case measure => simp [intOf]
  · rcases HG.out with h | ⟨h, h'⟩
    · subst h
      have hm : (mv at' (-1) == -1) = true := by rw [mv_none]; rfl
      go_wp2_with fail
      go_ret
      exact ⟨rfl, below_drewN B8 _⟩
    · have hne : (i5 == -1) = false := by simp; omega
      obtain ⟨m0, m1, m2⟩ := mv_bounds at' n1 i5 h h' q1
      have e0 : decide (mv at' i5 < 0) = false := decide_eq_false (by omega)
      have e1' : decide ((n1 : Int) + 1 ≤ mv at' i5) = false := decide_eq_false (by omega)
      have e2 : (mv at' i5 == (at' : Int)) = false := by simpa using m2
      have m3 : mv at' i5 < (n1 : Int) + 1 := by omega
      obtain ⟨gd, G', _, _, rfl, w4, w5, w6, w7⟩ := u9.at (by omega)
      have C1 := col_cells (k := (mv at' i5).toNat) (s := z1 i5.toNat) (l := (i5.toNat : Int)) s6 (by omega) (HC.out (mv at' i5).toNat (z1 i5.toNat) (i5.toNat : Int) (by omega) (insN_mv _ _ at' n1 i5 h h' q1) (insN_mv _ _ at' n1 i5 h h' q1))
      have C2 := col_cells (k := i5.toNat) (s := z1 i5.toNat) (l := (i5.toNat : Int)) w6 (by omega) (fun j hj => by rw [w7 _ (by omega), cflat_at _ _ _ _ hj])
      obtain ⟨ca0, ca1, ca2, ca3, ca4, ca5, ca6, ca7, ca8, ca9, ca10, ca11, ca12, ca13⟩ := C1
      obtain ⟨cb0, cb1, cb2, cb3, cb4, cb5, cb6, cb7, cb8, cb9, cb10, cb11, cb12, cb13⟩ := C2
      clear m1 m2
      go_wp2_with fail
      go_quiet (fail)
      go_wp2_with fail
      go_quiet (fail)
      go_wp2_with fail
      go_ret
      exact ⟨rfl, below_drewN (below_drewN (below_drewN B8 _) _) _⟩
end Go.Proofs.Qxb6001703a
