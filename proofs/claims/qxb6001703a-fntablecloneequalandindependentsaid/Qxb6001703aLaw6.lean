/- The walk of 'FnTableCloneEqualAndIndependent'. -/
import Derived.Test.Qxb6001703aSame
import Derived.Test.Qxb6001703aByt
namespace Go.Proofs.Qxb6001703a
open Go.ChangeShapes Go.WideShapes Go.ChangeAt Go.RowKit
set_option linter.unusedSimpArgs false

set_option maxRecDepth 100000 in
set_option maxHeartbeats 8000000 in
theorem cloneLaw_any (s0 : ByteArray) (a1 : Option Addr) (n1 c1 : Nat) (z1 : Nat → ByteArray) (a2 : Option Addr) (n2 c2 : Nat) (z2 : Nat → Int) (a3 : Option Addr) (n3 c3 : Nat) (z3 : Nat → Int) (a4 : Option Addr) (n4 c4 : Nat) (z4 : Nat → Int) (i5 i6 : Int) (s7 : ByteArray) (w : World)
    (l0 : s0.size ≤ 9223372036854775807) (l1 : n1 ≤ 9223372036854775807) (r1 : Reads w a1 n1 (fun i => .string (z1 i))) (y1 : ∀ i, i < n1 → (z1 i).size ≤ 9223372036854775807) (l2 : n2 ≤ 9223372036854775807) (r2 : Reads w a2 n2 (fun i => .int .i64 (z2 i)))
    (l3 : n3 ≤ 9223372036854775807) (r3 : Reads w a3 n3 (fun i => .int .i64 (z3 i))) (l4 : n4 ≤ 9223372036854775807) (r4 : Reads w a4 n4 (fun i => .int .i64 (z4 i))) (l7 : s7.size ≤ 9223372036854775807) :
    Calls Try.prog 6 #[.string s0, .slice a1 n1 c1, .slice a2 n2 c2, .slice a3 n3 c3, .slice a4 n4 c4, .int .i64 i5, .int .i64 i6, .string s7] w fun e w' => e = .returned (.bool true) ∧ Below w.heap.size w w' := by
  go_enter Try.func6, Try.ntmps6
  go_wp2_with fail
  refine (bytes6_any s0 a1 n1 c1 z1 a2 n2 c2 a3 n3 c3 a4 n4 c4 i5 i6 s7 _ l0 l1 r1 y1 l2 l3 l4 l7).mono ?_
  rintro e w1 ⟨⟨b, rfl⟩, rfl⟩
  cases b
  · go_wp2_with fail
    go_ret
    exact ⟨rfl, Below.refl _ _⟩
  by_cases q0 : s0.size ≤ 65536
  rotate_left
  · go_wp2_with fail
    go_ret
    exact ⟨rfl, Below.refl _ _⟩
  by_cases q7 : s7.size ≤ 65536
  rotate_left
  · go_wp2_with fail
    go_ret
    exact ⟨rfl, Below.refl _ _⟩
  by_cases q1 : n1 ≤ 65536
  rotate_left
  · go_wp2_with fail
    go_ret
    exact ⟨rfl, Below.refl _ _⟩
  by_cases q2 : n2 ≤ 65536
  rotate_left
  · go_wp2_with fail
    go_ret
    exact ⟨rfl, Below.refl _ _⟩
  by_cases q3 : n3 ≤ 65536
  rotate_left
  · go_wp2_with fail
    go_ret
    exact ⟨rfl, Below.refl _ _⟩
  by_cases q4 : n4 ≤ 65536
  rotate_left
  · go_wp2_with fail
    go_ret
    exact ⟨rfl, Below.refl _ _⟩
  by_cases qT : s0.size + s7.size + 16 * n1 + 8 * (n2 + n3 + n4) ≤ 1048576
  rotate_left
  · go_wp2_with fail
    go_ret
    exact ⟨rfl, Below.refl _ _⟩
  have d0 : decide ((65536 : Int) < (s0.size : Int)) = false := decide_eq_false (by omega)
  have d7 : decide ((65536 : Int) < (s7.size : Int)) = false := decide_eq_false (by omega)
  have d1 : decide ((65536 : Int) < (n1 : Int)) = false := decide_eq_false (by omega)
  have d2 : decide ((65536 : Int) < (n2 : Int)) = false := decide_eq_false (by omega)
  have d3 : decide ((65536 : Int) < (n3 : Int)) = false := decide_eq_false (by omega)
  have d4 : decide ((65536 : Int) < (n4 : Int)) = false := decide_eq_false (by omega)
  have dT : decide ((1048576 : Int) < (s0.size : Int) + (s7.size : Int) + 16 * (n1 : Int) + 8 * ((n2 : Int) + (n3 : Int) + (n4 : Int))) = false := decide_eq_false (by omega)
  go_wp2_with fail
  clear d0 d7 d1 d2 d3 d4 dT
  go_loop [17, 18] (fun t i => ∃ k m : Nat, k ≤ n1 ∧ i = .int .i64 k ∧ t = .int .i64 m ∧ m ≤ 1048576) (fun _ i => n1 - (intOf i).toNat)
  case atStart => exact ⟨0, s0.size + s7.size + 16 * n1 + 8 * (n2 + n3 + n4), Nat.zero_le _, rfl, vint (by omega), qT⟩
  case round =>
  obtain ⟨k, m, hk, rfl, rfl, hm⟩ := hrel
  by_cases hlt : k < n1
  · obtain ⟨b, off, _, rfl, hcc⟩ := r1.at (by omega)
    have g1 := hcc k hlt
    have yk := y1 k hlt
    by_cases p0 : (z1 k).size ≤ 1048576
    rotate_left
    · go_wp2_with fail
      go_ret
      exact ⟨rfl, Below.refl _ _⟩
    by_cases p1 : m + (z1 k).size ≤ 1048576
    rotate_left
    · go_wp2_with fail
      go_ret
      exact ⟨rfl, Below.refl _ _⟩
    go_wp2_with fail
    go_round
    case rel => exact ⟨k + 1, m + (z1 k).size, by omega, by go_num, vint (by omega), p1⟩
    case measure => simp [intOf]; omega
  by_cases e0 : i6 < 0
  · go_wp2_with fail
    go_ret
    exact ⟨rfl, Below.refl _ _⟩
  by_cases e1 : (n1 : Int) < i6
  · go_wp2_with fail
    go_ret
    exact ⟨rfl, Below.refl _ _⟩
  obtain ⟨at', rfl⟩ := Int.eq_ofNat_of_zero_le (show 0 ≤ i6 by omega)
  go_wp2_with fail
  refine (copyStrings_any a1 n1 c1 z1 (by omega) _ r1).mono ?_
  rintro e v1 ⟨b1, rfl, _, o1, hb1⟩
  go_wp2_with fail
  refine (copyInts_any a2 n2 c2 z2 (by omega) _ (r2.below hb1 (Nat.le_refl _))).mono ?_
  rintro e v2 ⟨b2, rfl, _, o2, hb2⟩
  have B2 : Below w1.heap.size w1 v2 := hb1.trans (hb2.mono hb1.size)
  go_wp2_with fail
  refine (copyInts_any a3 n3 c3 z3 (by omega) _ (r3.below B2 (Nat.le_refl _))).mono ?_
  rintro e v3 ⟨b3, rfl, _, o3, hb3⟩
  have B3 : Below w1.heap.size w1 v3 := B2.trans (hb3.mono B2.size)
  go_wp2_with fail
  refine (copyInts_any a4 n4 c4 z4 (by omega) _ (r4.below B3 (Nat.le_refl _))).mono ?_
  rintro e v4 ⟨b4, rfl, _, o4, hb4⟩
  have B4 : Below w1.heap.size w1 v4 := B3.trans (hb4.mono B3.size)
  have R1 := (((o1.below hb2 (Nat.le_refl _)).below hb3 (Nat.le_refl _)).below hb4 (Nat.le_refl _)).reads
  have R2 := ((o2.below hb3 (Nat.le_refl _)).below hb4 (Nat.le_refl _)).reads
  have R3 := (o3.below hb4 (Nat.le_refl _)).reads
  have R4 := o4.reads
  clear o1 o2 o3 o4 hb1 hb2 hb3 hb4 B2 B3 r1 r2 r3 r4
  go_wp2_with fail
  refine (table_any s0 b1 n1 n1 z1 (by omega) b2 b3 b4 n2 n2 n3 n3 n4 n4 z2 z3 z4 i5 _ (by omega) (by omega) (by omega) R2 R3 R4 R1).mono ?_
  rintro e v5 ⟨pd, rfl, T5, hb5⟩
  have B5 : Below w1.heap.size w1 v5 := B4.trans (hb5.mono B4.size)
  have R1' := R1.below hb5 (Nat.le_refl _)
  have R2' := R2.below hb5 (Nat.le_refl _)
  have R3' := R3.below hb5 (Nat.le_refl _)
  have R4' := R4.below hb5 (Nat.le_refl _)
  clear R1 R2 R3 R4
  go_wp2_with fail
  refine (table_any s0 b1 n1 n1 z1 (by omega) b2 b3 b4 n2 n2 n3 n3 n4 n4 z2 z3 z4 i5 _ (by omega) (by omega) (by omega) R2' R3' R4' R1').mono ?_
  rintro e v6 ⟨ps, rfl, T6, hb6⟩
  have B6 : Below w1.heap.size w1 v6 := B5.trans (hb6.mono B5.size)
  have T5' := T5.below hb6 (Nat.le_refl _)
  have hv56 := hb6.size
  clear R1' R2' R3' R4' T5
  go_wp2_with fail
  refine (zzClone_any v4.heap.size v5.heap.size pd s0 n1 z1 _ n2 z2 n3 z3 n4 z4 i5 _ (by omega) (by omega) (by omega) (by omega) hv56 T5').mono ?_
  rintro e v7 ⟨g1, g2, g3, g4, g5, pc, rfl, T7, hb7⟩
  have B7 : Below w1.heap.size w1 v7 := B6.trans (hb7.mono B6.size)
  have T5'' := T5'.below hb7 hv56
  have T6' := T6.below hb7 (Nat.le_refl _)
  have hv67 := hb7.size
  go_wp2_with fail
  refine (sameTable_any _ _ pc _ _ pd s0 n1 z1 _ n2 z2 n3 z3 n4 z4 i5 _ (by omega) (by omega) (by omega) (by omega) T7.tab T5'').mono ?_
  rintro e v8 ⟨rfl, q8, rfl⟩
  go_wp2_with fail
  have D8 : Below v7.heap.size v7 (v7.drewN q8) := below_drewN (Below.refl _ _) q8
  have T8 := T7.below D8 (Nat.le_refl _)
  refine (zzInsertColumn_any v6.heap.size g1 g2 g3 g4 g5 v7.heap.size pc s0 n1 z1 _ n2 z2 n3 z3 n4 z4 i5 s7 at' (v7.drewN q8) (by omega) (by omega) (by omega) (by omega) (by omega) (by exact Nat.le_refl v7.heap.size) hv67 T8).mono ?_
  rintro e v9 ⟨rfl, T9, hb9⟩
  have D9 : Below v6.heap.size v7 v9 := (D8.mono hv67).trans hb9
  have U5 := T5''.below D9 hv56
  have U6 := T6'.below D9 (Nat.le_refl _)
  have B9 : Below w1.heap.size w1 v9 := B7.trans (D9.mono B6.size)
  obtain ⟨ac, cc, ap, cp, gi, ci, F, a0', c0', a1', c1', t1, t2, t3, t4, t5, _⟩ := T9
  have y1 := (obj_cells t5).2.1
  clear T8 T7 T5' T5'' T6 T6'
  go_wp2_with fail
  refine (sameTable_any _ _ pd _ _ ps s0 n1 z1 _ n2 z2 n3 z3 n4 z4 i5 _ (by omega) (by omega) (by omega) (by omega) U5 U6).mono ?_
  rintro e v10 ⟨rfl, q10, rfl⟩
  go_wp2_with fail
  go_ret
  exact ⟨rfl, below_drewN B9 q10⟩
end Go.Proofs.Qxb6001703a
