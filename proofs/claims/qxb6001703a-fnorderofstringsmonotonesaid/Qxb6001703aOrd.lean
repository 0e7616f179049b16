/- Contracts of 'zzIntVal', 'orderOf' at an Int, 'ZZOrderOf'; the plain law on the sign bit; the walk of 'FnOrderOfSignedIntsExact'. -/
import Derived.Test.Qxb6001703aRows
import Derived.WalkKit
import Derived.ProofKit
import Derived.OpenShut
import Derived.Laws.BitsAllLaws
namespace Go.Proofs.Qxb6001703a
open Go.ChangeShapes Go.WideShapes Go.ChangeAt Go.RowKit

theorem grown_trans {a b c : World} (h : Grown a b) (k : Grown b c) : Grown a c :=
  ⟨World.keptBut_trans h.1 k.1, fun x => (k.2.1 x).trans (h.2.1 x), Nat.le_trans h.2.2 k.2.2⟩

theorem zzIntVal_any (n : Int) (w : World) :
    Calls Try.prog 10 #[.int .i64 n] w fun e w' => e = .returned (.agg #[.int .u8 1, .int .i64 n, .string ⟨#[]⟩]) ∧ w' = w.alloc (.cells #[.int .u8 1, .int .i64 n, .string ⟨#[]⟩] 26) := by
  go_enter Try.func10, Try.ntmps10
  go_wp2
  exact bodyPost_ret (v := .agg #[.int .u8 1, .int .i64 n, .string ⟨#[]⟩]) (by simp [results, Try.results10, go_sem]) rfl ⟨rfl, rfl⟩

/-- What 'orderOf' gives for a signed integer: the bits with the sign bit turned over. -/
def sgn (n : Int) : Int := bits .xor .u64 (IntKind.u64.wrap n) 9223372036854775808

theorem orderOf_int (n : Int) (w : World) :
    Calls Try.prog 29 #[.agg #[.int .u8 1, .int .i64 n, .string ⟨#[]⟩], .bool false] w fun e w' => e = .returned (.int .u64 (sgn n)) ∧ Grown w w' := by
  go_enter Try.func29, Try.ntmps29
  go_wp2
  go_ret
  exact ⟨rfl, (Grown.refl _).alloc _ _⟩

theorem zzOrderOf_int (n : Int) (w : World) :
    Calls Try.prog 9 #[.agg #[.int .u8 1, .int .i64 n, .string ⟨#[]⟩], .bool false] w fun e w' => e = .returned (.int .u64 (sgn n)) ∧ Grown w w' := by
  go_enter Try.func9, Try.ntmps9
  go_wp2_with fail
  refine (orderOf_int n _).mono ?_
  rintro e w' ⟨rfl, hg⟩
  go_wp2_with fail
  go_ret
  exact ⟨rfl, grown_trans ((Grown.refl _).alloc _ _) hg⟩

/-! ### The plain law -/
theorem xor_top (m : Nat) (h : m < 2 ^ 63) : m ^^^ 2 ^ 63 = m + 2 ^ 63 := by
  apply Nat.eq_of_testBit_eq
  intro i
  rw [Nat.testBit_xor, Nat.testBit_two_pow, Nat.add_comm m]
  rcases Nat.lt_trichotomy i 63 with hi | rfl | hi
  · rw [Nat.testBit_two_pow_add_gt hi]
    have : decide (63 = i) = false := decide_eq_false (by omega)
    rw [this]; simp
  · rw [Nat.testBit_two_pow_add_eq]; simp
  · have h1 : m.testBit i = false := Nat.testBit_lt_two_pow (Nat.lt_of_lt_of_le h (Nat.pow_le_pow_right (by omega) (by omega)))
    have h2 : (2 ^ 63 + m).testBit i = false := Nat.testBit_lt_two_pow (Nat.lt_of_lt_of_le (show 2 ^ 63 + m < 2 ^ 64 by omega) (Nat.pow_le_pow_right (by omega) (by omega)))
    have : decide (63 = i) = false := decide_eq_false (by omega)
    rw [h1, h2, this]; rfl

theorem xor_top' (m : Nat) (h : 2 ^ 63 ≤ m) (h2 : m < 2 ^ 64) : m ^^^ 2 ^ 63 = m - 2 ^ 63 := by
  have e : m = (m - 2 ^ 63) ^^^ 2 ^ 63 := by rw [xor_top _ (by omega)]; omega
  have e2 : m ^^^ 2 ^ 63 = ((m - 2 ^ 63) ^^^ 2 ^ 63) ^^^ 2 ^ 63 := congrArg (fun t => t ^^^ 2 ^ 63) e
  rw [e2, Nat.xor_assoc, Nat.xor_self, Nat.xor_zero]

theorem sgn_eq (n : Int) (h0 : -9223372036854775808 ≤ n) (h1 : n ≤ 9223372036854775807) : sgn n = n + 9223372036854775808 := by
  unfold sgn
  rw [IntKind.wrap_u64, u64_xor _ _ (by omega) (by omega) (by omega) (by omega)]
  have et : (9223372036854775808 : Int).toNat = 2 ^ 63 := rfl
  rw [et]
  by_cases hn : 0 ≤ n
  · have e1 : (n % 18446744073709551616).toNat = n.toNat := by rw [Int.emod_eq_of_lt hn (by omega)]
    rw [e1, xor_top _ (by omega)]
    omega
  · have e1 : (n % 18446744073709551616).toNat = (n + 18446744073709551616).toNat := by
      have : n % 18446744073709551616 = n + 18446744073709551616 := by omega
      rw [this]
    rw [e1, xor_top' _ (by omega) (by omega)]
    omega

/-! ### The walk of the law -/
theorem exact_any (a b : Int) (ha : (Lit.int .i64 a).wf = true) (hb : (Lit.int .i64 b).wf = true) (w : World) :
    Calls Try.prog 3 #[.int .i64 a, .int .i64 b] w fun e w' => e = .returned (.bool true) ∧ Grown w w' := by
  have ba := bounds_i64 ha
  have bb := bounds_i64 hb
  have ea := sgn_eq a (by omega) (by omega)
  have eb := sgn_eq b (by omega) (by omega)
  have q1 : (decide (a < b) == decide (sgn a < sgn b)) = true := by rw [ea, eb]; simp
  have q2 : ((a == b) == (sgn a == sgn b)) = true := by
    rw [ea, eb]
    have : (a == b) = (a + 9223372036854775808 == b + 9223372036854775808) := by rw [Bool.eq_iff_iff]; simp
    rw [this]; simp
  clear ea eb ba bb
  go_enter Try.func3, Try.ntmps3
  go_wp2_with fail
  refine (zzIntVal_any a _).mono ?_
  rintro e w1 ⟨rfl, rfl⟩
  go_wp2_with fail
  refine (zzOrderOf_int a _).mono ?_
  rintro e w2 ⟨rfl, hg2⟩
  go_wp2_with fail
  refine (zzIntVal_any b _).mono ?_
  rintro e w3 ⟨rfl, rfl⟩
  go_wp2_with fail
  refine (zzOrderOf_int b _).mono ?_
  rintro e w4 ⟨rfl, hg4⟩
  go_wp2_with fail
  go_ret
  exact ⟨rfl, grown_trans (grown_trans ((Grown.refl _).alloc _ _) hg2) (grown_trans ((Grown.refl _).alloc _ _) hg4)⟩
end Go.Proofs.Qxb6001703a
