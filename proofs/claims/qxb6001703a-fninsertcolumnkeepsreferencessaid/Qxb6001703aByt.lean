/- The two 'zzBytes' of the table laws. -/
import Derived.Test.Qxb6001703aMem
namespace Go.Proofs.Qxb6001703a
open Go.ChangeShapes Go.WideShapes Go.ChangeAt Go.RowKit

/-- It returned a bool. -/
def GivesBool (e : Ending) : Prop := ∃ b, e = .returned (.bool b)

theorem vint {k : IntKind} {a b : Int} (h : a = b) : Value.int k a = Value.int k b := by rw [h]

set_option maxRecDepth 100000 in
set_option maxHeartbeats 4000000 in
theorem bytes6_any (s0 : ByteArray) (a1 : Option Addr) (n1 c1 : Nat) (z1 : Nat → ByteArray) (a2 : Option Addr) (n2 c2 : Nat) (a3 : Option Addr) (n3 c3 : Nat) (a4 : Option Addr) (n4 c4 : Nat) (i5 i6 : Int) (s7 : ByteArray) (w : World)
    (l0 : s0.size ≤ 9223372036854775807) (l1 : n1 ≤ 9223372036854775807) (r1 : Reads w a1 n1 (fun i => .string (z1 i))) (y1 : ∀ i, i < n1 → (z1 i).size ≤ 9223372036854775807) (l2 : n2 ≤ 9223372036854775807) (l3 : n3 ≤ 9223372036854775807) (l4 : n4 ≤ 9223372036854775807) (l7 : s7.size ≤ 9223372036854775807) :
    Calls Try.prog 17 #[.string s0, .slice a1 n1 c1, .slice a2 n2 c2, .slice a3 n3 c3, .slice a4 n4 c4, .int .i64 i5, .int .i64 i6, .string s7] w fun e w' => GivesBool e ∧ w' = w := by
  by_cases q0 : s0.size ≤ 1048576
  rotate_left
  · go_enter Try.func17, Try.ntmps17
    go_wp2
    go_ret
    exact ⟨⟨_, rfl⟩, rfl⟩
  by_cases q1 : n1 ≤ 1048576
  rotate_left
  · go_enter Try.func17, Try.ntmps17
    go_wp2
    go_ret
    exact ⟨⟨_, rfl⟩, rfl⟩
  by_cases q2 : s0.size + n1 ≤ 1048576
  rotate_left
  · go_enter Try.func17, Try.ntmps17
    go_wp2
    go_ret
    exact ⟨⟨_, rfl⟩, rfl⟩
  have d0 : decide ((1048576 : Int) < (s0.size : Int)) = false := decide_eq_false (by omega)
  have d1 : decide ((1048576 : Int) < (n1 : Int)) = false := decide_eq_false (by omega)
  have d2 : decide ((1048576 : Int) < (s0.size : Int) + (n1 : Int)) = false := decide_eq_false (by omega)
  go_enter Try.func17, Try.ntmps17
  go_wp2
  clear d0 d1 d2
  go_loop [17, 18] (fun t i => ∃ k m : Nat, k ≤ n1 ∧ i = .int .i64 k ∧ t = .int .i64 m ∧ m ≤ 1048576) (fun _ i => n1 - (intOf i).toNat)
  case atStart => exact ⟨0, s0.size + n1, Nat.zero_le _, rfl, vint (by omega), q2⟩
  case round =>
  obtain ⟨k, m, hk, rfl, rfl, hm⟩ := hrel
  by_cases hlt : k < n1
  · obtain ⟨b, off, _, rfl, hcc⟩ := r1.at (by omega)
    have g1 := hcc k hlt
    have yk := y1 k hlt
    by_cases p0 : (z1 k).size ≤ 1048576
    rotate_left
    · go_wp2
      go_ret
      exact ⟨⟨_, rfl⟩, rfl⟩
    by_cases p1 : m + (z1 k).size ≤ 1048576
    rotate_left
    · go_wp2
      go_ret
      exact ⟨⟨_, rfl⟩, rfl⟩
    go_wp2
    go_round
    case rel => exact ⟨k + 1, m + (z1 k).size, by omega, by go_num, vint (by omega), p1⟩
    case measure => simp [intOf]; omega
  go_wp2
  all_goals go_ret
  all_goals exact ⟨⟨_, rfl⟩, rfl⟩

set_option maxRecDepth 100000 in
set_option maxHeartbeats 4000000 in
theorem bytes7_any (s0 : ByteArray) (a1 : Option Addr) (n1 c1 : Nat) (z1 : Nat → ByteArray) (a2 : Option Addr) (n2 c2 : Nat) (a3 : Option Addr) (n3 c3 : Nat) (a4 : Option Addr) (n4 c4 : Nat) (i5 i6 : Int) (s7 : ByteArray) (w : World)
    (l0 : s0.size ≤ 9223372036854775807) (l1 : n1 ≤ 9223372036854775807) (r1 : Reads w a1 n1 (fun i => .string (z1 i))) (y1 : ∀ i, i < n1 → (z1 i).size ≤ 9223372036854775807) (l2 : n2 ≤ 9223372036854775807) (l3 : n3 ≤ 9223372036854775807) (l4 : n4 ≤ 9223372036854775807) (l7 : s7.size ≤ 9223372036854775807) :
    Calls Try.prog 23 #[.string s0, .slice a1 n1 c1, .slice a2 n2 c2, .slice a3 n3 c3, .slice a4 n4 c4, .int .i64 i5, .int .i64 i6, .string s7] w fun e w' => GivesBool e ∧ w' = w := by
  by_cases q0 : s0.size ≤ 1048576
  rotate_left
  · go_enter Try.func23, Try.ntmps23
    go_wp2
    go_ret
    exact ⟨⟨_, rfl⟩, rfl⟩
  by_cases q1 : n1 ≤ 1048576
  rotate_left
  · go_enter Try.func23, Try.ntmps23
    go_wp2
    go_ret
    exact ⟨⟨_, rfl⟩, rfl⟩
  by_cases q2 : s0.size + n1 ≤ 1048576
  rotate_left
  · go_enter Try.func23, Try.ntmps23
    go_wp2
    go_ret
    exact ⟨⟨_, rfl⟩, rfl⟩
  have d0 : decide ((1048576 : Int) < (s0.size : Int)) = false := decide_eq_false (by omega)
  have d1 : decide ((1048576 : Int) < (n1 : Int)) = false := decide_eq_false (by omega)
  have d2 : decide ((1048576 : Int) < (s0.size : Int) + (n1 : Int)) = false := decide_eq_false (by omega)
  go_enter Try.func23, Try.ntmps23
  go_wp2
  clear d0 d1 d2
  go_loop [17, 18] (fun t i => ∃ k m : Nat, k ≤ n1 ∧ i = .int .i64 k ∧ t = .int .i64 m ∧ m ≤ 1048576) (fun _ i => n1 - (intOf i).toNat)
  case atStart => exact ⟨0, s0.size + n1, Nat.zero_le _, rfl, vint (by omega), q2⟩
  case round =>
  obtain ⟨k, m, hk, rfl, rfl, hm⟩ := hrel
  by_cases hlt : k < n1
  · obtain ⟨b, off, _, rfl, hcc⟩ := r1.at (by omega)
    have g1 := hcc k hlt
    have yk := y1 k hlt
    by_cases p0 : (z1 k).size ≤ 1048576
    rotate_left
    · go_wp2
      go_ret
      exact ⟨⟨_, rfl⟩, rfl⟩
    by_cases p1 : m + (z1 k).size ≤ 1048576
    rotate_left
    · go_wp2
      go_ret
      exact ⟨⟨_, rfl⟩, rfl⟩
    go_wp2
    go_round
    case rel => exact ⟨k + 1, m + (z1 k).size, by omega, by go_num, vint (by omega), p1⟩
    case measure => simp [intOf]; omega
  go_wp2
  all_goals go_ret
  all_goals exact ⟨⟨_, rfl⟩, rfl⟩
end Go.Proofs.Qxb6001703a
