/- The walks for 'FnOrderOfStringsMonotone'. -/
import Derived.Test.Qxb6001703aNum
import Derived.Test.Qxb6001703aOrd
import Derived.Test.Qxb6001703aMem
import Derived.Deep.QuietTactic
import Derived.BigQuiet
import Derived.RegionTactic
namespace Go.Proofs.Qxb6001703a
open Go.ChangeShapes Go.WideShapes Go.ChangeAt Go.RowKit

theorem val_int {k : IntKind} {a b : Int} (h : a = b) : Value.int k a = Value.int k b := by rw [h]
theorem ret_int {k : IntKind} {a b : Int} (h : a = b) : Ending.returned (.int k a) = .returned (.int k b) := by rw [h]

theorem step_in (s : ByteArray) (k : Nat) (hk : k ≤ 7) (hin : k < s.size) :
    bits .or .u64 (IntKind.u64.wrap ((numf (pad s) k : Nat) * 256)) (IntKind.u64.wrap ((s[k]'hin).toNat : Nat)) = ((numf (pad s) (k + 1) : Nat) : Int) := by
  have hb := numf_bound (pad s) (pad_lt s) k hk
  have hp := pad_in s k hin
  have hl := pad_lt s k
  have l1 : numf (pad s) k * 256 < 18446744073709551616 := Nat.lt_of_le_of_lt (Nat.le_add_right _ 255) hb
  have l2 : pad s k < 18446744073709551616 := Nat.lt_trans hl (by decide)
  have e3 := u64_or_nat (numf (pad s) k * 256) (pad s k) l1 l2
  rw [← hp]
  rw [IntKind.wrap_u64, IntKind.wrap_u64]
  have e1 : ((numf (pad s) k : Nat) : Int) * 256 % 18446744073709551616 = ((numf (pad s) k * 256 : Nat) : Int) := by omega
  have e2 : ((pad s k : Nat) : Int) % 18446744073709551616 = ((pad s k : Nat) : Int) := by omega
  have e4 : numf (pad s) (k + 1) = numf (pad s) k * 256 + pad s k := by rw [numf]
  rw [e1, e2, e3, or_low _ _ hl, e4]

theorem step_out (s : ByteArray) (k : Nat) (hk : k ≤ 7) (hin : ¬ k < s.size) :
    IntKind.u64.wrap ((numf (pad s) k : Nat) * 256) = ((numf (pad s) (k + 1) : Nat) : Int) := by
  have hb := numf_bound (pad s) (pad_lt s) k hk
  have hp := pad_out s k (by omega)
  rw [IntKind.wrap_u64]
  have e : numf (pad s) (k + 1) = numf (pad s) k * 256 := by show numf (pad s) k * 256 + pad s k = _; omega
  rw [e]
  omega

theorem bytesStr_any (s t : ByteArray) (u : Bool) (hs : s.size ≤ 9223372036854775807) (ht : t.size ≤ 9223372036854775807) (w : World) :
    Calls Try.prog 25 #[.string s, .string t, .bool u] w fun e w' => ∃ b, e = .returned (.bool b) ∧ w' = w := by
  go_enter Try.func25, Try.ntmps25
  go_wp2
  all_goals go_ret
  all_goals exact ⟨_, rfl, rfl⟩

theorem padByte_any (s : ByteArray) (i : Nat) (w : World) :
    Calls Try.prog 34 #[.string s, .int .i64 (i : Int)] w fun e w' => e = .returned (.int .u8 (pad s i : Nat)) ∧ w' = w := by
  by_cases h : i < s.size
  · have hp := hide (pad_in s i h)
    go_enter Try.func34, Try.ntmps34
    go_wp2
    go_ret
    exact ⟨ret_int (by rw [hp.out]), rfl⟩
  · have hp := hide (pad_out s i (by omega))
    go_enter Try.func34, Try.ntmps34
    go_wp2
    go_ret
    exact ⟨ret_int (by rw [hp.out]; rfl), rfl⟩

theorem cmpU_any (a b : Nat) (w : World) :
    Calls Try.prog 27 #[.int .u64 (a : Int), .int .u64 (b : Int)] w fun e w' => e = .returned (.int .i64 (cmpI a b)) ∧ w' = w := by
  by_cases h1 : a < b
  · have h1' : (a : Int) < (b : Int) := by omega
    have hc := hide (show cmpI a b = -1 by unfold cmpI; rw [if_pos h1])
    go_enter Try.func27, Try.ntmps27
    go_wp2
    go_ret
    exact ⟨ret_int hc.out.symm, rfl⟩
  by_cases h2 : b < a
  · have h1' : (b : Int) < (a : Int) := by omega
    have hc := hide (show cmpI a b = 1 by unfold cmpI; rw [if_neg h1, if_pos h2])
    go_enter Try.func27, Try.ntmps27
    go_wp2
    go_ret
    exact ⟨ret_int hc.out.symm, rfl⟩
  · have hc := hide (show cmpI a b = 0 by unfold cmpI; rw [if_neg h1, if_neg h2])
    have h1' : ¬ (a : Int) < (b : Int) := by omega
    have h2' : ¬ (b : Int) < (a : Int) := by omega
    go_enter Try.func27, Try.ntmps27
    go_wp2
    go_ret
    exact ⟨ret_int hc.out.symm, rfl⟩

theorem orderOf_str (s : ByteArray) (u : Bool) (w : World) :
    Calls Try.prog 29 #[.agg #[.int .u8 2, .int .i64 0, .string s], .bool u] w fun e w' => e = .returned (.int .u64 (numf (pad s) 8 : Nat)) ∧ Grown w w' := by
  go_enter Try.func29, Try.ntmps29
  go_wp2
  go_loop [5, 21] (fun n i => ∃ k : Nat, k ≤ 8 ∧ i = .int .i64 k ∧ n = .int .u64 (numf (pad s) k : Nat)) (fun _ i => 8 - (intOf i).toNat)
  case atStart => exact ⟨0, by omega, rfl, rfl⟩
  case round =>
    obtain ⟨k, hk, rfl, rfl⟩ := hrel
    by_cases hlt : k < 8
    · by_cases hin : k < s.size
      · have hst := hide (step_in s k (by omega) hin)
        go_wp2
        go_round
        case rel => exact ⟨k + 1, by omega, by go_num, val_int hst.out⟩
        case measure => simp [intOf]; omega
      · have hst := hide (step_out s k (by omega) hin)
        go_wp2
        go_round
        case rel => exact ⟨k + 1, by omega, by go_num, val_int hst.out⟩
        case measure => simp [intOf]; omega
    · obtain rfl : k = 8 := by omega
      go_wp2
      go_ret
      exact ⟨rfl, (Grown.refl _).alloc _ _⟩

theorem zzOrderOf_str (s : ByteArray) (u : Bool) (w : World) :
    Calls Try.prog 9 #[.agg #[.int .u8 2, .int .i64 0, .string s], .bool u] w fun e w' => e = .returned (.int .u64 (numf (pad s) 8 : Nat)) ∧ Grown w w' := by
  go_enter Try.func9, Try.ntmps9
  go_wp2_with fail
  refine (orderOf_str s u _).mono ?_
  rintro e w' ⟨rfl, hg⟩
  go_wp2_with fail
  go_ret
  exact ⟨rfl, grown_trans ((Grown.refl _).alloc _ _) hg⟩

/-- 'zzComparePadded8' orders as the two numbers are ordered. -/
theorem padded_any (s t : ByteArray) (w : World) :
    Calls Try.prog 28 #[.string s, .string t] w fun e w' => e = .returned (.int .i64 (cmpI (numf (pad s) 8) (numf (pad t) 8))) ∧ w' = w := by
  go_enter Try.func28, Try.ntmps28
  go_wp2
  go_loop [5] (fun i => ∃ k : Nat, k ≤ 8 ∧ i = .int .i64 k ∧ ∀ j, j < k → pad s j = pad t j) (fun i => 8 - (intOf i).toNat)
  case atStart => exact ⟨0, by omega, rfl, fun j hj => by omega⟩
  case round =>
    obtain ⟨k, hk, rfl, heq⟩ := hrel
    have HE := hide heq
    clear heq
    by_cases hlt : k < 8
    · by_cases h1 : pad s k < pad t k
      · have h1' : ((pad s k : Nat) : Int) < ((pad t k : Nat) : Int) := by omega
        have hc := hide (show cmpI (numf (pad s) 8) (numf (pad t) 8) = -1 by unfold cmpI; rw [if_pos (num8_lt _ _ (pad_lt s) k hlt HE.out h1)])
        go_wp2_with fail
        refine (padByte_any s k _).mono ?_
        rintro e w1 ⟨rfl, rfl⟩
        go_wp2_with fail
        refine (padByte_any t k _).mono ?_
        rintro e w1 ⟨rfl, rfl⟩
        go_wp2_with fail
        go_ret
        exact ⟨ret_int hc.out.symm, rfl⟩
      by_cases h2 : pad t k < pad s k
      · have h1' : ((pad t k : Nat) : Int) < ((pad s k : Nat) : Int) := by omega
        have hlt2 := num8_lt _ _ (pad_lt t) k hlt (fun j hj => (HE.out j hj).symm) h2
        have hc := hide (show cmpI (numf (pad s) 8) (numf (pad t) 8) = 1 by unfold cmpI; rw [if_neg (by omega), if_pos hlt2])
        clear hlt2
        go_wp2_with fail
        refine (padByte_any s k _).mono ?_
        rintro e w1 ⟨rfl, rfl⟩
        go_wp2_with fail
        refine (padByte_any t k _).mono ?_
        rintro e w1 ⟨rfl, rfl⟩
        go_wp2_with fail
        go_ret
        exact ⟨ret_int hc.out.symm, rfl⟩
      · have h1' : ¬ ((pad s k : Nat) : Int) < ((pad t k : Nat) : Int) := by omega
        have h2' : ¬ ((pad t k : Nat) : Int) < ((pad s k : Nat) : Int) := by omega
        go_wp2_with fail
        refine (padByte_any s k _).mono ?_
        rintro e w1 ⟨rfl, rfl⟩
        go_wp2_with fail
        refine (padByte_any t k _).mono ?_
        rintro e w1 ⟨rfl, rfl⟩
        go_wp2_with fail
        go_round
        case rel => exact ⟨k + 1, by omega, by go_num, upto_all HE.out (by omega)⟩
        case measure => simp [intOf]; omega
    · have he8 := numf_congr (pad s) (pad t) 8 (fun j hj => HE.out j (by omega))
      have hc := hide (show cmpI (numf (pad s) 8) (numf (pad t) 8) = 0 by unfold cmpI; rw [if_neg (by omega), if_neg (by omega)])
      clear he8
      go_wp2_with fail
      go_ret
      exact ⟨ret_int hc.out.symm, rfl⟩

/-- 'zzCompareBytes': -1, 1 or 0, and how the two numbers then stand. -/
def Stands (c : Int) (s t : ByteArray) : Prop :=
  (c = -1 ∧ numf (pad s) 8 ≤ numf (pad t) 8) ∨ (c = 1 ∧ numf (pad t) 8 ≤ numf (pad s) 8) ∨ (c = 0 ∧ numf (pad s) 8 = numf (pad t) 8)

set_option maxRecDepth 100000 in
set_option maxHeartbeats 1000000 in
theorem compareBytes_any (s t : ByteArray) (hs : s.size ≤ 9223372036854775807) (ht : t.size ≤ 9223372036854775807) (w : World) :
    Calls Try.prog 26 #[.string s, .string t] w fun e w' => ∃ c, e = .returned (.int .i64 c) ∧ Stands c s t ∧ Grown w w' := by
  go_enter Try.func26, Try.ntmps26
  go_wp2
  go_loopw [5] (fun i wr => ∃ k : Nat, k ≤ s.size ∧ k ≤ t.size ∧ i = .int .i64 k ∧ (∀ j, j < k → pad s j = pad t j) ∧ Grown w wr) (fun i _ => s.size - (intOf i).toNat)
  case atStart => exact ⟨0, by omega, by omega, rfl, fun j hj => by omega, Grown.refl _⟩
  case round =>
    obtain ⟨k, hk, hk', rfl, heq, hg⟩ := hrel
    have HE := hide heq
    clear heq
    by_cases h1 : k < s.size
    · have i1 : (k : Int) < (s.size : Int) := by omega
      by_cases h2 : k < t.size
      · have i2 : (k : Int) < (t.size : Int) := by omega
        have e1 := hide (pad_in s k h1)
        have e2 := hide (pad_in t k h2)
        by_cases p1 : (s[k]'h1).toNat < (t[k]'h2).toNat
        · have p1' : (((s[k]'h1).toNat : Nat) : Int) < (((t[k]'h2).toNat : Nat) : Int) := by omega
          have hle := hide (num8_le (pad s) (pad t) (pad_lt s) k HE.out (by rw [e1.out, e2.out]; exact p1))
          go_wp2_with fail
          go_quiet (fail)
          go_wp2_with fail
          go_quiet (fail)
          go_wp2_with fail
          go_ret
          exact ⟨_, rfl, .inl ⟨rfl, hle.out⟩, hg⟩
        by_cases p2 : (t[k]'h2).toNat < (s[k]'h1).toNat
        · have p1' : ¬ (((s[k]'h1).toNat : Nat) : Int) < (((t[k]'h2).toNat : Nat) : Int) := by omega
          have p2' : (((t[k]'h2).toNat : Nat) : Int) < (((s[k]'h1).toNat : Nat) : Int) := by omega
          have hle := hide (num8_le (pad t) (pad s) (pad_lt t) k (fun j hj => (HE.out j hj).symm) (by rw [e1.out, e2.out]; exact p2))
          go_wp2_with fail
          go_quiet (fail)
          go_wp2_with fail
          go_quiet (fail)
          go_wp2_with fail
          go_ret
          exact ⟨_, rfl, .inr (.inl ⟨rfl, hle.out⟩), hg⟩
        · have p3 : (((s[k]'h1).toNat : Nat) : Int) = (((t[k]'h2).toNat : Nat) : Int) := by omega
          have HP := hide (show pad s k = pad t k by rw [e1.out, e2.out]; omega)
          go_wp2_with fail
          go_quiet (fail)
          go_wp2_with fail
          go_roundw
          case rel => exact ⟨k + 1, by omega, by omega, by go_num, upto_all HE.out HP.out, hg⟩
          case measure => simp [intOf]; omega
      · have i2 : decide ((k : Int) < (t.size : Int)) = false := decide_eq_false (by omega)
        have i3 : ¬ (s.size : Int) < (t.size : Int) := by omega
        have i4 : (t.size : Int) < (s.size : Int) := by omega
        have hle := hide (num8_le0 (pad t) (pad s) k (fun j hj => (HE.out j hj).symm) (fun j hj => pad_out t j (by omega)))
        go_wp2_with fail
        go_ret
        exact ⟨_, rfl, .inr (.inl ⟨rfl, hle.out⟩), hg⟩
    · have hle := hide (num8_le0 (pad s) (pad t) k HE.out (fun j hj => pad_out s j (by omega)))
      by_cases h2 : s.size < t.size
      · have i3 : (s.size : Int) < (t.size : Int) := by omega
        go_wp2_with fail
        go_ret
        exact ⟨_, rfl, .inl ⟨rfl, hle.out⟩, hg⟩
      · have i3 : ¬ (s.size : Int) < (t.size : Int) := by omega
        have i4 : ¬ (t.size : Int) < (s.size : Int) := by omega
        have hle2 := hide (num8_le0 (pad t) (pad s) k (fun j hj => (HE.out j hj).symm) (fun j hj => pad_out t j (by omega)))
        go_wp2_with fail
        go_ret
        exact ⟨_, rfl, .inr (.inr ⟨rfl, Nat.le_antisymm hle.out hle2.out⟩), hg⟩

/-- The law. -/
theorem monotone_any (s t : ByteArray) (u : Bool) (hs : s.size ≤ 9223372036854775807) (ht : t.size ≤ 9223372036854775807) (w : World) :
    Calls Try.prog 8 #[.string s, .string t, .bool u] w fun e w' => e = .returned (.bool true) ∧ Grown w w' := by
  go_enter Try.func8, Try.ntmps8
  go_wp2_with fail
  refine (bytesStr_any s t u hs ht _).mono ?_
  rintro e w1 ⟨b, rfl, rfl⟩
  cases b
  · go_wp2_with fail
    go_ret
    exact ⟨rfl, Grown.refl _⟩
  by_cases q0 : s.size ≤ 1048576
  rotate_left
  · go_wp2_with fail
    go_ret
    exact ⟨rfl, Grown.refl _⟩
  by_cases q1 : t.size ≤ 1048576
  rotate_left
  · go_wp2_with fail
    go_ret
    exact ⟨rfl, Grown.refl _⟩
  by_cases q2 : s.size + t.size ≤ 1048576
  rotate_left
  · go_wp2_with fail
    go_ret
    exact ⟨rfl, Grown.refl _⟩
  go_wp2_with fail
  refine (zzOrderOf_str s u _).mono ?_
  rintro e w2 ⟨rfl, hg2⟩
  go_wp2_with fail
  refine (zzOrderOf_str t u _).mono ?_
  rintro e w3 ⟨rfl, hg3⟩
  go_wp2_with fail
  refine (compareBytes_any s t hs ht _).mono ?_
  rintro e w4 ⟨c, rfl, hst, hg4⟩
  have hG := grown_trans (grown_trans hg2 hg3) hg4
  rcases hst with ⟨rfl, hl⟩ | ⟨rfl, hl⟩ | ⟨rfl, hl⟩
  · have hl' : ¬ ((numf (pad t) 8 : Nat) : Int) < ((numf (pad s) 8 : Nat) : Int) := by omega
    clear hl
    go_wp2_with fail
    refine (cmpU_any _ _ _).mono ?_
    rintro e w5 ⟨rfl, rfl⟩
    go_wp2_with fail
    refine (padded_any s t _).mono ?_
    rintro e w5 ⟨rfl, rfl⟩
    go_wp2_with fail
    go_ret
    exact ⟨by simp, hG⟩
  · have hl' : ¬ ((numf (pad s) 8 : Nat) : Int) < ((numf (pad t) 8 : Nat) : Int) := by omega
    clear hl
    go_wp2_with fail
    refine (cmpU_any _ _ _).mono ?_
    rintro e w5 ⟨rfl, rfl⟩
    go_wp2_with fail
    refine (padded_any s t _).mono ?_
    rintro e w5 ⟨rfl, rfl⟩
    go_wp2_with fail
    go_ret
    exact ⟨by simp, hG⟩
  · have hl' : (((numf (pad s) 8 : Nat) : Int) != ((numf (pad t) 8 : Nat) : Int)) = false := by rw [hl]; simp
    clear hl
    go_wp2_with fail
    refine (cmpU_any _ _ _).mono ?_
    rintro e w5 ⟨rfl, rfl⟩
    go_wp2_with fail
    refine (padded_any s t _).mono ?_
    rintro e w5 ⟨rfl, rfl⟩
    go_wp2_with fail
    go_ret
    exact ⟨by simp, hG⟩
end Go.Proofs.Qxb6001703a
