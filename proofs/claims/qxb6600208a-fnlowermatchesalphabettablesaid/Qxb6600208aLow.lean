/- Contracts of 'lower', 'ZZlower', 'zzIsLowerLetter', and the alphabet's round. -/
import Derived.Test.Qxb6600208aRows
import Derived.WalkKit
import Derived.ProofKit
namespace Go.Proofs.Qxb6600208a
open Go.ChangeShapes Go.WideShapes Go.ChangeAt Go.RowKit

/-- What 'lower' gives. -/
def low (c : Int) : Int := if 65 ≤ c ∧ c ≤ 90 then c + 32 else c

theorem lower_any (c : Int) (h0 : 0 ≤ c) (h1 : c ≤ 255) (w : World) :
    Calls Try.prog 8 #[.int .u8 c] w fun e w' => e = .returned (.int .u8 (low c)) ∧ w' = w := by
  by_cases ha : 65 ≤ c
  · by_cases hb : c ≤ 90
    · have hl : low c = c + 97 - 65 := by unfold low; rw [if_pos ⟨ha, hb⟩]; omega
      have HL : Hid (low c = c + 97 - 65) := hl
      clear hl
      go_enter Try.func8, Try.ntmps8
      go_wp2
      go_ret
      rw [HL.out]
      exact ⟨rfl, rfl⟩
    · have hl : low c = c := by unfold low; rw [if_neg (by omega)]
      have HL : Hid (low c = c) := hl
      clear hl
      go_enter Try.func8, Try.ntmps8
      go_wp2
      go_ret
      rw [HL.out]
      exact ⟨rfl, rfl⟩
  · have hl : low c = c := by unfold low; rw [if_neg (by omega)]
    have HL : Hid (low c = c) := hl
    clear hl
    go_enter Try.func8, Try.ntmps8
    go_wp2
    go_ret
    rw [HL.out]
    exact ⟨rfl, rfl⟩

theorem zzlower_any (c : Int) (h0 : 0 ≤ c) (h1 : c ≤ 255) (w : World) :
    Calls Try.prog 6 #[.int .u8 c] w fun e w' => e = .returned (.int .u8 (low c)) ∧ w' = w := by
  go_enter Try.func6, Try.ntmps6
  go_wp2_with (go_at_call 8; refine (lower_any c h0 h1 _).mono ?_; rintro e w' ⟨rfl, rfl⟩)
  go_ret
  exact ⟨rfl, rfl⟩

theorem up_at (k : Nat) (h : k < (⟨#[65, 66, 67, 68, 69, 70, 71, 72, 73, 74, 75, 76, 77, 78, 79, 80, 81, 82, 83, 84, 85, 86, 87, 88, 89, 90]⟩ : ByteArray).size) :
    (((⟨#[65, 66, 67, 68, 69, 70, 71, 72, 73, 74, 75, 76, 77, 78, 79, 80, 81, 82, 83, 84, 85, 86, 87, 88, 89, 90]⟩ : ByteArray)[k]'h).toNat : Int) = 65 + (k : Int) := by
  have key : ∀ j : Fin 26, ((⟨#[65, 66, 67, 68, 69, 70, 71, 72, 73, 74, 75, 76, 77, 78, 79, 80, 81, 82, 83, 84, 85, 86, 87, 88, 89, 90]⟩ : ByteArray)[j.1]'j.2).toNat = 65 + j.1 := by decide
  have := key ⟨k, h⟩
  simp only at this
  omega
theorem lo_at (k : Nat) (h : k < (⟨#[97, 98, 99, 100, 101, 102, 103, 104, 105, 106, 107, 108, 109, 110, 111, 112, 113, 114, 115, 116, 117, 118, 119, 120, 121, 122]⟩ : ByteArray).size) :
    (((⟨#[97, 98, 99, 100, 101, 102, 103, 104, 105, 106, 107, 108, 109, 110, 111, 112, 113, 114, 115, 116, 117, 118, 119, 120, 121, 122]⟩ : ByteArray)[k]'h).toNat : Int) = 97 + (k : Int) := by
  have key : ∀ j : Fin 26, ((⟨#[97, 98, 99, 100, 101, 102, 103, 104, 105, 106, 107, 108, 109, 110, 111, 112, 113, 114, 115, 116, 117, 118, 119, 120, 121, 122]⟩ : ByteArray)[j.1]'j.2).toNat = 97 + j.1 := by decide
  have := key ⟨k, h⟩
  simp only at this
  omega
theorem val_int {k : IntKind} {a b : Int} (h : a = b) : Value.int k a = Value.int k b := by rw [h]
theorem want_same (c : Int) (k : Nat) (h : 65 + (k : Int) ≠ c) :
    (if 65 ≤ c ∧ c < 65 + (k : Int) then c + 32 else c) = if 65 ≤ c ∧ c < 65 + ((k + 1 : Nat) : Int) then c + 32 else c := by
  by_cases hc : 65 ≤ c ∧ c < 65 + (k : Int)
  · rw [if_pos hc, if_pos (by omega)]
  · rw [if_neg hc, if_neg (by omega)]

theorem alphabet_any (c : Int) (h0 : 0 ≤ c) (h1 : c ≤ 255) (w : World) :
    Calls Try.prog 3 #[.int .u8 c] w fun e w' => e = .returned (.bool true) ∧ Grown w w' := by
  go_enter Try.func3, Try.ntmps3
  go_wp2
  go_loop [3, 4] (fun t i => ∃ k : Nat, k ≤ 26 ∧ i = .int .i64 k ∧ t = .int .u8 (if 65 ≤ c ∧ c < 65 + (k : Int) then c + 32 else c)) (fun _ i => 26 - (intOf i).toNat)
  case atStart => exact ⟨0, by omega, rfl, by rw [if_neg (by omega)]⟩
  case round =>
    obtain ⟨k, hk, rfl, rfl⟩ := hrel
    by_cases hlt : k < 26
    · have U := up_at k hlt
      have L := lo_at k hlt
      have HU : Hid _ := U
      have HL : Hid _ := L
      clear U L
      go_wp2
      · have ht := beq_iff_eq.1 (by assumption)
        rw [HU.out] at ht
        go_round
        case rel => exact ⟨k + 1, by omega, by go_num, val_int (by rw [HL.out, if_pos (by omega)]; omega)⟩
        case measure => simp [intOf]; omega
      · have ht := beq_eq_false_iff_ne.1 (by assumption)
        rw [HU.out] at ht
        go_round
        case rel => exact ⟨k + 1, by omega, by go_num, val_int (want_same c k ht)⟩
        case measure => simp [intOf]; omega
    · obtain rfl : k = 26 := by omega
      have hq : (low c == (if 65 ≤ c ∧ c < 91 then c + 32 else c)) = true := by
        unfold low
        by_cases hc : 65 ≤ c ∧ c ≤ 90
        · rw [if_pos hc, if_pos (by omega)]; simp
        · rw [if_neg hc, if_neg (by omega)]; simp
      go_wp2_with (go_at_call 6; refine (zzlower_any c h0 h1 _).mono ?_; rintro e w' ⟨rfl, rfl⟩)
      all_goals go_ret
      all_goals exact ⟨by first | rfl | simp, Grown.refl _⟩
end Go.Proofs.Qxb6600208a
