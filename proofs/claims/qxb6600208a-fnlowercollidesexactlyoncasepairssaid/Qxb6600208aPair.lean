/- 'FnLowerCollidesExactlyOnCasePairs': the plain law over bytes, and the walk. -/
import Derived.Test.Qxb6600208aLow
import Derived.Laws.BitsAllLaws
namespace Go.Proofs.Qxb6600208a
open Go.ChangeShapes Go.WideShapes Go.ChangeAt Go.RowKit

def isl (c : Int) : Bool := decide (97 ≤ c) && decide (c ≤ 122)

theorem isl_any (c : Int) (w : World) :
    Calls Try.prog 7 #[.int .u8 c] w fun e w' => e = .returned (.bool (isl c)) ∧ w' = w := by
  by_cases ha : 97 ≤ c
  · by_cases hb : c ≤ 122
    · have HL : Hid (isl c = true) := (by simp [isl, ha, hb] : isl c = true)
      go_enter Try.func7, Try.ntmps7
      go_wp2
      go_ret
      rw [HL.out]
      exact ⟨rfl, rfl⟩
    · have HL : Hid (isl c = false) := (by simp [isl, hb] : isl c = false)
      go_enter Try.func7, Try.ntmps7
      go_wp2
      go_ret
      rw [HL.out]
      exact ⟨rfl, rfl⟩
  · have HL : Hid (isl c = false) := (by simp [isl, ha] : isl c = false)
    go_enter Try.func7, Try.ntmps7
    go_wp2
    go_ret
    rw [HL.out]
    exact ⟨rfl, rfl⟩

def lowN (a : Nat) : Nat := if 65 ≤ a ∧ a ≤ 90 then a + 32 else a
theorem lowN_int (a : Nat) : low (a : Int) = (lowN a : Int) := by
  unfold low lowN
  by_cases h : 65 ≤ a ∧ a ≤ 90
  · rw [if_pos h, if_pos (by omega)]; omega
  · rw [if_neg h, if_neg (by omega)]

theorem plain_all : ((List.range 256).all fun a => (List.range 256).all fun b => (Nat.beq (lowN a) (lowN b)) == (Nat.beq a b || (Nat.beq (Nat.xor a b) 32 && (Nat.ble 97 (Nat.lor a 32) && Nat.ble (Nat.lor a 32) 122)))) = true := by
  decide +kernel
theorem plain (a b : Nat) (ha : a < 256) (hb : b < 256) : (lowN a == lowN b) = (a == b || ((a ^^^ b == 32) && (decide (97 ≤ (a ||| 32)) && decide ((a ||| 32) ≤ 122)))) := by
  have h := List.all_eq_true.1 (List.all_eq_true.1 plain_all a (List.mem_range.2 ha)) b (List.mem_range.2 hb)
  have h2 := eq_of_beq h
  have e1 : Nat.ble 97 (Nat.lor a 32) = decide (97 ≤ (a ||| 32)) := by
    rw [Bool.eq_iff_iff, Nat.ble_eq]; simp
  have e2 : Nat.ble (Nat.lor a 32) 122 = decide ((a ||| 32) ≤ 122) := by
    rw [Bool.eq_iff_iff, Nat.ble_eq]; simp
  have e3 : ∀ x y : Nat, Nat.beq x y = (x == y) := fun x y => by rw [Bool.eq_iff_iff, Nat.beq_eq]; simp
  rw [e1, e2, e3, e3, e3] at h2
  exact h2

theorem pair_law (a b : Nat) (ha : a < 256) (hb : b < 256) :
    (low a == low b) = ((a : Int) == (b : Int) || ((bits .xor .u8 (a : Int) (b : Int) == 32) && isl (bits .or .u8 (a : Int) 32))) := by
  have h := plain a b ha hb
  have e1 := u8_xor_nat a b ha hb
  have e2 := u8_or_nat a 32 ha (by omega)
  have e2' : bits .or .u8 (a : Int) 32 = ((a ||| 32 : Nat) : Int) := e2
  rw [e1, e2', lowN_int, lowN_int]
  simp only [isl] at h ⊢
  generalize a ^^^ b = x at h ⊢
  generalize a ||| 32 = o at h ⊢
  generalize lowN a = la at h ⊢
  generalize lowN b = lb at h ⊢
  have q1 : ((la : Int) == (lb : Int)) = (la == lb) := by rw [Bool.eq_iff_iff]; simp; omega
  have q2 : ((a : Int) == (b : Int)) = (a == b) := by rw [Bool.eq_iff_iff]; simp; omega
  have q3 : ((x : Int) == 32) = (x == 32) := by rw [Bool.eq_iff_iff]; simp; omega
  have q4 : decide ((97 : Int) ≤ (o : Int)) = decide (97 ≤ o) := by rw [Bool.eq_iff_iff]; simp; omega
  have q5 : decide ((o : Int) ≤ 122) = decide (o ≤ 122) := by rw [Bool.eq_iff_iff]; simp; omega
  rw [q1, q2, q3, q4, q5]
  exact h

theorem pair_any (a b : Nat) (ha : a < 256) (hb : b < 256) (w : World) :
    Calls Try.prog 5 #[.int .u8 a, .int .u8 b] w fun e w' => e = .returned (.bool true) ∧ Grown w w' := by
  have HP : Hid _ := pair_law a b ha hb
  have a0 : (0 : Int) ≤ (a : Int) := by omega
  have a1 : (a : Int) ≤ 255 := by omega
  have b0 : (0 : Int) ≤ (b : Int) := by omega
  have b1 : (b : Int) ≤ 255 := by omega
  cases hx : (bits .xor .u8 (a : Int) (b : Int) == 32) <;> cases hab : ((a : Int) == (b : Int))
  all_goals
    go_enter Try.func5, Try.ntmps5
    go_wp2_with fail
    refine (zzlower_any _ a0 a1 _).mono ?_
    rintro e w' ⟨rfl, rfl⟩
    go_wp2_with fail
    refine (zzlower_any _ b0 b1 _).mono ?_
    rintro e w' ⟨rfl, rfl⟩
    go_wp2_with (go_at_call 7; refine (isl_any _ _).mono ?_; rintro e w' ⟨rfl, rfl⟩)
    have hp := HP.out
    rw [hx, hab] at hp
    go_ret
    refine ⟨congrArg (fun t => Ending.returned (.bool t)) ?_, Grown.refl _⟩
    simpa using hp
end Go.Proofs.Qxb6600208a
