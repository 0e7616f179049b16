/- Plain facts: eight bytes as a number, first byte highest. No Go in sight. -/
import Derived.Laws.BitsAllLaws
namespace Go.Proofs.Qxb6001703a

/-- The number of the first k digits, base 256. -/
def numf (f : Nat → Nat) : Nat → Nat
  | 0 => 0
  | k + 1 => numf f k * 256 + f k

theorem numf_lt (f : Nat → Nat) (hf : ∀ j, f j < 256) : ∀ k, numf f k < 256 ^ k
  | 0 => by simp [numf]
  | k + 1 => by
    have h := numf_lt f hf k
    have h2 := hf k
    rw [numf, Nat.pow_succ]
    omega

theorem numf_congr (f g : Nat → Nat) : ∀ k, (∀ j, j < k → f j = g j) → numf f k = numf g k
  | 0, _ => rfl
  | k + 1, h => by rw [numf, numf, numf_congr f g k (fun j hj => h j (by omega)), h k (by omega)]

theorem numf_le (f g : Nat → Nat) : ∀ k, (∀ j, j < k → f j ≤ g j) → numf f k ≤ numf g k
  | 0, _ => Nat.le_refl _
  | k + 1, h => by
    have h1 := numf_le f g k (fun j hj => h j (by omega))
    have h2 := h k (by omega)
    rw [numf, numf]
    omega

theorem numf_lt_of (f g : Nat → Nat) (hf : ∀ j, f j < 256) (k : Nat) (he : ∀ j, j < k → f j = g j) (hk : f k < g k) : ∀ d, numf f (k + 1 + d) < numf g (k + 1 + d)
  | 0 => by
    show numf f k * 256 + f k < numf g k * 256 + g k
    rw [numf_congr f g k he]
    omega
  | d + 1 => by
    have h := numf_lt_of f g hf k he hk d
    have h2 := hf (k + 1 + d)
    show numf f (k + 1 + d) * 256 + f (k + 1 + d) < numf g (k + 1 + d) * 256 + g (k + 1 + d)
    omega

theorem num8_lt (f g : Nat → Nat) (hf : ∀ j, f j < 256) (k : Nat) (h8 : k < 8) (he : ∀ j, j < k → f j = g j) (hk : f k < g k) : numf f 8 < numf g 8 := by
  have h := numf_lt_of f g hf k he hk (7 - k)
  have e : k + 1 + (7 - k) = 8 := by omega
  rw [e] at h
  exact h

/-- The first difference, wherever it is, says how the two numbers stand. -/
theorem num8_le (f g : Nat → Nat) (hf : ∀ j, f j < 256) (k : Nat) (he : ∀ j, j < k → f j = g j) (hk : f k < g k) : numf f 8 ≤ numf g 8 := by
  by_cases h8 : k < 8
  · exact Nat.le_of_lt (num8_lt f g hf k h8 he hk)
  · exact Nat.le_of_eq (numf_congr f g 8 (fun j hj => he j (by omega)))

/-- One ends in zeros where they first part: it is the lesser. -/
theorem num8_le0 (f g : Nat → Nat) (k : Nat) (he : ∀ j, j < k → f j = g j) (hk : ∀ j, k ≤ j → f j = 0) : numf f 8 ≤ numf g 8 :=
  numf_le f g 8 (fun j _ => by
    by_cases h : j < k
    · exact Nat.le_of_eq (he j h)
    · rw [hk j (by omega)]; exact Nat.zero_le _)

/-- Byte i of s, or 0 past its end. -/
def pad (s : ByteArray) (i : Nat) : Nat := if h : i < s.size then (s[i]'h).toNat else 0

theorem pad_lt (s : ByteArray) (i : Nat) : pad s i < 256 := by
  unfold pad
  split
  · exact UInt8.toNat_lt _
  · omega

theorem pad_in (s : ByteArray) (i : Nat) (h : i < s.size) : pad s i = (s[i]'h).toNat := by unfold pad; rw [dif_pos h]
theorem pad_out (s : ByteArray) (i : Nat) (h : s.size ≤ i) : pad s i = 0 := by unfold pad; rw [dif_neg (by omega)]

def cmpI (a b : Nat) : Int := if a < b then -1 else if b < a then 1 else 0

/-- The lowest byte of a shifted number: 'or' is '+'. -/
theorem or_low (m b : Nat) (hb : b < 256) : (m * 256) ||| b = m * 256 + b := by
  have h := Nat.two_pow_add_eq_or_of_lt (i := 8) (b := b) (by simpa using hb) m
  have e : m * 256 = 2 ^ 8 * m := by omega
  rw [e, h]

theorem numf_bound (f : Nat → Nat) (hf : ∀ j, f j < 256) (k : Nat) (hk : k ≤ 7) : numf f k * 256 + 255 < 18446744073709551616 := by
  have h := numf_lt f hf k
  have h2 : 256 ^ k ≤ 256 ^ 7 := Nat.pow_le_pow_right (by omega) hk
  have h3 : (256 : Nat) ^ 7 = 72057594037927936 := by decide
  omega
end Go.Proofs.Qxb6001703a
