/- Contract of 'zzVals'. -/
import Derived.Test.Qxb6001703aCopy
import Derived.Test.Qxb6001703aOrd
namespace Go.Proofs.Qxb6001703a
open Go.ChangeShapes Go.WideShapes Go.ChangeAt Go.RowKit

/-- The cells of a row of integer Values. -/
def vflat (z : Nat → Int) (i : Nat) : Value := if i % 3 = 0 then .int .u8 1 else if i % 3 = 1 then .int .i64 (z (i / 3)) else .string ⟨#[]⟩
def vzero (i : Nat) : Value := if i % 3 = 0 then .int .u8 0 else if i % 3 = 1 then .int .i64 0 else .string ⟨#[]⟩

theorem vflat0 (z : Nat → Int) (k : Nat) : vflat z (k * 3) = .int .u8 1 := by unfold vflat; rw [if_pos (by omega)]
theorem vflat1 (z : Nat → Int) (k : Nat) : vflat z (k * 3 + 1) = .int .i64 (z k) := by
  unfold vflat; rw [if_neg (by omega), if_pos (by omega)]; congr 2; omega
theorem vflat2 (z : Nat → Int) (k : Nat) : vflat z (k * 3 + 2) = .string ⟨#[]⟩ := by unfold vflat; rw [if_neg (by omega), if_neg (by omega)]
theorem vzero0 (k : Nat) : vzero (k * 3) = .int .u8 0 := by unfold vzero; rw [if_pos (by omega)]
theorem vzero1 (k : Nat) : vzero (k * 3 + 1) = .int .i64 0 := by unfold vzero; rw [if_neg (by omega), if_pos (by omega)]
theorem vzero2 (k : Nat) : vzero (k * 3 + 2) = .string ⟨#[]⟩ := by unfold vzero; rw [if_neg (by omega), if_neg (by omega)]

/-- 'make([]sqlparse.Value, n)'. -/
theorem make_vals (n : Nat) (hn : n ≤ 1048576) (w : World) :
    (Instr.makeSlice 34 (.int .i64 (n : Int)) (.int .i64 (n : Int))).run Try.prog w = .ok (.slice (some ⟨w.heap.size, 0, none⟩) n n) (w.alloc (.cells (madeCells #[.int .u8 0, .int .i64 0, .string ⟨#[]⟩] (n * 3)) 26)) := by
  obtain ⟨i, hi, hzz⟩ := Option.map_eq_some_iff.1 Try.info26
  simp only [Prod.mk.injEq] at hzz
  obtain ⟨hz, hs, hb⟩ := hzz
  have hr := run_make (P := Try.prog) w 34 26 i _ Try.underlying34 hi hz .i64 .i64 n n (by omega) (Int.le_refl _) (by rw [hb]; omega) (by omega)
  simp only [Int.toNat_natCast, hs] at hr
  exact hr

theorem rowIs_vals (w : World) (n : Nat) : (w.alloc (.cells (madeCells #[.int .u8 0, .int .i64 0, .string ⟨#[]⟩] (n * 3)) 26)).rowIs w.heap.size 26 (n * 3) vzero := by
  have h := World.rowIs_alloc w (madeCells #[.int .u8 0, .int .i64 0, .string ⟨#[]⟩] (n * 3)) 26 vzero (fun i hi => by
    rw [size_madeCells] at hi
    have e : i % 3 = 0 ∨ i % 3 = 1 ∨ i % 3 = 2 := by omega
    rcases e with e | e | e <;> simp [madeCells, hi, e, vzero])
  rw [size_madeCells] at h
  exact h

theorem vflat_step (z : Nat → Int) (k j : Nat) :
    (if j = k * 3 + 2 then .string ⟨#[]⟩ else if j = k * 3 + 1 then .int .i64 (z k) else if j = k * 3 then .int .u8 1 else if j < k * 3 then vflat z j else vzero j) = if j < (k + 1) * 3 then vflat z j else vzero j := by
  by_cases h2 : j = k * 3 + 2
  · subst h2; rw [if_pos rfl, if_pos (by omega), vflat2]
  by_cases h1 : j = k * 3 + 1
  · subst h1; rw [if_neg (by omega), if_pos rfl, if_pos (by omega), vflat1]
  by_cases h0 : j = k * 3
  · subst h0; rw [if_neg (by omega), if_neg (by omega), if_pos rfl, if_pos (by omega), vflat0]
  rw [if_neg h2, if_neg h1, if_neg h0]
  by_cases h : j < k * 3
  · rw [if_pos h, if_pos (by omega)]
  · rw [if_neg h, if_neg (by omega)]

theorem vals_empty (a : Option Addr) (n c : Nat) (f : Nat → Value) (hn : n ≤ 0) (w : World) :
    Calls Try.prog 14 #[.slice a n c] w fun e w' => e = .returned (.slice (some ⟨w.heap.size, 0, none⟩) n n) ∧ w'.rowIs w.heap.size 26 (n * 3) f ∧ Below w.heap.size w w' := by
  have hmk := make_vals n (by omega)
  have hst := rowIs_vals w n
  go_enter Try.func14, Try.ntmps14
  go_wp2
  refine wp_loop_rounds 1 ?_
  rw [rounds_succ]
  go_wp2
  go_ret
  exact ⟨rfl, hst.congr (fun i hi => by omega), (Below.refl _ _).alloc (Nat.le_refl _) _⟩

theorem vals_full (b off n c : Nat) (z : Nat → Int) (hn : n ≤ 1048576) (w : World) (hc : ∀ i, i < n → w.cell? ⟨b, off + i, none⟩ = some (.int .i64 (z i))) (hb : b < w.heap.size) :
    Calls Try.prog 14 #[.slice (some ⟨b, off, none⟩) n c] w fun e w' => e = .returned (.slice (some ⟨w.heap.size, 0, none⟩) n n) ∧ w'.rowIs w.heap.size 26 (n * 3) (vflat z) ∧ Below w.heap.size w w' := by
  have hmk := make_vals n hn
  have hst := rowIs_vals w n
  go_enter Try.func14, Try.ntmps14
  go_wp2
  go_loopw [4] (fun i wr => ∃ k : Nat, k ≤ n ∧ i = .int .i64 k ∧ wr.rowIs w.heap.size 26 (n * 3) (fun j => if j < k * 3 then vflat z j else vzero j) ∧ Below w.heap.size w wr) (fun i _ => n - (intOf i).toNat)
  case atStart => exact ⟨0, Nat.zero_le _, rfl, hst.congr (fun j _ => by simp), (Below.refl _ _).alloc (Nat.le_refl _) _⟩
  case round =>
    obtain ⟨k, hk, rfl, hrow, hbel⟩ := hrel
    by_cases hlt : k < n
    · have h1 := hc k hlt
      rw [← hbel.cell (p := ⟨b, off + k, none⟩) hb] at h1
      have g0 := (hrow.alloc (.cells #[.int .u8 1, .int .i64 (z k), .string ⟨#[]⟩] 26)).cell (i := k * 3) (by omega)
      have g1 := (hrow.alloc (.cells #[.int .u8 1, .int .i64 (z k), .string ⟨#[]⟩] 26)).cell (i := k * 3 + 1) (by omega)
      have g2 := (hrow.alloc (.cells #[.int .u8 1, .int .i64 (z k), .string ⟨#[]⟩] 26)).cell (i := k * 3 + 2) (by omega)
      rw [if_neg (by omega)] at g0 g1 g2
      rw [vzero0] at g0
      rw [vzero1] at g1
      rw [vzero2] at g2
      have f0 := (hrow.alloc (.cells #[.int .u8 1, .int .i64 (z k), .string ⟨#[]⟩] 26)).frozen (k * 3)
      have f1 := (hrow.alloc (.cells #[.int .u8 1, .int .i64 (z k), .string ⟨#[]⟩] 26)).frozen (k * 3 + 1)
      have f2 := (hrow.alloc (.cells #[.int .u8 1, .int .i64 (z k), .string ⟨#[]⟩] 26)).frozen (k * 3 + 2)
      go_wp2_with fail
      refine (zzIntVal_any (z k) _).mono ?_
      rintro e w1 ⟨rfl, rfl⟩
      go_wp2_with fail
      go_roundw
      case rel => exact ⟨k + 1, by omega, by go_num, ((((hrow.alloc _).set (k * 3) _).set (k * 3 + 1) _).set (k * 3 + 2) _).congr (fun j _ => vflat_step z k j), (((hbel.alloc hbel.size _).setCell (by simp) _).setCell (by simp) _).setCell (by simp) _⟩
      case measure => simp [intOf]; omega
    · go_wp2
      go_ret
      exact ⟨rfl, hrow.congr (fun j hj => by rw [if_pos (by omega)]), hbel⟩

theorem vals_any (a : Option Addr) (n c : Nat) (z : Nat → Int) (hn : n ≤ 1048576) (w : World) (h : Reads w a n (fun i => .int .i64 (z i))) :
    Calls Try.prog 14 #[.slice a n c] w fun e w' => e = .returned (.slice (some ⟨w.heap.size, 0, none⟩) n n) ∧ w'.rowIs w.heap.size 26 (n * 3) (vflat z) ∧ Below w.heap.size w w' := by
  rcases h.cut with ⟨rfl, h0⟩ | ⟨x, rfl, h0⟩ | ⟨b, off, hb, rfl, hc⟩
  · exact vals_empty none n c _ (by omega) w
  · exact vals_empty (some x) n c _ (by omega) w
  · exact vals_full b off n c z hn w hc hb
end Go.Proofs.Qxb6001703a
