/- Contracts of 'zzCopyInt64s', 'zzCopyInts', 'zzCopyStrings'. -/
import Derived.Test.Qxb6001703aMem
namespace Go.Proofs.Qxb6001703a
open Go.ChangeShapes Go.WideShapes Go.ChangeAt Go.RowKit

theorem copyInt64s_nil (n c : Nat) (w : World) :
    Calls Try.prog 12 #[.slice none n c] w fun e w' => e = .returned (.slice none 0 0) ∧ w' = w := by
  have hq := fun (w : World) (a : Option Addr) (n c n' c' : Nat) => Lib.run_eql_slice_nil (P := Try.prog) w 29 2 a n c n' c' Try.underlying29
  go_enter Try.func12, Try.ntmps12
  go_wp2
  go_ret
  exact ⟨rfl, rfl⟩

theorem copyInt64s_empty (x : Addr) (n c : Nat) (f : Nat → Value) (hn : n ≤ 0) (w : World) :
    Calls Try.prog 12 #[.slice (some x) n c] w fun e w' => e = .returned (.slice (some ⟨w.heap.size, 0, none⟩) n n) ∧ w'.rowIs w.heap.size 2 n f ∧ Below w.heap.size w w' := by
  have hq := fun (w : World) (a : Option Addr) (n c n' c' : Nat) => Lib.run_eql_slice_nil (P := Try.prog) w 29 2 a n c n' c' Try.underlying29
  have hmk := run_make_row' (P := Try.prog) 29 2 (.int .i64 0) 8 Try.underlying29 Try.info2 rfl .i64 .i64 n (by omega) (by omega)
  go_enter Try.func12, Try.ntmps12
  go_wp2
  refine wp_loop_rounds 1 ?_
  rw [rounds_succ]
  go_wp2
  go_ret
  exact ⟨rfl, (World.rowIs_made w (.int .i64 0) n 2).congr (fun i hi => by omega), (Below.refl _ _).alloc (Nat.le_refl _) _⟩

theorem copyInt64s_full (b off n c : Nat) (z : Nat → Int) (hn : n ≤ 1048576) (w : World) (hc : ∀ i, i < n → w.cell? ⟨b, off + i, none⟩ = some (.int .i64 (z i))) (hb : b < w.heap.size) :
    Calls Try.prog 12 #[.slice (some ⟨b, off, none⟩) n c] w fun e w' => e = .returned (.slice (some ⟨w.heap.size, 0, none⟩) n n) ∧ w'.rowIs w.heap.size 2 n (fun i => .int .i64 (z i)) ∧ Below w.heap.size w w' := by
  have hq := fun (w : World) (a : Option Addr) (n c n' c' : Nat) => Lib.run_eql_slice_nil (P := Try.prog) w 29 2 a n c n' c' Try.underlying29
  have hmk := run_make_row' (P := Try.prog) 29 2 (.int .i64 0) 8 Try.underlying29 Try.info2 rfl .i64 .i64 n (by omega) (by omega)
  have hst := (World.rowIs_made w (.int .i64 0) n 2)
  go_enter Try.func12, Try.ntmps12
  go_wp2
  go_loopw [4] (fun i wr => ∃ k : Nat, k ≤ n ∧ i = .int .i64 k ∧ wr.rowIs w.heap.size 2 n (fun j => if j < k then .int .i64 (z j) else .int .i64 0) ∧ Below w.heap.size w wr) (fun i _ => n - (intOf i).toNat)
  case atStart => exact ⟨0, Nat.zero_le _, rfl, hst.congr (fun j _ => by simp), (Below.refl _ _).alloc (Nat.le_refl _) _⟩
  case round =>
    obtain ⟨k, hk, rfl, hrow, hbel⟩ := hrel
    by_cases hlt : k < n
    · have h1 := hc k hlt
      rw [← hbel.cell (p := ⟨b, off + k, none⟩) hb] at h1
      have h2 := hrow.cell hlt
      have h3 := hrow.frozen k
      rw [if_neg (by omega)] at h2
      go_wp2
      go_roundw
      case rel => exact ⟨k + 1, by omega, by go_num, (hrow.set k _).congr (fun j _ => upto_step (fun j => .int .i64 (z j)) (fun _ => .int .i64 0) k j), hbel.setCell (by simp) _⟩
      case measure => simp [intOf]; omega
    · go_wp2
      go_ret
      exact ⟨rfl, hrow.congr (fun j hj => by rw [if_pos (by omega)]), hbel⟩

/-- THE CONTRACT: the copy is nil or a row of its own with the same elements. -/
theorem copyInt64s_any (a : Option Addr) (n c : Nat) (z : Nat → Int) (hn : n ≤ 1048576) (w : World) (h : Reads w a n (fun i => .int .i64 (z i))) :
    Calls Try.prog 12 #[.slice a n c] w fun e w' => ∃ a', e = .returned (.slice a' n n) ∧ a'.isNone = a.isNone ∧ Owns w' w.heap.size 2 a' n (fun i => .int .i64 (z i)) ∧ Below w.heap.size w w' := by
  rcases h.cut with ⟨rfl, rfl⟩ | ⟨x, rfl, h0⟩ | ⟨b, off, hb, rfl, hc⟩
  · refine (copyInt64s_nil 0 c w).mono ?_
    rintro e w' ⟨rfl, rfl⟩
    exact ⟨none, rfl, rfl, .inl ⟨rfl, rfl⟩, Below.refl _ _⟩
  · refine (copyInt64s_empty x n c (fun i => .int .i64 (z i)) (by omega) w).mono ?_
    rintro e w' ⟨rfl, hr, hbel⟩
    exact ⟨_, rfl, rfl, .inr ⟨_, Nat.le_refl _, rfl, hr⟩, hbel⟩
  · refine (copyInt64s_full b off n c z hn w hc hb).mono ?_
    rintro e w' ⟨rfl, hr, hbel⟩
    exact ⟨_, rfl, rfl, .inr ⟨_, Nat.le_refl _, rfl, hr⟩, hbel⟩

theorem copyInts_nil (n c : Nat) (w : World) :
    Calls Try.prog 13 #[.slice none n c] w fun e w' => e = .returned (.slice none 0 0) ∧ w' = w := by
  have hq := fun (w : World) (a : Option Addr) (n c n' c' : Nat) => Lib.run_eql_slice_nil (P := Try.prog) w 30 3 a n c n' c' Try.underlying30
  go_enter Try.func13, Try.ntmps13
  go_wp2
  go_ret
  exact ⟨rfl, rfl⟩

theorem copyInts_empty (x : Addr) (n c : Nat) (f : Nat → Value) (hn : n ≤ 0) (w : World) :
    Calls Try.prog 13 #[.slice (some x) n c] w fun e w' => e = .returned (.slice (some ⟨w.heap.size, 0, none⟩) n n) ∧ w'.rowIs w.heap.size 3 n f ∧ Below w.heap.size w w' := by
  have hq := fun (w : World) (a : Option Addr) (n c n' c' : Nat) => Lib.run_eql_slice_nil (P := Try.prog) w 30 3 a n c n' c' Try.underlying30
  have hmk := run_make_row' (P := Try.prog) 30 3 (.int .i64 0) 8 Try.underlying30 Try.info3 rfl .i64 .i64 n (by omega) (by omega)
  go_enter Try.func13, Try.ntmps13
  go_wp2
  refine wp_loop_rounds 1 ?_
  rw [rounds_succ]
  go_wp2
  go_ret
  exact ⟨rfl, (World.rowIs_made w (.int .i64 0) n 3).congr (fun i hi => by omega), (Below.refl _ _).alloc (Nat.le_refl _) _⟩

theorem copyInts_full (b off n c : Nat) (z : Nat → Int) (hn : n ≤ 1048576) (w : World) (hc : ∀ i, i < n → w.cell? ⟨b, off + i, none⟩ = some (.int .i64 (z i))) (hb : b < w.heap.size) :
    Calls Try.prog 13 #[.slice (some ⟨b, off, none⟩) n c] w fun e w' => e = .returned (.slice (some ⟨w.heap.size, 0, none⟩) n n) ∧ w'.rowIs w.heap.size 3 n (fun i => .int .i64 (z i)) ∧ Below w.heap.size w w' := by
  have hq := fun (w : World) (a : Option Addr) (n c n' c' : Nat) => Lib.run_eql_slice_nil (P := Try.prog) w 30 3 a n c n' c' Try.underlying30
  have hmk := run_make_row' (P := Try.prog) 30 3 (.int .i64 0) 8 Try.underlying30 Try.info3 rfl .i64 .i64 n (by omega) (by omega)
  have hst := (World.rowIs_made w (.int .i64 0) n 3)
  go_enter Try.func13, Try.ntmps13
  go_wp2
  go_loopw [4] (fun i wr => ∃ k : Nat, k ≤ n ∧ i = .int .i64 k ∧ wr.rowIs w.heap.size 3 n (fun j => if j < k then .int .i64 (z j) else .int .i64 0) ∧ Below w.heap.size w wr) (fun i _ => n - (intOf i).toNat)
  case atStart => exact ⟨0, Nat.zero_le _, rfl, hst.congr (fun j _ => by simp), (Below.refl _ _).alloc (Nat.le_refl _) _⟩
  case round =>
    obtain ⟨k, hk, rfl, hrow, hbel⟩ := hrel
    by_cases hlt : k < n
    · have h1 := hc k hlt
      rw [← hbel.cell (p := ⟨b, off + k, none⟩) hb] at h1
      have h2 := hrow.cell hlt
      have h3 := hrow.frozen k
      rw [if_neg (by omega)] at h2
      go_wp2
      go_roundw
      case rel => exact ⟨k + 1, by omega, by go_num, (hrow.set k _).congr (fun j _ => upto_step (fun j => .int .i64 (z j)) (fun _ => .int .i64 0) k j), hbel.setCell (by simp) _⟩
      case measure => simp [intOf]; omega
    · go_wp2
      go_ret
      exact ⟨rfl, hrow.congr (fun j hj => by rw [if_pos (by omega)]), hbel⟩

/-- THE CONTRACT: the copy is nil or a row of its own with the same elements. -/
theorem copyInts_any (a : Option Addr) (n c : Nat) (z : Nat → Int) (hn : n ≤ 1048576) (w : World) (h : Reads w a n (fun i => .int .i64 (z i))) :
    Calls Try.prog 13 #[.slice a n c] w fun e w' => ∃ a', e = .returned (.slice a' n n) ∧ a'.isNone = a.isNone ∧ Owns w' w.heap.size 3 a' n (fun i => .int .i64 (z i)) ∧ Below w.heap.size w w' := by
  rcases h.cut with ⟨rfl, rfl⟩ | ⟨x, rfl, h0⟩ | ⟨b, off, hb, rfl, hc⟩
  · refine (copyInts_nil 0 c w).mono ?_
    rintro e w' ⟨rfl, rfl⟩
    exact ⟨none, rfl, rfl, .inl ⟨rfl, rfl⟩, Below.refl _ _⟩
  · refine (copyInts_empty x n c (fun i => .int .i64 (z i)) (by omega) w).mono ?_
    rintro e w' ⟨rfl, hr, hbel⟩
    exact ⟨_, rfl, rfl, .inr ⟨_, Nat.le_refl _, rfl, hr⟩, hbel⟩
  · refine (copyInts_full b off n c z hn w hc hb).mono ?_
    rintro e w' ⟨rfl, hr, hbel⟩
    exact ⟨_, rfl, rfl, .inr ⟨_, Nat.le_refl _, rfl, hr⟩, hbel⟩

theorem copyStrings_nil (n c : Nat) (w : World) :
    Calls Try.prog 18 #[.slice none n c] w fun e w' => e = .returned (.slice none 0 0) ∧ w' = w := by
  have hq := fun (w : World) (a : Option Addr) (n c n' c' : Nat) => Lib.run_eql_slice_nil (P := Try.prog) w 39 9 a n c n' c' Try.underlying39
  go_enter Try.func18, Try.ntmps18
  go_wp2
  go_ret
  exact ⟨rfl, rfl⟩

theorem copyStrings_empty (x : Addr) (n c : Nat) (f : Nat → Value) (hn : n ≤ 0) (w : World) :
    Calls Try.prog 18 #[.slice (some x) n c] w fun e w' => e = .returned (.slice (some ⟨w.heap.size, 0, none⟩) n n) ∧ w'.rowIs w.heap.size 9 n f ∧ Below w.heap.size w w' := by
  have hq := fun (w : World) (a : Option Addr) (n c n' c' : Nat) => Lib.run_eql_slice_nil (P := Try.prog) w 39 9 a n c n' c' Try.underlying39
  have hmk := run_make_row' (P := Try.prog) 39 9 (.string ⟨#[]⟩) 16 Try.underlying39 Try.info9 rfl .i64 .i64 n (by omega) (by omega)
  go_enter Try.func18, Try.ntmps18
  go_wp2
  refine wp_loop_rounds 1 ?_
  rw [rounds_succ]
  go_wp2
  go_ret
  exact ⟨rfl, (World.rowIs_made w (.string ⟨#[]⟩) n 9).congr (fun i hi => by omega), (Below.refl _ _).alloc (Nat.le_refl _) _⟩

theorem copyStrings_full (b off n c : Nat) (z : Nat → ByteArray) (hn : n ≤ 1048576) (w : World) (hc : ∀ i, i < n → w.cell? ⟨b, off + i, none⟩ = some (.string (z i))) (hb : b < w.heap.size) :
    Calls Try.prog 18 #[.slice (some ⟨b, off, none⟩) n c] w fun e w' => e = .returned (.slice (some ⟨w.heap.size, 0, none⟩) n n) ∧ w'.rowIs w.heap.size 9 n (fun i => .string (z i)) ∧ Below w.heap.size w w' := by
  have hq := fun (w : World) (a : Option Addr) (n c n' c' : Nat) => Lib.run_eql_slice_nil (P := Try.prog) w 39 9 a n c n' c' Try.underlying39
  have hmk := run_make_row' (P := Try.prog) 39 9 (.string ⟨#[]⟩) 16 Try.underlying39 Try.info9 rfl .i64 .i64 n (by omega) (by omega)
  have hst := (World.rowIs_made w (.string ⟨#[]⟩) n 9)
  go_enter Try.func18, Try.ntmps18
  go_wp2
  go_loopw [4] (fun i wr => ∃ k : Nat, k ≤ n ∧ i = .int .i64 k ∧ wr.rowIs w.heap.size 9 n (fun j => if j < k then .string (z j) else .string ⟨#[]⟩) ∧ Below w.heap.size w wr) (fun i _ => n - (intOf i).toNat)
  case atStart => exact ⟨0, Nat.zero_le _, rfl, hst.congr (fun j _ => by simp), (Below.refl _ _).alloc (Nat.le_refl _) _⟩
  case round =>
    obtain ⟨k, hk, rfl, hrow, hbel⟩ := hrel
    by_cases hlt : k < n
    · have h1 := hc k hlt
      rw [← hbel.cell (p := ⟨b, off + k, none⟩) hb] at h1
      have h2 := hrow.cell hlt
      have h3 := hrow.frozen k
      rw [if_neg (by omega)] at h2
      go_wp2
      go_roundw
      case rel => exact ⟨k + 1, by omega, by go_num, (hrow.set k _).congr (fun j _ => upto_step (fun j => .string (z j)) (fun _ => .string ⟨#[]⟩) k j), hbel.setCell (by simp) _⟩
      case measure => simp [intOf]; omega
    · go_wp2
      go_ret
      exact ⟨rfl, hrow.congr (fun j hj => by rw [if_pos (by omega)]), hbel⟩

/-- THE CONTRACT: the copy is nil or a row of its own with the same elements. -/
theorem copyStrings_any (a : Option Addr) (n c : Nat) (z : Nat → ByteArray) (hn : n ≤ 1048576) (w : World) (h : Reads w a n (fun i => .string (z i))) :
    Calls Try.prog 18 #[.slice a n c] w fun e w' => ∃ a', e = .returned (.slice a' n n) ∧ a'.isNone = a.isNone ∧ Owns w' w.heap.size 9 a' n (fun i => .string (z i)) ∧ Below w.heap.size w w' := by
  rcases h.cut with ⟨rfl, rfl⟩ | ⟨x, rfl, h0⟩ | ⟨b, off, hb, rfl, hc⟩
  · refine (copyStrings_nil 0 c w).mono ?_
    rintro e w' ⟨rfl, rfl⟩
    exact ⟨none, rfl, rfl, .inl ⟨rfl, rfl⟩, Below.refl _ _⟩
  · refine (copyStrings_empty x n c (fun i => .string (z i)) (by omega) w).mono ?_
    rintro e w' ⟨rfl, hr, hbel⟩
    exact ⟨_, rfl, rfl, .inr ⟨_, Nat.le_refl _, rfl, hr⟩, hbel⟩
  · refine (copyStrings_full b off n c z hn w hc hb).mono ?_
    rintro e w' ⟨rfl, hr, hbel⟩
    exact ⟨_, rfl, rfl, .inr ⟨_, Nat.le_refl _, rfl, hr⟩, hbel⟩
end Go.Proofs.Qxb6001703a
