/- The walk of 'FnRowReadComposes'. -/
import Derived.Test.Qxb6001703aRead
import Derived.Deep.QuietTactic
import Derived.BigQuiet
import Derived.RegionTactic
import Derived.Deep.RegionHeld3
namespace Go.Proofs.Qxb6001703a
open Go.ChangeShapes Go.WideShapes Go.ChangeAt Go.RowKit

theorem bytes3_any (a0 a1 a2 : Option Addr) (n0 c0 n1 c1 n2 c2 : Nat) (h0 : n0 ≤ 9223372036854775807) (h1 : n1 ≤ 9223372036854775807) (h2 : n2 ≤ 9223372036854775807) (w : World) :
    Calls Try.prog 11 #[.slice a0 n0 c0, .slice a1 n1 c1, .slice a2 n2 c2] w fun e w' => ∃ b, e = .returned (.bool b) ∧ w' = w := by
  go_enter Try.func11, Try.ntmps11
  go_wp2
  all_goals go_ret
  all_goals exact ⟨_, rfl, rfl⟩

theorem reads_of_row {w : World} {g n : Nat} {t : TypeId} {v : Nat → Value} (h : w.rowIs g t n v) : Reads w (some ⟨g, 0, none⟩) n v :=
  .inr ⟨_, rfl, fun i hi => by rw [add_plain]; simpa using h.cell hi⟩

set_option maxRecDepth 100000 in
set_option maxHeartbeats 4000000 in
theorem comp_any (a0 a1 a2 : Option Addr) (n0 c0 n1 c1 n2 c2 : Nat) (z0 z1 z2 : Nat → Int) (h0 : n0 ≤ 9223372036854775807) (h1 : n1 ≤ 9223372036854775807) (h2 : n2 ≤ 9223372036854775807) (w : World)
    (r0 : Reads w a0 n0 (fun i => .int .i64 (z0 i))) (r1 : Reads w a1 n1 (fun i => .int .i64 (z1 i))) (r2 : Reads w a2 n2 (fun i => .int .i64 (z2 i))) :
    Calls Try.prog 4 #[.slice a0 n0 c0, .slice a1 n1 c1, .slice a2 n2 c2] w fun e w' => e = .returned (.bool true) ∧ Below w.heap.size w w' := by
  go_enter Try.func4, Try.ntmps4
  go_wp2_with fail
  refine (bytes3_any _ _ _ _ _ _ _ _ _ h0 h1 h2 _).mono ?_
  rintro e w1 ⟨b, rfl, rfl⟩
  cases b
  · go_wp2_with fail
    go_ret
    exact ⟨rfl, Below.refl _ _⟩
  by_cases q0 : n0 ≤ 65536
  rotate_left
  · go_wp2_with fail
    go_ret
    exact ⟨rfl, Below.refl _ _⟩
  by_cases q1 : n1 ≤ 65536
  rotate_left
  · go_wp2_with fail
    go_ret
    exact ⟨rfl, Below.refl _ _⟩
  by_cases q2 : n2 ≤ 65536
  rotate_left
  · go_wp2_with fail
    go_ret
    exact ⟨rfl, Below.refl _ _⟩
  by_cases q3 : 8 * (n0 + n1 + n2) ≤ 1048576
  rotate_left
  · go_wp2_with fail
    go_ret
    exact ⟨rfl, Below.refl _ _⟩
  have d0 : decide ((65536 : Int) < (n0 : Int)) = false := decide_eq_false (by omega)
  have d1 : decide ((65536 : Int) < (n1 : Int)) = false := decide_eq_false (by omega)
  have d2 : decide ((65536 : Int) < (n2 : Int)) = false := decide_eq_false (by omega)
  have d3 : decide ((1048576 : Int) < 8 * ((n0 : Int) + (n1 : Int) + (n2 : Int))) = false := decide_eq_false (by omega)
  go_wp2_with fail
  clear d0 d1 d2 d3
  go_loop [7] (fun i => ∃ k : Nat, k ≤ n1 ∧ i = .int .i64 k ∧ ∀ j, j < k → 0 ≤ z1 j ∧ z1 j < (n0 : Int)) (fun i => n1 - (intOf i).toNat)
  case atStart => exact ⟨0, Nat.zero_le _, rfl, fun j hj => by omega⟩
  case round =>
  obtain ⟨k, hk, rfl, hin1⟩ := hrel
  by_cases hlt : k < n1
  · obtain ⟨b, off, hb, rfl, hcc⟩ := r1.at (by omega)
    have g1 := hcc k hlt
    by_cases p0 : z1 k < 0
    · go_wp2_with fail
      go_ret
      exact ⟨rfl, Below.refl _ _⟩
    by_cases p1 : (n0 : Int) ≤ z1 k
    · go_wp2_with fail
      go_ret
      exact ⟨rfl, Below.refl _ _⟩
    go_wp2_with fail
    go_round
    case rel => exact ⟨k + 1, by omega, by go_num, upto_all hin1 (by omega)⟩
    case measure => simp [intOf]; omega
  have in1 : ∀ j, j < n1 → 0 ≤ z1 j ∧ z1 j < (n0 : Int) := fun j hj => hin1 j (by omega)
  clear hin1
  go_wp2_with fail
  go_loop [8] (fun i => ∃ k : Nat, k ≤ n2 ∧ i = .int .i64 k ∧ ∀ j, j < k → 0 ≤ z2 j ∧ z2 j < (n1 : Int)) (fun i => n2 - (intOf i).toNat)
  case atStart => exact ⟨0, Nat.zero_le _, rfl, fun j hj => by omega⟩
  case round =>
  obtain ⟨k2, hk2, rfl, hin2⟩ := hrel
  by_cases hlt2 : k2 < n2
  · obtain ⟨b, off, hb, rfl, hcc⟩ := r2.at (by omega)
    have g1 := hcc k2 hlt2
    by_cases p0 : z2 k2 < 0
    · go_wp2_with fail
      go_ret
      exact ⟨rfl, Below.refl _ _⟩
    by_cases p1 : (n1 : Int) ≤ z2 k2
    · go_wp2_with fail
      go_ret
      exact ⟨rfl, Below.refl _ _⟩
    go_wp2_with fail
    go_round
    case rel => exact ⟨k2 + 1, by omega, by go_num, upto_all hin2 (by omega)⟩
    case measure => simp [intOf]; omega
  have in2 : ∀ j, j < n2 → 0 ≤ z2 j ∧ z2 j < (n1 : Int) := fun j hj => hin2 j (by omega)
  clear hin2
  go_wp2_with fail
  refine (copyInt64s_any a0 n0 c0 z0 (by omega) _ r0).mono ?_
  rintro e v1 ⟨b0, rfl, _, o0, hb1⟩
  go_wp2_with fail
  refine (copyInts_any a1 n1 c1 z1 (by omega) _ (r1.below hb1 (Nat.le_refl _))).mono ?_
  rintro e v2 ⟨b1, rfl, _, o1, hb2⟩
  go_wp2_with fail
  have hb12 : Below w1.heap.size w1 v2 := hb1.trans (hb2.mono hb1.size)
  refine (copyInts_any a2 n2 c2 z2 (by omega) _ (r2.below hb12 (Nat.le_refl _))).mono ?_
  rintro e v3 ⟨b2, rfl, _, o2, hb3⟩
  go_wp2_with fail
  have o0' := (o0.below hb2 (Nat.le_refl _)).below hb3 (Nat.le_refl _)
  have o1' := o1.below hb3 (Nat.le_refl _)
  refine (vals_any b0 n0 n0 z0 (by omega) _ o0'.reads).mono ?_
  rintro e v4 ⟨rfl, ov, hb4⟩
  have hmk := run_make_row' (P := Try.prog) 30 3 (.int .i64 0) 8 Try.underlying30 Try.info3 rfl .i64 .i64 n2 (by omega) (by omega)
  have p0 := o0'.below hb4 (Nat.le_refl _)
  have p1 := o1'.below hb4 (Nat.le_refl _)
  have p2 := o2.below hb4 (Nat.le_refl _)
  have hb14 : Below w1.heap.size w1 v4 := (hb12.trans (hb3.mono hb12.size)).trans (hb4.mono (Nat.le_trans hb12.size hb3.size))
  clear o0 o1 o2 o0' o1' hb1 hb2 hb3 hb12
  have hst := World.rowIs_made v4 (.int .i64 0) n2 3
  go_wp2_with fail
  go_loopw [11] (fun i wr => ∃ k : Nat, k ≤ n2 ∧ i = .int .i64 k ∧ wr.rowIs v4.heap.size 3 n2 (fun j => if j < k then .int .i64 (z1 (z2 j).toNat) else .int .i64 0) ∧ Below v4.heap.size v4 wr) (fun i _ => n2 - (intOf i).toNat)
  case atStart => exact ⟨0, Nat.zero_le _, rfl, hst.congr (fun j _ => by simp), (Below.refl _ _).alloc (Nat.le_refl _) _⟩
  case round =>
  obtain ⟨k3, hk3, rfl, hrow, hbel⟩ := hrel
  by_cases hlt3 : k3 < n2
  · obtain ⟨y0, y1⟩ := in2 k3 hlt3
    obtain ⟨g2, _, rfl, hr2⟩ := p2.at (by omega)
    obtain ⟨g1, _, rfl, hr1⟩ := p1.at (by omega)
    have c2 := (rowIs_below hr2 hbel hr2.lt).cell hlt3
    have c1 := (rowIs_below hr1 hbel hr1.lt).cell (i := (z2 k3).toNat) (by omega)
    have c3 := hrow.cell hlt3
    have f3 := hrow.frozen k3
    rw [if_neg (by omega)] at c3
    go_wp2_with fail
    go_roundw
    case rel => exact ⟨k3 + 1, by omega, by go_num, (hrow.set k3 _).congr (fun j _ => upto_step (fun j => .int .i64 (z1 (z2 j).toNat)) (fun _ => .int .i64 0) k3 j), hbel.setCell (by simp) _⟩
    case measure => simp [intOf]; omega
  have hcomp := hrow.congr (g := fun j => .int .i64 (z1 (z2 j).toNat)) (fun j hj => by rw [if_pos (by omega)])
  clear hrow hst
  have t0 := p0.below hbel (Nat.le_refl _)
  have t1 := p1.below hbel (Nat.le_refl _)
  have t2 := p2.below hbel (Nat.le_refl _)
  have tv := rowIs_below ov hbel ov.lt
  go_wp2_with fail
  refine (rowRead_any _ n0 n1 n1 b1 z0 z1 (by omega) (by omega) _ tv t1.reads in1).mono ?_
  rintro e v5 ⟨g5, rfl, hr5, hb5, _⟩
  have in3 : ∀ j, j < n2 → 0 ≤ z1 (z2 j).toNat ∧ z1 (z2 j).toNat < (n0 : Int) := fun j hj => in1 _ (by have := in2 j hj; omega)
  go_wp2_with fail
  have t2' := t2.below hb5 (Nat.le_refl _)
  refine (rowRead_any _ n1 n2 n2 b2 (fun i => z0 (z1 i).toNat) z2 (by omega) (by omega) _ hr5 t2'.reads in2).mono ?_
  rintro e v6 ⟨g6, rfl, hr6, hb6, _⟩
  have tv' := rowIs_below (rowIs_below tv hb5 tv.lt) hb6 (rowIs_below tv hb5 tv.lt).lt
  have hcomp' := rowIs_below (rowIs_below hcomp hb5 hcomp.lt) hb6 (rowIs_below hcomp hb5 hcomp.lt).lt
  go_wp2_with fail
  refine (rowRead_any _ n0 n2 n2 (some ⟨v4.heap.size, 0, none⟩) z0 (fun j => z1 (z2 j).toNat) (by omega) (by omega) _ tv' (reads_of_row hcomp') in3).mono ?_
  rintro e v7 ⟨g7, rfl, hr7, hb7, _⟩
  have s0 := ((t0.below hb5 (Nat.le_refl _)).below hb6 (Nat.le_refl _)).below hb7 (Nat.le_refl _)
  have hr6' := rowIs_below hr6 hb7 hr6.lt
  have hcomp'' := rowIs_below hcomp' hb7 hcomp'.lt
  have hbw : Below w1.heap.size w1 v7 := hb14.trans ((hbel.mono hb14.size).trans ((hb5.mono (Nat.le_trans hb14.size hbel.size)).trans ((hb6.mono (Nat.le_trans (Nat.le_trans hb14.size hbel.size) hb5.size)).trans (hb7.mono (Nat.le_trans (Nat.le_trans (Nat.le_trans hb14.size hbel.size) hb5.size) hb6.size)))))
  clear hb14 hbel hb5 hb6 hb7 hb4 hr6 hcomp' hcomp t0 t1 t2 t2' tv tv' p0 p1 p2 ov hr5 hmk r0 r1 r2
  go_wp2_with fail
  go_loopw [15] (fun i wr => ∃ k : Nat, k ≤ n2 ∧ i = .int .i64 k ∧ Below v7.heap.size v7 wr) (fun i _ => n2 - (intOf i).toNat)
  case atStart => exact ⟨0, Nat.zero_le _, rfl, Below.refl _ _⟩
  case round =>
  obtain ⟨k4, hk4, rfl, hbel⟩ := hrel
  by_cases hlt4 : k4 < n2
  · obtain ⟨y0, y1⟩ := in3 k4 hlt4
    obtain ⟨g0, _, rfl, hr0⟩ := s0.at (by omega)
    have e0 := (rowIs_below hr0 hbel hr0.lt).cell (i := (z1 (z2 k4).toNat).toNat) (by omega)
    have ec := (rowIs_below hcomp'' hbel hcomp''.lt).cell hlt4
    have u0 := (rowIs_below hr6' hbel hr6'.lt).cell (i := k4 * 3) (by omega)
    have u1 := (rowIs_below hr6' hbel hr6'.lt).cell (i := k4 * 3 + 1) (by omega)
    have u2 := (rowIs_below hr6' hbel hr6'.lt).cell (i := k4 * 3 + 2) (by omega)
    rw [vflat0] at u0
    rw [vflat1] at u1
    rw [vflat2] at u2
    have x0 := (rowIs_below hr7 hbel hr7.lt).cell (i := k4 * 3) (by omega)
    have x1 := (rowIs_below hr7 hbel hr7.lt).cell (i := k4 * 3 + 1) (by omega)
    have x2 := (rowIs_below hr7 hbel hr7.lt).cell (i := k4 * 3 + 2) (by omega)
    rw [vflat0] at x0
    rw [vflat1] at x1
    rw [vflat2] at x2
    have i0 : (0 : Int) ≤ (k4 : Int) := by omega
    have i1 : (k4 : Int) < (n2 : Int) := by omega
    go_wp2_with fail
    go_quiet (fail)
    go_wp2_with fail
    go_region_held3 (fun w' => w'.cell? ⟨g7, k4 * 3, none⟩ = some (.int .u8 1) ∧ w'.cell? ⟨g7, k4 * 3 + 1, none⟩ = some (.int .i64 (z0 (z1 (z2 k4).toNat).toNat)) ∧ w'.cell? ⟨g7, k4 * 3 + 2, none⟩ = some (.string ⟨#[]⟩) ∧ w'.cell? ⟨v4.heap.size, k4, none⟩ = some (.int .i64 (z1 (z2 k4).toNat)) ∧ w'.cell? ⟨g0, (z1 (z2 k4).toNat).toNat, none⟩ = some (.int .i64 (z0 (z1 (z2 k4).toNat).toNat))) (go_keep)
      (first | (go_at_call 10; refine (zzIntVal_any _ _).mono ?_; rintro e w' ⟨rfl, rfl⟩))
    go_wp2_with fail
    go_roundw
    case rel => exact ⟨k4 + 1, by omega, by go_num, (below_drewN hbel _).alloc hbel.size _⟩
    case measure => simp [intOf]; omega
  go_wp2_with fail
  go_ret
  exact ⟨rfl, hbw.trans (hbel.mono hbw.size)⟩
end Go.Proofs.Qxb6001703a
