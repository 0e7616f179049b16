/- The walk of 'FnRowReadWholeSharesElseFresh'. -/
import Derived.Test.Qxb6001703aRead
import Derived.Deep.QuietTactic
import Derived.BigQuiet
import Derived.RegionTactic
import Derived.Deep.RegionHeld3
import Derived.LaidEqlPtr
namespace Go.Proofs.Qxb6001703a
open Go.ChangeShapes Go.WideShapes Go.ChangeAt Go.RowKit

theorem bytes2_any (a0 a1 : Option Addr) (n0 c0 n1 c1 : Nat) (h0 : n0 ≤ 9223372036854775807) (h1 : n1 ≤ 9223372036854775807) (w : World) :
    Calls Try.prog 16 #[.slice a0 n0 c0, .slice a1 n1 c1] w fun e w' => ∃ b, e = .returned (.bool b) ∧ w' = w := by
  go_enter Try.func16, Try.ntmps16
  go_wp2
  all_goals go_ret
  all_goals exact ⟨_, rfl, rfl⟩

/-- '&x != &x' is false. -/
theorem neq_same (a : Addr) (w : World) : (binOp .neq 38 (.pointer (some a)) (.pointer (some a))).run Try.prog w = .ok (.bool false) w := by
  obtain ⟨j, hj, _⟩ := Option.map_eq_some_iff.1 Try.info26
  have h : ∀ d : Nat, (Op.equalIn (d + 1) 38 (.pointer (some a)) (.pointer (some a))).run Try.prog w = .ok true w := fun d => by
    simp [Op.equalIn, run_underlying Try.underlying38, sizeOf, typeInfo, hj, run_sameAddr_same]
  simp only [binOp]
  simp [Op.equal, Op.maxDepth, h 9999]

/-- The cells of the sentinel. -/
def sentF (j : Nat) : Value := if j = 0 then .int .u8 5 else if j = 1 then .int .i64 0 else .string ⟨#[122, 122]⟩

set_option maxRecDepth 100000 in
set_option maxHeartbeats 4000000 in
theorem whole_any (a0 a1 : Option Addr) (n0 c0 n1 c1 : Nat) (z0 z1 : Nat → Int) (h0 : n0 ≤ 9223372036854775807) (h1 : n1 ≤ 9223372036854775807) (w : World)
    (r0 : Reads w a0 n0 (fun i => .int .i64 (z0 i))) (r1 : Reads w a1 n1 (fun i => .int .i64 (z1 i))) :
    Calls Try.prog 5 #[.slice a0 n0 c0, .slice a1 n1 c1] w fun e w' => e = .returned (.bool true) ∧ Below w.heap.size w w' := by
  go_enter Try.func5, Try.ntmps5
  go_wp2_with fail
  refine (bytes2_any _ _ _ _ _ _ h0 h1 _).mono ?_
  rintro e w1 ⟨b, rfl, rfl⟩
  cases b
  · go_wp2_with fail
    go_ret
    exact ⟨rfl, Below.refl _ _⟩
  by_cases q0 : n0 ≤ 65536
  rotate_left
  · go_wp2_with fail
    go_ret
    exact ⟨rfl, Below.refl _ _⟩
  by_cases q1 : n1 ≤ 65536
  rotate_left
  · go_wp2_with fail
    go_ret
    exact ⟨rfl, Below.refl _ _⟩
  have d0 : decide ((65536 : Int) < (n0 : Int)) = false := decide_eq_false (by omega)
  have d1 : decide ((65536 : Int) < (n1 : Int)) = false := decide_eq_false (by omega)
  have d3 : decide ((1048576 : Int) < 8 * ((n0 : Int) + (n1 : Int))) = false := decide_eq_false (by omega)
  go_wp2_with fail
  clear d0 d1 d3
  go_loop [5] (fun i => ∃ k : Nat, k ≤ n1 ∧ i = .int .i64 k ∧ ∀ j, j < k → 0 ≤ z1 j ∧ z1 j < (n0 : Int)) (fun i => n1 - (intOf i).toNat)
  case atStart => exact ⟨0, Nat.zero_le _, rfl, fun j hj => by omega⟩
  case round =>
  obtain ⟨k, hk, rfl, hin1⟩ := hrel
  by_cases hlt : k < n1
  · obtain ⟨b, off, hb, rfl, hcc⟩ := r1.at (by omega)
    have g1 := hcc k hlt
    by_cases p0 : z1 k < 0
    · go_wp2_with fail
      go_ret
      exact ⟨rfl, Below.refl _ _⟩
    by_cases p1 : (n0 : Int) ≤ z1 k
    · go_wp2_with fail
      go_ret
      exact ⟨rfl, Below.refl _ _⟩
    go_wp2_with fail
    go_round
    case rel => exact ⟨k + 1, by omega, by go_num, upto_all hin1 (by omega)⟩
    case measure => simp [intOf]; omega
  have in1 : ∀ j, j < n1 → 0 ≤ z1 j ∧ z1 j < (n0 : Int) := fun j hj => hin1 j (by omega)
  clear hin1
  go_wp2_with fail
  refine (copyInt64s_any a0 n0 c0 z0 (by omega) _ r0).mono ?_
  rintro e v1 ⟨b0, rfl, _, o0, hb1⟩
  go_wp2_with fail
  refine (copyInts_any a1 n1 c1 z1 (by omega) _ (r1.below hb1 (Nat.le_refl _))).mono ?_
  rintro e v2 ⟨b1, rfl, _, o1, hb2⟩
  go_wp2_with fail
  have hb12 : Below w1.heap.size w1 v2 := hb1.trans (hb2.mono hb1.size)
  have o0' := o0.below hb2 (Nat.le_refl _)
  refine (vals_any b0 n0 n0 z0 (by omega) _ o0'.reads).mono ?_
  rintro e v3 ⟨rfl, ov, hb3⟩
  go_wp2_with fail
  refine (rowRead_any _ n0 n1 n1 b1 z0 z1 (by omega) (by omega) _ ov (o1.below hb3 (Nat.le_refl _)).reads in1).mono ?_
  rintro e v4 ⟨g4, rfl, hr4, hb4, hsh⟩
  have hb14 : Below w1.heap.size w1 v4 := (hb12.trans (hb3.mono hb12.size)).trans (hb4.mono (Nat.le_trans hb12.size hb3.size))
  have hbv : Below v1.heap.size v1 v4 := (hb2.trans (hb3.mono hb2.size)).trans (hb4.mono (Nat.le_trans hb2.size hb3.size))
  have hv13 : v1.heap.size ≤ v3.heap.size := Nat.le_trans hb2.size hb3.size
  have P0 := hide o0
  have p0 := (o0'.below hb3 (Nat.le_refl _)).below hb4 (Nat.le_refl _)
  have p1 := (o1.below hb3 (Nat.le_refl _)).below hb4 (Nat.le_refl _)
  have pv := rowIs_below ov hb4 ov.lt
  have hv34 : v2.heap.size < v3.heap.size := ov.lt
  have hhd : ((n1 : Int) == (n0 : Int)) = true → n1 = n0 := fun h => by simp at h; omega
  have hhf : ((n1 : Int) == (n0 : Int)) = false → ¬ Whole n0 n1 z1 := fun h hw => by simp at h; exact h (by exact_mod_cast hw.1)
  have H1 := hide hhd
  have H2 := hide hhf
  have HS := hide hsh
  have hs13 : w1.heap.size ≤ v3.heap.size := Nat.le_trans hb12.size hb3.size
  clear hhd hhf hsh o0 o1 o0' hb1 hb2 hb12 ov hb3 r0 r1
  go_wp2_with fail
  go_loop [8, 9] (fun t i => ∃ (k : Nat) (b : Bool), k ≤ n1 ∧ i = .int .i64 k ∧ t = .bool b ∧ (b = true → n1 = n0 ∧ ∀ j, j < k → z1 j = (j : Int)) ∧ (b = false → ¬ Whole n0 n1 z1)) (fun _ i => n1 - (intOf i).toNat)
  case atStart => exact ⟨0, _, Nat.zero_le _, rfl, rfl, fun h => ⟨H1.out h, fun j hj => by omega⟩, H2.out⟩
  case round =>
  obtain ⟨k2, b, hk2, rfl, rfl, hb1, hb2⟩ := hrel
  cases b
  · have HNW := hide (hb2 rfl)
    clear hb1 hb2
    have hg4 : v3.heap.size ≤ g4 := by
      rcases HS.out with h | h
      · exact absurd h.2 HNW.out
      · exact h.1
    have hlt4 := hr4.lt
    have hsent : (v4.alloc (.cells #[.int .u8 5, .int .i64 0, .string ⟨#[122, 122]⟩] 26)).rowIs v4.heap.size 26 3 sentF :=
      World.rowIs_alloc v4 _ 26 sentF (fun i hi => by
        have : i = 0 ∨ i = 1 ∨ i = 2 := by simp at hi; omega
        rcases this with rfl | rfl | rfl <;> rfl)
    go_wp2_with fail
    go_loopw [11] (fun i wr => ∃ (k : Nat) (f : Nat → Value), k ≤ n1 ∧ i = .int .i64 k ∧ wr.rowIs g4 26 (n1 * 3) f ∧ wr.rowIs v4.heap.size 26 3 sentF ∧ Below v3.heap.size v4 wr) (fun i _ => n1 - (intOf i).toNat)
    case atStart => exact ⟨0, _, Nat.zero_le _, rfl, hr4.alloc _, hsent, (Below.refl _ _).alloc hb4.size _⟩
    case round =>
    obtain ⟨k3, f, hk3, rfl, hrow, hsn, hbel⟩ := hrel
    by_cases hlt3 : k3 < n1
    · have s0 := hsn.cell (i := 0) (by omega)
      have s1 := hsn.cell (i := 1) (by omega)
      have s2 := hsn.cell (i := 2) (by omega)
      simp only [sentF, if_true, Nat.one_ne_zero, if_false, show ¬ (2 = 0) by omega, show ¬ (2 = 1) by omega] at s0 s1 s2
      have x0 := hrow.cell (i := k3 * 3) (by omega)
      have x1 := hrow.cell (i := k3 * 3 + 1) (by omega)
      have x2 := hrow.cell (i := k3 * 3 + 2) (by omega)
      have f0 := hrow.frozen (k3 * 3)
      have f1 := hrow.frozen (k3 * 3 + 1)
      have f2 := hrow.frozen (k3 * 3 + 2)
      go_wp2_with fail
      go_roundw
      case rel => exact ⟨k3 + 1, _, by omega, by go_num, (((hrow.set (k3 * 3) _).set (k3 * 3 + 1) _).set (k3 * 3 + 2) _), (((hsn.setOther (by simp; omega) _).setOther (by simp; omega) _).setOther (by simp; omega) _), ((hbel.setCell hg4 _).setCell hg4 _).setCell hg4 _⟩
      case measure => simp [intOf]; omega
    have tv := rowIs_below pv hbel hv34
    have t0 : Owns wr w1.heap.size 2 b0 n0 (fun i => .int .i64 (z0 i)) := P0.out.below (hbv.trans (hbel.mono hv13)) (Nat.le_refl _)
    go_wp2_with fail
    go_loopw [12] (fun i wr2 => ∃ k : Nat, k ≤ n0 ∧ i = .int .i64 k ∧ Below wr.heap.size wr wr2) (fun i _ => n0 - (intOf i).toNat)
    case atStart => exact ⟨0, Nat.zero_le _, rfl, Below.refl _ _⟩
    case round =>
    obtain ⟨k4, hk4, rfl, hbel4⟩ := hrel
    by_cases hlt4 : k4 < n0
    · obtain ⟨g0, _, rfl, hr0⟩ := t0.at (by omega)
      have e0 := (rowIs_below hr0 hbel4 hr0.lt).cell (i := k4) (by omega)
      have x0 := (rowIs_below tv hbel4 tv.lt).cell (i := k4 * 3) (by omega)
      have x1 := (rowIs_below tv hbel4 tv.lt).cell (i := k4 * 3 + 1) (by omega)
      have x2 := (rowIs_below tv hbel4 tv.lt).cell (i := k4 * 3 + 2) (by omega)
      rw [vflat0] at x0
      rw [vflat1] at x1
      rw [vflat2] at x2
      have i0 : (0 : Int) ≤ (k4 : Int) := by omega
      have i1 : (k4 : Int) < (n0 : Int) := by omega
      go_wp2_with fail
      go_region_held3 (fun w' => w'.cell? ⟨v2.heap.size, k4 * 3, none⟩ = some (.int .u8 1) ∧ w'.cell? ⟨v2.heap.size, k4 * 3 + 1, none⟩ = some (.int .i64 (z0 k4)) ∧ w'.cell? ⟨v2.heap.size, k4 * 3 + 2, none⟩ = some (.string ⟨#[]⟩) ∧ w'.cell? ⟨g0, k4, none⟩ = some (.int .i64 (z0 k4))) (go_keep)
        (first | (go_at_call 10; refine (zzIntVal_any _ _).mono ?_; rintro e w' ⟨rfl, rfl⟩))
      go_wp2_with fail
      go_roundw
      case rel => exact ⟨k4 + 1, by omega, by go_num, hbel4.drew.alloc hbel4.size _⟩
      case measure => simp [intOf]; omega
    go_wp2_with fail
    go_ret
    exact ⟨rfl, (hb14.trans (hbel.mono hs13)).trans (hbel4.mono (Nat.le_trans hb14.size hbel.size))⟩
  have HBW := hide (hb1 rfl)
  clear hb1 hb2
  by_cases hlt2 : k2 < n1
  · obtain ⟨gb, _, rfl, hcc⟩ := p1.at (by omega)
    have h1 := hcc.cell hlt2
    go_wp2_with fail
    go_round
    case rel =>
      refine ⟨k2 + 1, (z1 k2 == (k2 : Int)), by omega, by go_num, rfl, fun h => ⟨HBW.out.1, upto_all HBW.out.2 (by simpa using h)⟩, fun h hw => ?_⟩
      have := hw.2 k2 hlt2
      simp [this] at h
    case measure => simp [intOf]; omega
  have hW : Whole n0 n1 z1 := ⟨HBW.out.1, fun j hj => HBW.out.2 j (by omega)⟩
  have hge : g4 = v2.heap.size := by
    rcases HS.out with h | h
    · exact h.1
    · exact absurd hW h.2
  obtain rfl : n1 = n0 := HBW.out.1
  subst hge
  by_cases hz : 0 < n1
  · have hz1 : (0 : Int) < (n1 : Int) := by omega
    have hnq := neq_same
    go_wp2_with fail
    go_quiet (fail)
    go_wp2_with fail
    go_ret
    exact ⟨rfl, below_drewN hb14 _⟩
  · have hz1 : decide ((0 : Int) < (n1 : Int)) = false := decide_eq_false (by omega)
    go_wp2_with fail
    go_quiet (fail)
    go_wp2_with fail
    go_ret
    exact ⟨rfl, below_drewN hb14 _⟩
end Go.Proofs.Qxb6001703a
