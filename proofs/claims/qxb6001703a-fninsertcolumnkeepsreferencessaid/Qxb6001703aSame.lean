/- 'zzSameInts', 'zzSameTable', 'zzSameRefs'. -/
import Derived.Test.Qxb6001703aInsCol
namespace Go.Proofs.Qxb6001703a
open Go.ChangeShapes Go.WideShapes Go.ChangeAt Go.RowKit
set_option linter.unusedSimpArgs false

theorem sameInts_any (a b : Option Addr) (n ca cb : Nat) (z : Nat → Int) (w : World) (hn : n ≤ 1048576) (ra : Reads w a n (fun i => .int .i64 (z i))) (rb : Reads w b n (fun i => .int .i64 (z i))) :
    Calls Try.prog 32 #[.slice a n ca, .slice b n cb] w fun e w' => e = .returned (.bool true) ∧ ∃ m, w' = w.drewN m := by
  go_enter Try.func32, Try.ntmps32
  go_wp2_with fail
  go_loopw [5] (fun i wr => ∃ k q : Nat, k ≤ n ∧ i = .int .i64 k ∧ wr = w.drewN q) (fun i _ => n - (intOf i).toNat)
  case atStart => exact ⟨0, 0, Nat.zero_le _, rfl, rfl⟩
  case round =>
  obtain ⟨k, q, hk, rfl, rfl⟩ := hrel
  by_cases hlt : k < n
  · obtain ⟨b1, off1, _, rfl, h1⟩ := ra.at (by omega)
    obtain ⟨b2, off2, _, rfl, h2⟩ := rb.at (by omega)
    have c1 := h1 k hlt
    have c2 := h2 k hlt
    have i0 : (0 : Int) ≤ (k : Int) := by omega
    have i1 : (k : Int) < (n : Int) := by omega
    go_wp2_with fail
    go_quiet (fail)
    go_wp2_with fail
    go_roundw
    case rel => exact ⟨k + 1, q + nq, by omega, by go_num, rfl⟩
    case measure => simp [intOf]; omega
  go_wp2_with fail
  go_ret
  exact ⟨rfl, q, rfl⟩

theorem quiet_at {P : Program} {f : FuncId} {args : Array Value} {w : World} {q x : Nat} {v : Value} (h : Calls P f args (w.drewN (q + x)) fun e w' => e = .returned v ∧ ∃ m, w' = (w.drewN (q + x)).drewN m) :
    Calls P f args (w.drewN (q + x)) fun e w'' => e = .returned v ∧ ∃ n, w'' = w.drewN (q + n) :=
  h.mono fun _ _ ⟨he, m, hm⟩ => ⟨he, x + m, by rw [hm, World.drewN_drewN, Nat.add_assoc]⟩

theorem draws3 (w : World) (a b c : Nat) : ((w.drewN a).drewN b).drewN c = w.drewN (a + b + c) := by rw [World.drewN_drewN, World.drewN_drewN, Nat.add_assoc]

theorem reads_draws {w : World} {a : Option Addr} {n q : Nat} {v : Nat → Value} (h : Reads w a n v) : Reads (w.drewN q) a n v := by
  rcases h with h | ⟨x, rfl, hc⟩
  · exact .inl h
  · exact .inr ⟨x, rfl, fun i hi => by rw [← hc i hi]; rfl⟩

set_option maxRecDepth 100000 in
set_option maxHeartbeats 4000000 in
theorem sameTable_any (la ha pa lb hb pb : Nat) (name : ByteArray) (n : Nat) (ns : Nat → ByteArray) (ls : Nat → Int) (np : Nat) (pk : Nat → Int) (n0 : Nat) (x0 : Nat → Int) (n1 : Nat) (x1 : Nat → Int) (auto : Int) (w : World)
    (hn : n ≤ 1048576) (hnp : np ≤ 1048576) (hn0 : n0 ≤ 1048576) (hn1 : n1 ≤ 1048576) (hA : Tab w la ha pa name n ns ls np pk n0 x0 n1 x1 auto) (hB : Tab w lb hb pb name n ns ls np pk n0 x0 n1 x1 auto) :
    Calls Try.prog 21 #[.pointer (some ⟨pa, 0, none⟩), .pointer (some ⟨pb, 0, none⟩)] w fun e w' => e = .returned (.bool true) ∧ ∃ m, w' = w.drewN m := by
  obtain ⟨ac, cc, ap, cp, gi, ci, F, a0, c0, a1, c1, h1, h2, h3, h4, h5, h6, h6', h7, h8, h9, h10, h11, h12⟩ := hA
  obtain ⟨ac', cc', ap', cp', gi', ci', F', a0', c0', a1', c1', k1, k2, k3, k4, k5, k6, k6', k7, k8, k9, k10, k11, k12⟩ := hB
  obtain ⟨y0, y1, y2, y3, y4, y5, _⟩ := obj_cells h5
  obtain ⟨z0, z1, z2, z3, z4, z5, _⟩ := obj_cells k5
  go_enter Try.func21, Try.ntmps21
  go_wp2_with fail
  go_quiet (fail)
  go_wp2_with fail
  go_quiet (fail)
  go_wp2_with fail
  go_loopw [5] (fun i wr => ∃ k q : Nat, k ≤ n ∧ i = .int .i64 k ∧ wr = w.drewN q) (fun i _ => n - (intOf i).toNat)
  case atStart => exact ⟨0, _, Nat.zero_le _, rfl, World.drewN_drewN _ _ _⟩
  case round =>
  obtain ⟨k, q, hk, rfl, rfl⟩ := hrel
  by_cases hlt : k < n
  · obtain ⟨g, G, _, _, rfl, p4, _, p6, p7⟩ := h9.at (by omega)
    obtain ⟨g', G', _, _, rfl, p4', _, p6', p7'⟩ := k9.at (by omega)
    obtain ⟨u0, u1, u2, u3, u4, u5, u6, u7, u8, u9, u10, u11, u12, u13⟩ := col_cells (k := k) (s := ns k) (l := ls k) p6 (by omega) (fun j hj => by rw [p7 _ (by omega), cflat_at _ _ _ _ hj])
    obtain ⟨v0, v1, v2, v3, v4, v5, v6, v7, v8, v9, v10, v11, v12, v13⟩ := col_cells (k := k) (s := ns k) (l := ls k) p6' (by omega) (fun j hj => by rw [p7' _ (by omega), cflat_at _ _ _ _ hj])
    have i0 : (0 : Int) ≤ (k : Int) := by omega
    have i1 : (k : Int) < (n : Int) := by omega
    go_wp2_with fail
    go_quiet (fail)
    go_wp2_with fail
    go_roundw
    case rel => exact ⟨k + 1, q + nq, by omega, by go_num, rfl⟩
    case measure => simp [intOf]; omega
  go_wp2_with fail
  go_quiet ((go_at_call 32; first | exact quiet_at (sameInts_any ap ap' np cp cp' pk _ hnp (reads_draws h10.reads) (reads_draws k10.reads)) | exact Calls.quiet_of (sameInts_any ap ap' np cp cp' pk _ hnp (reads_draws h10.reads) (reads_draws k10.reads))))
  go_wp2_with fail
  go_quiet (fail)
  go_wp2_with fail
  go_loopw [6] (fun i wr => ∃ k q : Nat, k ≤ 2 ∧ i = .int .i64 k ∧ wr = w.drewN q) (fun i _ => 2 - (intOf i).toNat)
  case atStart => exact ⟨0, _, by omega, rfl, draws3 _ _ _ _⟩
  case round =>
  obtain ⟨k, q2, hk2, rfl, rfl⟩ := hrel
  rcases (by omega : k = 0 ∨ k = 1 ∨ k = 2) with rfl | rfl | rfl
  · have t0 : w.cell? ⟨gi, 0, none⟩ = some (.string ⟨#[105, 48]⟩) := by rw [h7.cell (by omega), h8 0 (by omega)]; rfl
    have t1 : w.cell? ⟨gi, 1, none⟩ = some (.slice a0 n0 c0) := by rw [h7.cell (by omega), h8 1 (by omega)]; rfl
    have t2 : w.cell? ⟨gi, 2, none⟩ = some (.bool true) := by rw [h7.cell (by omega), h8 2 (by omega)]; rfl
    have s0 : w.cell? ⟨gi', 0, none⟩ = some (.string ⟨#[105, 48]⟩) := by rw [k7.cell (by omega), k8 0 (by omega)]; rfl
    have s1 : w.cell? ⟨gi', 1, none⟩ = some (.slice a0' n0 c0') := by rw [k7.cell (by omega), k8 1 (by omega)]; rfl
    have s2 : w.cell? ⟨gi', 2, none⟩ = some (.bool true) := by rw [k7.cell (by omega), k8 2 (by omega)]; rfl
    go_wp2_with fail
    go_quiet (fail)
    go_wp2_with fail
    go_quiet ((go_at_call 32; first | exact quiet_at (sameInts_any a0 a0' n0 c0 c0' x0 _ hn0 (reads_draws h11.reads) (reads_draws k11.reads)) | exact Calls.quiet_of (sameInts_any a0 a0' n0 c0 c0' x0 _ hn0 (reads_draws h11.reads) (reads_draws k11.reads))))
    go_wp2_with fail
    go_roundw
    case rel => exact ⟨1, _, by omega, by go_num, rfl⟩
    case measure => simp [intOf]
  · have t0 : w.cell? ⟨gi, 3, none⟩ = some (.string ⟨#[105, 49]⟩) := by rw [h7.cell (by omega), h8 3 (by omega)]; rfl
    have t1 : w.cell? ⟨gi, 4, none⟩ = some (.slice a1 n1 c1) := by rw [h7.cell (by omega), h8 4 (by omega)]; rfl
    have t2 : w.cell? ⟨gi, 5, none⟩ = some (.bool false) := by rw [h7.cell (by omega), h8 5 (by omega)]; rfl
    have s0 : w.cell? ⟨gi', 3, none⟩ = some (.string ⟨#[105, 49]⟩) := by rw [k7.cell (by omega), k8 3 (by omega)]; rfl
    have s1 : w.cell? ⟨gi', 4, none⟩ = some (.slice a1' n1 c1') := by rw [k7.cell (by omega), k8 4 (by omega)]; rfl
    have s2 : w.cell? ⟨gi', 5, none⟩ = some (.bool false) := by rw [k7.cell (by omega), k8 5 (by omega)]; rfl
    go_wp2_with fail
    go_quiet (fail)
    go_wp2_with fail
    go_quiet ((go_at_call 32; first | exact quiet_at (sameInts_any a1 a1' n1 c1 c1' x1 _ hn1 (reads_draws h12.reads) (reads_draws k12.reads)) | exact Calls.quiet_of (sameInts_any a1 a1' n1 c1 c1' x1 _ hn1 (reads_draws h12.reads) (reads_draws k12.reads))))
    go_wp2_with fail
    go_roundw
    case rel => exact ⟨2, _, by omega, by go_num, rfl⟩
    case measure => simp [intOf]
  · go_wp2_with fail
    go_ret
    exact ⟨rfl, _, rfl⟩

set_option maxRecDepth 100000 in
set_option maxHeartbeats 4000000 in
theorem sameRefs_any (aa ab : Option Addr) (m ca cb : Nat) (z' z : Nat → Int) (ac ad : Option Addr) (n' cc n cd lo hi lo2 hi2 : Nat) (ns' ns : Nat → ByteArray) (ls' ls : Nat → Int) (at' : Int) (w : World) (hm : m ≤ 1048576)
    (ra : Reads w aa m (fun i => .int .i64 (z' i))) (rb : Reads w ab m (fun i => .int .i64 (z i))) (hA : Arr w lo hi 49 14 ac n' cc (cflat ns' ls')) (hB : Arr w lo2 hi2 49 14 ad n cd (cflat ns ls))
    (hz' : ∀ i, i < m → 0 ≤ z' i ∧ z' i < (n' : Int) ∧ z' i ≠ at') (hz : ∀ i, i < m → 0 ≤ z i ∧ z i < (n : Int)) (hs : ∀ i, i < m → ns' (z' i).toNat = ns (z i).toNat ∧ ls' (z' i).toNat = ls (z i).toNat) :
    Calls Try.prog 24 #[.slice aa m ca, .slice ac n' cc, .slice ab m cb, .slice ad n cd, .int .i64 at'] w fun e w' => e = .returned (.bool true) ∧ ∃ q, w' = w.drewN q := by
  go_enter Try.func24, Try.ntmps24
  go_wp2_with fail
  go_loopw [11] (fun i wr => ∃ k q : Nat, k ≤ m ∧ i = .int .i64 k ∧ wr = w.drewN q) (fun i _ => m - (intOf i).toNat)
  case atStart => exact ⟨0, 0, Nat.zero_le _, rfl, rfl⟩
  case round =>
  obtain ⟨k, q, hk, rfl, rfl⟩ := hrel
  by_cases hlt : k < m
  · obtain ⟨b1, off1, _, rfl, h1⟩ := ra.at (by omega)
    obtain ⟨b2, off2, _, rfl, h2⟩ := rb.at (by omega)
    have c1 := h1 k hlt
    have c2 := h2 k hlt
    obtain ⟨y0, y1, y2⟩ := hz' k hlt
    obtain ⟨v0, v1⟩ := hz k hlt
    have HS := hide (hs k hlt)
    obtain ⟨g, G, _, _, rfl, p4, _, p6, p7⟩ := hA.at (by omega)
    obtain ⟨g', G', _, _, rfl, p4', _, p6', p7'⟩ := hB.at (by omega)
    have hX := col_cells (k := (z' k).toNat) (s := ns (z k).toNat) (l := ls (z k).toNat) p6 (by omega) (fun j hj => by rw [p7 _ (by omega), cflat_at _ _ _ _ hj, HS.out.1, HS.out.2])
    have hY := col_cells (k := (z k).toNat) (s := ns (z k).toNat) (l := ls (z k).toNat) p6' (by omega) (fun j hj => by rw [p7' _ (by omega), cflat_at _ _ _ _ hj])
    obtain ⟨r0, r1, r2, r3, r4, r5, r6, r7, r8, r9, r10, r11, r12, r13⟩ := hX
    obtain ⟨t0, t1, t2, t3, t4, t5, t6, t7, t8, t9, t10, t11, t12, t13⟩ := hY
    have d0 : ¬ z' k < 0 := by omega
    have d1 : ¬ (n' : Int) ≤ z' k := by omega
    have d2 : (z' k == at') = false := by simpa using y2
    have i0 : (0 : Int) ≤ (k : Int) := by omega
    have i1 : (k : Int) < (m : Int) := by omega
    go_wp2_with fail
    go_quiet (fail)
    go_wp2_with fail
    go_roundw
    case rel => exact ⟨k + 1, q + nq, by omega, by go_num, rfl⟩
    case measure => simp [intOf]; omega
  go_wp2_with fail
  go_ret
  exact ⟨rfl, q, rfl⟩
end Go.Proofs.Qxb6001703a
