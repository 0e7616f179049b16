/- The proof of 'Rows.FnInsertColumnKeepsReferencesSaid': the frame after the kit's tool (integers, strings, slices of integers and of strings), the walk by contracts. -/
import Derived.Test.Qxb6001703aRows
import Derived.WalkKit
import Derived.ProofKit
import Derived.OpenShut
import Derived.ShutString
import Derived.ChangeOld
import Derived.Below
import Derived.SliceStrings
import Derived.Test.Qxb6001703aLaw7
namespace Go.Proofs.Qxb6001703a.fnInsertColumnKeepsReferences
open Go.ChangeShapes Go.WideShapes Go.ChangeAt Go.RowKit
open Go.ChangeMaps (open_string shut_string)
set_option linter.unusedVariables false

theorem own : ownKnob Try.prog.godebug = none := by kernel_rfl
theorem laidOut : laidOutB Try.prog = true := by kernel_rfl

/-! ### THE WALK: the Go text returns true, and writes nothing that was there. -/
theorem walk (s0 : ByteArray) (a1 : Option Addr) (len1 cap1 : Nat) (z1 : Nat → ByteArray) (a2 : Option Addr) (len2 cap2 : Nat) (z2 : Nat → Int) (a3 : Option Addr) (len3 cap3 : Nat) (z3 : Nat → Int) (a4 : Option Addr) (len4 cap4 : Nat) (z4 : Nat → Int)
    (i5 i6 : Int) (s7 : ByteArray) (w : World) (w0 : s0.size ≤ maxLen) (l1 : len1 ≤ 9223372036854775807) (w1 : Reads w a1 len1 (fun i => .string (z1 i))) (y1 : ∀ i, i < len1 → (z1 i).size ≤ maxLen) (l2 : len2 ≤ 9223372036854775807) (w2 : Reads w a2 len2 (fun i => .int .i64 (z2 i)))
    (l3 : len3 ≤ 9223372036854775807) (w3 : Reads w a3 len3 (fun i => .int .i64 (z3 i))) (l4 : len4 ≤ 9223372036854775807) (w4 : Reads w a4 len4 (fun i => .int .i64 (z4 i))) (w5 : (Lit.int .i64 i5).wf = true) (w6 : (Lit.int .i64 i6).wf = true) (w7 : s7.size ≤ maxLen) :
    Calls Try.prog 7 #[.string s0, .slice a1 len1 cap1, .slice a2 len2 cap2, .slice a3 len3 cap3, .slice a4 len4 cap4, .int .i64 i5, .int .i64 i6, .string s7] w fun e w' => e = .returned (.bool true) ∧ Below w.heap.size w w' := by
  unfold maxLen at w0 y1 w7
  exact insertLaw_any s0 a1 len1 cap1 z1 a2 len2 cap2 z2 a3 len3 cap3 z3 a4 len4 cap4 z4 i5 i6 s7 w w0 l1 w1 y1 l2 w2 l3 w3 l4 w4 w7

/-! ### THE ROW's STEP -/
set_option maxRecDepth 100000 in
set_option maxHeartbeats 1600000 in
theorem lifted (os : Os) (started : os.Started) (H : Type) (enc : TypeId × Value → H) :
    ReturnsInHanded {} Try.checked os 7 .any (Rows.fnInsertColumnKeepsReferencesSpec.pre6 enc Try.prog Try.f7 Rows.fnInsertColumnKeepsReferencesRow.domain false) (Rows.fnInsertColumnKeepsReferencesSpec.post enc Try.prog Try.f7 false true false false) := by
  refine returnsInHanded_of_change (C := Try.checked) own started (by kernel_rfl) Try.func7
    (ChangeSpec.witness6 (enc := enc) (C := Try.checked) false ⟨#[], #[.string ByteArray.empty, .slice none 0 0, .slice none 0 0, .slice none 0 0, .slice none 0 0, .int .i64 0, .int .i64 0, .string ByteArray.empty], []⟩ 8 (by kernel_rfl) (by kernel_rfl) (by kernel_rfl) (by kernel_rfl)) ?_
  intro W base args ds gs before hval0 hW hcnd _
  have hval : ∀ (j : Nat) t v, Try.f7.params[j]? = some t → args[j]? = some v → Value.okWide Try.prog W .any base t v := hval0
  have hW' := hW
  obtain ⟨p, q, hA0, hV, rfl, hfz, hnd⟩ := hW
  have hA : DataW.TrodAll enc Try.prog W 0 (fun _ => true) true Try.f7.params.toList args.toList ds p := hA0
  rw [Try.params7] at hA hval
  obtain ⟨v0, vs0, d0, ds0, p0, q0, hargs, rfl, rfl, h0, r0⟩ := trodAll_cons hA
  obtain ⟨v1, vs1, d1, ds1, p1, q1, rfl, rfl, rfl, h1, r1⟩ := trodAll_cons r0
  obtain ⟨v2, vs2, d2, ds2, p2, q2, rfl, rfl, rfl, h2, r2⟩ := trodAll_cons r1
  obtain ⟨v3, vs3, d3, ds3, p3, q3, rfl, rfl, rfl, h3, r3⟩ := trodAll_cons r2
  obtain ⟨v4, vs4, d4, ds4, p4, q4, rfl, rfl, rfl, h4, r4⟩ := trodAll_cons r3
  obtain ⟨v5, vs5, d5, ds5, p5, q5, rfl, rfl, rfl, h5, r5⟩ := trodAll_cons r4
  obtain ⟨v6, vs6, d6, ds6, p6, q6, rfl, rfl, rfl, h6, r6⟩ := trodAll_cons r5
  obtain ⟨v7, vs7, d7, ds7, p7, q7, rfl, rfl, rfl, h7, r7⟩ := trodAll_cons r6
  obtain ⟨rfl, rfl, rfl⟩ := trodAll_nil r7
  obtain rfl : args = #[v0, v1, v2, v3, v4, v5, v6, v7] := by cases args; simp_all
  obtain ⟨rfl, rfl⟩ := trodVars_none hV
  have k0 := h0
  have lt0 : ∀ x ∈ p0, x.block < W.heap.size := by obtain ⟨m, hm⟩ := k0; exact DataW.trod_lt m _ _ _ hm
  have k1 := h1
  have lt1 : ∀ x ∈ p1, x.block < W.heap.size := by obtain ⟨m, hm⟩ := k1; exact DataW.trod_lt m _ _ _ hm
  have k2 := h2
  have lt2 : ∀ x ∈ p2, x.block < W.heap.size := by obtain ⟨m, hm⟩ := k2; exact DataW.trod_lt m _ _ _ hm
  have k3 := h3
  have lt3 : ∀ x ∈ p3, x.block < W.heap.size := by obtain ⟨m, hm⟩ := k3; exact DataW.trod_lt m _ _ _ hm
  have k4 := h4
  have lt4 : ∀ x ∈ p4, x.block < W.heap.size := by obtain ⟨m, hm⟩ := k4; exact DataW.trod_lt m _ _ _ hm
  have k5 := h5
  have lt5 : ∀ x ∈ p5, x.block < W.heap.size := by obtain ⟨m, hm⟩ := k5; exact DataW.trod_lt m _ _ _ hm
  have k6 := h6
  have lt6 : ∀ x ∈ p6, x.block < W.heap.size := by obtain ⟨m, hm⟩ := k6; exact DataW.trod_lt m _ _ _ hm
  have k7 := h7
  have lt7 : ∀ x ∈ p7, x.block < W.heap.size := by obtain ⟨m, hm⟩ := k7; exact DataW.trod_lt m _ _ _ hm
  obtain ⟨s0, ev0, _, _, w0⟩ := open_string Try.underlying9 (hval 0 9 v0 rfl rfl) h0
  obtain ⟨s7, ev7, _, _, w7⟩ := open_string Try.underlying9 (hval 7 9 v7 rfl rfl) h7
  obtain ⟨i5, ev5, _, _, w5⟩ := open_int Try.underlying3 (hval 5 3 v5 rfl rfl) h5
  obtain ⟨i6, ev6, _, _, w6⟩ := open_int Try.underlying3 (hval 6 3 v6 rfl rfl) h6
  obtain ⟨a1, len1, cap1, ev1⟩ := okWide_slice Try.underlying39 (hval 1 39 v1 rfl rfl)
  subst ev1
  obtain ⟨z1, l1, w1, y1⟩ : ∃ z : Nat → ByteArray, len1 ≤ 9223372036854775807 ∧ Reads W a1 len1 (fun i => .string (z i)) ∧ ∀ i, i < len1 → (z i).size ≤ maxLen := by
    obtain ⟨fuel, hf⟩ := h1
    rcases open_strings Try.underlying39 Try.underlying9 (by kernel_rfl) hf with ⟨hcs, _⟩ | ⟨x, l, c, ss, hcs, _, hl, hm, hz, _, hcell, hws⟩
    · simp [Value.cells] at hcs
      obtain ⟨rfl, rfl, rfl⟩ := hcs
      exact ⟨fun _ => ByteArray.empty, by omega, .inl ⟨rfl, rfl⟩, fun i hi => by omega⟩
    · simp [Value.cells] at hcs
      obtain ⟨rfl, rfl, rfl⟩ := hcs
      have hz' : ss.length = cap1 := by simpa using hz
      unfold maxLen at hm
      refine ⟨fun i => ss.getD i ByteArray.empty, by omega, .inr ⟨_, rfl, fun i hi => hcell i (by omega)⟩, fun i hi => ?_⟩
      show (ss.getD i ByteArray.empty).size ≤ maxLen
      have hi' : i < ss.length := by omega
      have e : ss.getD i ByteArray.empty = ss[i] := by simp [hi']
      rw [e]
      exact hws _ (List.getElem_mem hi')
  obtain ⟨a2, len2, cap2, ev2⟩ := okWide_slice Try.underlying30 (hval 2 30 v2 rfl rfl)
  subst ev2
  obtain ⟨z2, l2, w2⟩ : ∃ z : Nat → Int, len2 ≤ 9223372036854775807 ∧ Reads W a2 len2 (fun i => .int .i64 (z i)) := by
    obtain ⟨fuel, hf⟩ := h2
    rcases open_ints Try.underlying30 Try.underlying3 (by kernel_rfl) hf with ⟨hcs, _⟩ | ⟨x, l, c, zs, hcs, _, hl, hm, hz, _, hcell, hwz⟩
    · simp [Value.cells] at hcs
      obtain ⟨rfl, rfl, rfl⟩ := hcs
      exact ⟨fun _ => 0, by omega, .inl ⟨rfl, rfl⟩⟩
    · simp [Value.cells] at hcs
      obtain ⟨rfl, rfl, rfl⟩ := hcs
      have hz' : zs.length = cap2 := by simpa using hz
      unfold maxLen at hm
      exact ⟨fun i => zs.getD i 0, by omega, .inr ⟨_, rfl, fun i hi => hcell i (by omega)⟩⟩
  obtain ⟨a3, len3, cap3, ev3⟩ := okWide_slice Try.underlying30 (hval 3 30 v3 rfl rfl)
  subst ev3
  obtain ⟨z3, l3, w3⟩ : ∃ z : Nat → Int, len3 ≤ 9223372036854775807 ∧ Reads W a3 len3 (fun i => .int .i64 (z i)) := by
    obtain ⟨fuel, hf⟩ := h3
    rcases open_ints Try.underlying30 Try.underlying3 (by kernel_rfl) hf with ⟨hcs, _⟩ | ⟨x, l, c, zs, hcs, _, hl, hm, hz, _, hcell, hwz⟩
    · simp [Value.cells] at hcs
      obtain ⟨rfl, rfl, rfl⟩ := hcs
      exact ⟨fun _ => 0, by omega, .inl ⟨rfl, rfl⟩⟩
    · simp [Value.cells] at hcs
      obtain ⟨rfl, rfl, rfl⟩ := hcs
      have hz' : zs.length = cap3 := by simpa using hz
      unfold maxLen at hm
      exact ⟨fun i => zs.getD i 0, by omega, .inr ⟨_, rfl, fun i hi => hcell i (by omega)⟩⟩
  obtain ⟨a4, len4, cap4, ev4⟩ := okWide_slice Try.underlying30 (hval 4 30 v4 rfl rfl)
  subst ev4
  obtain ⟨z4, l4, w4⟩ : ∃ z : Nat → Int, len4 ≤ 9223372036854775807 ∧ Reads W a4 len4 (fun i => .int .i64 (z i)) := by
    obtain ⟨fuel, hf⟩ := h4
    rcases open_ints Try.underlying30 Try.underlying3 (by kernel_rfl) hf with ⟨hcs, _⟩ | ⟨x, l, c, zs, hcs, _, hl, hm, hz, _, hcell, hwz⟩
    · simp [Value.cells] at hcs
      obtain ⟨rfl, rfl, rfl⟩ := hcs
      exact ⟨fun _ => 0, by omega, .inl ⟨rfl, rfl⟩⟩
    · simp [Value.cells] at hcs
      obtain ⟨rfl, rfl, rfl⟩ := hcs
      have hz' : zs.length = cap4 := by simpa using hz
      unfold maxLen at hm
      exact ⟨fun i => zs.getD i 0, by omega, .inr ⟨_, rfl, fun i hi => hcell i (by omega)⟩⟩
  subst ev0 ev5 ev6 ev7
  clear hA0 hval0
  refine (walk s0 a1 len1 cap1 z1 a2 len2 cap2 z2 a3 len3 cap3 z3 a4 len4 cap4 z4 i5 i6 s7 W w0 l1 w1 y1 l2 w2 l3 w3 l4 w4 w5 w6 w7).mono fun e W' ⟨he, bel⟩ => ?_
  subst he
  exact ⟨_, rfl, _, _, _, [], _, [], hW', trodAll_mk1 (shut_bool Try.underlying4 _), (trodAll_cons_mk (Below.trod laidOut (by kernel_rfl) (of_decide_eq_true (by kernel_rfl)) k0 bel lt0) (trodAll_cons_mk (Below.trod laidOut (by kernel_rfl) (of_decide_eq_true (by kernel_rfl)) k1 bel lt1) (trodAll_cons_mk (Below.trod laidOut (by kernel_rfl) (of_decide_eq_true (by kernel_rfl)) k2 bel lt2) (trodAll_cons_mk (Below.trod laidOut (by kernel_rfl) (of_decide_eq_true (by kernel_rfl)) k3 bel lt3) (trodAll_cons_mk (Below.trod laidOut (by kernel_rfl) (of_decide_eq_true (by kernel_rfl)) k4 bel lt4) (trodAll_cons_mk (Below.trod laidOut (by kernel_rfl) (of_decide_eq_true (by kernel_rfl)) k5 bel lt5) (trodAll_cons_mk (Below.trod laidOut (by kernel_rfl) (of_decide_eq_true (by kernel_rfl)) k6 bel lt6) (trodAll_cons_mk (Below.trod laidOut (by kernel_rfl) (of_decide_eq_true (by kernel_rfl)) k7 bel lt7) trodAll_mk0)))))))), rfl, bel.frame _, fun h => by cases h⟩

theorem over : Rows.fnInsertColumnKeepsReferencesRow.holds Try.pinned (OpenSpec.ofChange Rows.fnInsertColumnKeepsReferencesSpec) :=
  OpenClaim.holds_of_wide 7 Try.f7 rfl rfl rfl rfl rfl rfl rfl ⟨rfl, rfl, rfl, rfl, rfl⟩ rfl rfl rfl rfl rfl (by kernel_rfl) Try.func7 (by kernel_rfl)
    (of_decide_eq_true (by kernel_rfl)) (by unfold Func.isWrapper; first | (rw [if_pos (by decide +kernel)]; kernel_rfl) | (rw [if_neg (by decide +kernel)]; exact ⟨rfl, rfl⟩))
    (fun os started H enc _ => lifted os started H enc)

/-- THE STATEMENT. -/
theorem proved : Rows.FnInsertColumnKeepsReferencesSaid := over
end Go.Proofs.Qxb6001703a.fnInsertColumnKeepsReferences
