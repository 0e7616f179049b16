/- '(*TableDef).insertColumn', 'ZZInsertColumn'. -/
import Derived.Test.Qxb6001703aClone
import Derived.Test.Qxb6001703aIns
import Derived.Deep.RegionWith
import Derived.Deep.DeepCutAuto
namespace Go.Proofs.Qxb6001703a
open Go.ChangeShapes Go.WideShapes Go.ChangeAt Go.RowKit
set_option linter.unusedSimpArgs false

/-- What the closure 'moved' gives. -/
def mv (at' col : Int) : Int := if at' ≤ col then wrap64 (col + 1) else col

theorem moved_any (col at' : Int) (ab : Nat) (w : World) (h : w.cell? ⟨ab, 0, none⟩ = some (.int .i64 at')) :
    Calls Try.prog 40 #[.int .i64 col, .pointer (some ⟨ab, 0, none⟩)] w fun e w' => e = .returned (.int .i64 (mv at' col)) ∧ w' = w := by
  by_cases hc : at' ≤ col
  · have hm := hide (show mv at' col = wrap64 (col + 1) by unfold mv; rw [if_pos hc])
    go_enter Try.func40, Try.ntmps40
    go_wp2
    go_ret
    exact ⟨congrArg (fun t => Ending.returned (.int .i64 t)) hm.out.symm, rfl⟩
  · have hm := hide (show mv at' col = col by unfold mv; rw [if_neg hc])
    go_enter Try.func40, Try.ntmps40
    go_wp2
    go_ret
    exact ⟨congrArg (fun t => Ending.returned (.int .i64 t)) hm.out.symm, rfl⟩

theorem rowIs_col (w : World) (added : ByteArray) : (w.alloc (.cells #[.string added, .int .u8 0, .string ⟨#[]⟩, .string ⟨#[]⟩, .int .i64 (-1), .int .i64 0, .bool false, .bool false, .int .u8 0, .int .i64 0, .string ⟨#[]⟩, .bool false, .bool false, .bool false] 49)).rowIs w.heap.size 49 14 (ccell added (-1)) :=
  World.rowIs_alloc w _ 49 _ (fun j hj => by
    have hj : j = 0 ∨ j = 1 ∨ j = 2 ∨ j = 3 ∨ j = 4 ∨ j = 5 ∨ j = 6 ∨ j = 7 ∨ j = 8 ∨ j = 9 ∨ j = 10 ∨ j = 11 ∨ j = 12 ∨ j = 13 := by simp at hj; omega
    rcases hj with rfl | rfl | rfl | rfl | rfl | rfl | rfl | rfl | rfl | rfl | rfl | rfl | rfl | rfl <;> rfl)

theorem Touch.refl (w : World) (lo hi : Nat) : Touch w w lo hi := ⟨rfl, rfl, rfl, Nat.le_refl _, fun _ _ _ => rfl⟩

theorem Touch.undrew {w w' : World} {lo hi : Nat} (h : Touch w.drew w' lo hi) : Touch w w' lo hi := ⟨h.os, h.tape, h.output, h.size, h.block⟩

theorem Touch.setCell {w w' : World} {lo hi g : Nat} (h : Touch w w' lo hi) (h1 : lo ≤ g) (h2 : g < hi) (o : Nat) (v : Value) : Touch w (w'.setCell ⟨g, o, none⟩ v) lo hi :=
  ⟨h.os, h.tape, h.output, by rw [size_setCell]; exact h.size, fun k hk hn => by rw [Below.heap_setCell _ _ _ _ (by simp; omega)]; exact h.block k hk hn⟩
theorem Touch.drew {w w' : World} {lo hi : Nat} (h : Touch w w' lo hi) : Touch w w'.drew lo hi := ⟨h.os, h.tape, h.output, h.size, h.block⟩
theorem Touch.trans {a b c : World} {lo hi : Nat} (h : Touch a b lo hi) (k : Touch b c lo hi) : Touch a c lo hi :=
  ⟨k.os.trans h.os, k.tape.trans h.tape, k.output.trans h.output, Nat.le_trans h.size k.size, fun i hi hn => (k.block i (Nat.lt_of_lt_of_le hi h.size) hn).trans (h.block i hi hn)⟩
theorem Touch.mono {a b : World} {lo hi lo' hi' : Nat} (h : Touch a b lo hi) (h1 : lo' ≤ lo) (h2 : hi ≤ hi') : Touch a b lo' hi' :=
  ⟨h.os, h.tape, h.output, h.size, fun k hk hn => h.block k hk (by omega)⟩
theorem Touch.alloc {a b : World} {lo hi : Nat} (h : Touch a b lo hi) (o : Obj) : Touch a (b.alloc o) lo hi :=
  ⟨h.os, h.tape, h.output, by simp; have := h.size; omega, fun k hk hn => by rw [Below.heap_alloc _ _ _ (Nat.lt_of_lt_of_le hk h.size)]; exact h.block k hk hn⟩

/-- One element of a slice of ints turned. -/
theorem moved_step {w : World} {lo hi g n c k : Nat} {G : Nat → Value} {m z : Nat → Int} (h1 : lo ≤ g) (h2 : g < hi) (h4 : n ≤ c) (h5 : c ≤ 9223372036854775807) (h6 : w.rowIs g 3 (c * 1) G) (h7 : ∀ i, i < n * 1 → G i = if i < k then .int .i64 (m i) else .int .i64 (z i)) :
    Arr (w.setCell ⟨g, k, none⟩ (.int .i64 (m k))) lo hi 3 1 (some ⟨g, 0, none⟩) n c (fun j => if j < k + 1 then .int .i64 (m j) else .int .i64 (z j)) :=
  .inr ⟨g, _, h1, h2, rfl, h4, h5, h6.set k _, fun i hi => by rw [h7 i hi]; exact upto_step (fun j => .int .i64 (m j)) (fun j => .int .i64 (z j)) k i⟩

/-- The cells of one index. -/
def ixc (a b c : Value) (j : Nat) : Value := (#[a, b, c] : Array Value).getD j undef
theorem rowIs_ix (w : World) (a b c : Value) : (w.alloc (.cells #[a, b, c] 60)).rowIs w.heap.size 60 3 (ixc a b c) :=
  World.rowIs_alloc w _ 60 _ (fun j hj => by
    have : j = 0 ∨ j = 1 ∨ j = 2 := by simp at hj; omega
    rcases this with rfl | rfl | rfl <;> rfl)

/-- The columns behind the insert. -/
def insN {α : Type} (f : Nat → α) (x : α) (i k : Nat) : α := if k < i then f k else if k = i then x else f (k - 1)
theorem ins_cflat (ns : Nat → ByteArray) (ls : Nat → Int) (s : ByteArray) (l : Int) (i j : Nat) : ins (cflat ns ls) (ccell s l) i j = cflat (insN ns s i) (insN ls l i) j := by
  unfold ins cflat insN
  by_cases h0 : j < i * 14
  · rw [if_pos h0, if_pos (by omega), if_pos (by omega)]
  · rw [if_neg h0]
    by_cases h1 : j < i * 14 + 14
    · have e : j / 14 = i := by omega
      rw [if_pos h1, if_neg (by omega), if_pos e, if_neg (by omega), if_pos e]
      congr 1
      omega
    · rw [if_neg h1, if_neg (by omega), if_neg (by omega), if_neg (by omega), if_neg (by omega)]
      have e1 : (j - 14) / 14 = j / 14 - 1 := by omega
      have e2 : (j - 14) % 14 = j % 14 := by omega
      rw [e1, e2]

/-- What stands behind 'd.Columns = slices.Insert(d.Columns, at, c)'. -/
def Ins1 (w : World) (b0 b1 b2 p : Nat) (name : ByteArray) (n : Nat) (f : Nat → Value) (pkS ixS : Value) (auto at' : Int) (w' : World) : Prop :=
  ∃ (g' c' : Nat) (F' : Nat → Value), n + 1 ≤ c' ∧ c' ≤ 9223372036854775807 ∧ ((b1 ≤ g' ∧ g' < b2) ∨ w.heap.size + 2 ≤ g') ∧ w'.rowIs g' 49 (c' * 14) F' ∧ (∀ j, j < (n + 1) * 14 → F' j = f j) ∧
    w'.rowIs p 57 11 (tcell name (.slice (some ⟨g', 0, none⟩) (n + 1) c') pkS ixS auto) ∧ (∀ k, k < w.heap.size → k ≠ p → ¬ (b1 ≤ k ∧ k < b2) → w'.heap[k]? = w.heap[k]?) ∧
    w'.cell? ⟨w.heap.size + 1, 0, none⟩ = some (.int .i64 at') ∧ Below b0 w w' ∧ w.heap.size + 2 ≤ w'.heap.size

theorem ins1_of {w W2 w1 : World} {b0 b1 b2 p : Nat} {name added : ByteArray} {n : Nat} {f : Nat → Value} {pkS ixS : Value} {auto at' : Int} {g' c' cc : Nat} {ac : Option Addr} {F' : Nat → Value}
    (hS2 : W2.heap.size = w.heap.size + 2) (hB2 : Below w.heap.size w W2) (hp0 : b0 ≤ p) (hp1 : p < b1) (hb12 : b1 ≤ b2) (hb2 : b2 ≤ w.heap.size) (hpw : p < w.heap.size)
    (hO1 : w1.rowIs p 57 11 (tcell name (.slice ac n cc) pkS ixS auto)) (hA' : (W2.alloc (.cells #[.string added, .int .u8 0, .string ⟨#[]⟩, .string ⟨#[]⟩, .int .i64 (-1), .int .i64 0, .bool false, .bool false, .int .u8 0, .int .i64 0, .string ⟨#[]⟩, .bool false, .bool false, .bool false] 49)).cell? ⟨w.heap.size + 1, 0, none⟩ = some (.int .i64 at'))
    (k1 : n + 1 ≤ c') (k2 : c' ≤ 9223372036854775807) (k3 : (b1 ≤ g' ∧ g' < b2) ∨ (W2.alloc (.cells #[.string added, .int .u8 0, .string ⟨#[]⟩, .string ⟨#[]⟩, .int .i64 (-1), .int .i64 0, .bool false, .bool false, .int .u8 0, .int .i64 0, .string ⟨#[]⟩, .bool false, .bool false, .bool false] 49)).heap.size ≤ g') (k4 : w1.rowIs g' 49 (c' * 14) F') (k5 : ∀ j, j < (n + 1) * 14 → F' j = f j)
    (hT : Touch (W2.alloc (.cells #[.string added, .int .u8 0, .string ⟨#[]⟩, .string ⟨#[]⟩, .int .i64 (-1), .int .i64 0, .bool false, .bool false, .int .u8 0, .int .i64 0, .string ⟨#[]⟩, .bool false, .bool false, .bool false] 49)) w1 b1 b2) :
    Ins1 w b0 b1 b2 p name n f pkS ixS auto at' (w1.setCell ⟨p, 1, none⟩ (.slice (some ⟨g', 0, none⟩) (n + 1) c')) := by
  have hsz := hT.size
  simp only [World.size_alloc] at hsz k3
  have hg : g' ≠ p := by omega
  have hblk : ∀ k, k < w.heap.size → ¬ (b1 ≤ k ∧ k < b2) → w1.heap[k]? = w.heap[k]? := fun k hk hn => by
    rw [hT.block k (by simp; omega) hn, Below.heap_alloc _ _ _ (by omega), hB2.block k hk]
  have hw1 : Below b0 w w1 := ⟨hT.os.trans hB2.os, hT.tape.trans hB2.tape, hT.output.trans hB2.output, by omega, fun k hk => hblk k (by omega) (by omega)⟩
  refine ⟨g', c', F', k1, k2, by omega, k4.setOther (by simpa using hg) _, k5, obj_set1 hO1 _, fun k hk hn hn2 => ?_, ?_, hw1.setCell (by simpa using hp0) _, by rw [size_setCell]; omega⟩
  · rw [Below.heap_setCell _ _ _ _ (by simpa using hn)]; exact hblk k hk hn2
  · have e : (w1.setCell ⟨p, 1, none⟩ (.slice (some ⟨g', 0, none⟩) (n + 1) c')).heap[w.heap.size + 1]? = (W2.alloc (.cells #[.string added, .int .u8 0, .string ⟨#[]⟩, .string ⟨#[]⟩, .int .i64 (-1), .int .i64 0, .bool false, .bool false, .int .u8 0, .int .i64 0, .string ⟨#[]⟩, .bool false, .bool false, .bool false] 49)).heap[w.heap.size + 1]? := by
      rw [Below.heap_setCell _ _ _ _ (by simp; omega), hT.block _ (by simp; omega) (by omega)]
    rw [← hA']
    exact World.cell?_of_block (a := ⟨w.heap.size + 1, 0, none⟩) e

set_option maxRecDepth 100000 in
set_option maxHeartbeats 4000000 in
theorem insertColumn_full (b0 b1 b2 b3 b4 b5 b6 p : Nat) (name : ByteArray) (n : Nat) (ns : Nat → ByteArray) (ls : Nat → Int) (np : Nat) (pk : Nat → Int) (n0 : Nat) (x0 : Nat → Int) (n1 : Nat) (x1 : Nat → Int) (auto : Int) (added : ByteArray) (at' : Nat) (w : World)
    (hat : at' ≤ n) (hn : n ≤ 1048576) (hnp : np ≤ 1048576) (hn0 : n0 ≤ 1048576) (hn1 : n1 ≤ 1048576) (hb6 : b6 ≤ w.heap.size) (h : TabS w b0 b1 b2 b3 b4 b5 b6 p name n ns ls np pk n0 x0 n1 x1 auto) :
    Calls Try.prog 33 #[.pointer (some ⟨p, 0, none⟩), .agg #[.string added, .int .u8 0, .string ⟨#[]⟩, .string ⟨#[]⟩, .int .i64 (-1), .int .i64 0, .bool false, .bool false, .int .u8 0, .int .i64 0, .string ⟨#[]⟩, .bool false, .bool false, .bool false], .int .i64 at'] w
      fun e w' => e = .returned (.tuple #[]) ∧ Tab w' b0 w'.heap.size p name (n + 1) (insN ns added at') (insN ls (-1) at') np (fun i => mv at' (pk i)) n0 (fun i => mv at' (x0 i)) n1 (fun i => mv at' (x1 i)) (mv at' auto) ∧ Below b0 w w' ∧ ∀ k, b6 ≤ k → k < w.heap.size → w'.heap[k]? = w.heap[k]? := by
  obtain ⟨ac, cc, ap, cp, gi, ci, F, a0, c0, a1, c1, h1, h2, h3, h4, hb, h5, h6, h6', h7, h8, h9, h10, h11, h12⟩ := h
  obtain ⟨y0, y1, y2, y3, y4, y5, y6, y7, y8, y9, y10⟩ := obj_cells h5
  have hpw : p < w.heap.size := h5.lt
  have hC := (rowIs_col w added).alloc (.cells #[.int .i64 at'] 3)
  have hA : ((w.alloc (.cells #[.string added, .int .u8 0, .string ⟨#[]⟩, .string ⟨#[]⟩, .int .i64 (-1), .int .i64 0, .bool false, .bool false, .int .u8 0, .int .i64 0, .string ⟨#[]⟩, .bool false, .bool false, .bool false] 49)).alloc (.cells #[.int .i64 at'] 3)).cell? ⟨w.heap.size + 1, 0, none⟩ = some (.int .i64 at') := by simp
  have hB2 : Below w.heap.size w ((w.alloc (.cells #[.string added, .int .u8 0, .string ⟨#[]⟩, .string ⟨#[]⟩, .int .i64 (-1), .int .i64 0, .bool false, .bool false, .int .u8 0, .int .i64 0, .string ⟨#[]⟩, .bool false, .bool false, .bool false] 49)).alloc (.cells #[.int .i64 at'] 3)) := ((Below.refl _ _).alloc (Nat.le_refl _) _).alloc (by simp) _
  have hS2 : ((w.alloc (.cells #[.string added, .int .u8 0, .string ⟨#[]⟩, .string ⟨#[]⟩, .int .i64 (-1), .int .i64 0, .bool false, .bool false, .int .u8 0, .int .i64 0, .string ⟨#[]⟩, .bool false, .bool false, .bool false] 49)).alloc (.cells #[.int .i64 at'] 3)).heap.size = w.heap.size + 2 := by simp
  clear y0 y1 y2 y3 y4 y5 y6 y7 y8 y9 y10
  go_enter Try.func33, Try.ntmps33
  go_wp2_with fail
  generalize (w.alloc (.cells #[.string added, .int .u8 0, .string ⟨#[]⟩, .string ⟨#[]⟩, .int .i64 (-1), .int .i64 0, .bool false, .bool false, .int .u8 0, .int .i64 0, .string ⟨#[]⟩, .bool false, .bool false, .bool false] 49)).alloc (.cells #[.int .i64 at'] 3) = W2 at hC hA hB2 hS2 ⊢
  have hO := rowIs_below h5 hB2 hpw
  have hpl := hO.lt
  have y1 := (obj_cells hO).2.1
  have fy1 := hO.frozen 1
  have hArr := (h9.below hB2 (by omega : b2 ≤ w.heap.size)).keep (w' := W2.alloc (.cells #[.string added, .int .u8 0, .string ⟨#[]⟩, .string ⟨#[]⟩, .int .i64 (-1), .int .i64 0, .bool false, .bool false, .int .u8 0, .int .i64 0, .string ⟨#[]⟩, .bool false, .bool false, .bool false] 49)) (fun k h h' => Below.heap_alloc _ _ _ (by omega))
  have hv := rowIs_col W2 added
  have hOA := hO.alloc (.cells #[.string added, .int .u8 0, .string ⟨#[]⟩, .string ⟨#[]⟩, .int .i64 (-1), .int .i64 0, .bool false, .bool false, .int .u8 0, .int .i64 0, .string ⟨#[]⟩, .bool false, .bool false, .bool false] 49)
  obtain ⟨x0, x1, x2, x3, x4, x5, x6, x7, x8, x9, x10, x11, x12, x13⟩ := col_cells (k := 0) (s := added) (l := -1) hC (by omega) (fun j hj => by rw [Nat.zero_mul, Nat.zero_add])
  simp only [Nat.zero_mul, Nat.zero_add] at x0 x1 x2 x3 x4 x5 x6 x7 x8 x9 x10 x11 x12 x13
  have HS2 := hide hS2
  clear hS2
  have hq1 : b2 ≤ (W2.alloc (.cells #[.string added, .int .u8 0, .string ⟨#[]⟩, .string ⟨#[]⟩, .int .i64 (-1), .int .i64 0, .bool false, .bool false, .int .u8 0, .int .i64 0, .string ⟨#[]⟩, .bool false, .bool false, .bool false] 49)).heap.size := by have := HS2.out; simp; omega
  have hq3 : b2 ≤ W2.heap.size := by have := HS2.out; omega
  have hpa : p < (W2.alloc (.cells #[.string added, .int .u8 0, .string ⟨#[]⟩, .string ⟨#[]⟩, .int .i64 (-1), .int .i64 0, .bool false, .bool false, .int .u8 0, .int .i64 0, .string ⟨#[]⟩, .bool false, .bool false, .bool false] 49)).heap.size := hOA.lt
  have hpn : ¬ (b1 ≤ p ∧ p < b2) := by omega
  have hA' : (W2.alloc (.cells #[.string added, .int .u8 0, .string ⟨#[]⟩, .string ⟨#[]⟩, .int .i64 (-1), .int .i64 0, .bool false, .bool false, .int .u8 0, .int .i64 0, .string ⟨#[]⟩, .bool false, .bool false, .bool false] 49)).cell? ⟨w.heap.size + 1, 0, none⟩ = some (.int .i64 at') := (((Below.refl _ _).alloc (Nat.le_refl _) _).cell (p := ⟨w.heap.size + 1, 0, none⟩) (lt_of_cell hA)).trans hA
  have y1' := (obj_cells hOA).2.1
  go_cut [] from 13 to 23 (fun w' => Ins1 w b0 b1 b2 p name n (ins (cflat ns ls) (ccell added (-1)) at') (.slice ap np cp) (.slice (some ⟨gi, 0, none⟩) 2 ci) auto at' w')
  case first =>
   go_region_with (first | (go_at_call 39; refine (insert_any ac n cc at' W2.heap.size b1 b2 (cflat ns ls) (ccell added (-1)) _ hat hn (by exact hArr) (by exact hq1) hb.1 (by exact hv) hq3 (fun j _ => cflat_one _ _ j) (fun j hj => ccell_one _ _ j hj)).mono ?_; rintro e w1 ⟨g', c', F', rfl, k1, k2, k3, k4, k5, hT⟩; have hO1 := hOA.of_block (hT.block p (by exact hpa) hpn); have e1 := (obj_cells hO1).2.1; have e3 := hO1.frozen 1))
   all_goals
     go_wp2_with fail
     go_meet
     case rel => exact ins1_of HS2.out hB2 h1 h2 hb.1 (by omega) hpw hO1 hA' k1 k2 k3 k4 k5 (Touch.undrew hT)
  case rest =>
  clear hO y1 fy1 hArr hv hOA x0 x1 x2 x3 x4 x5 x6 x7 x8 x9 x10 x11 x12 x13 hA' y1' hq1 hq3 hpa hpn hC hA hB2
  obtain ⟨g', c', F', k1, k2, k3, k4, k5, kO, kB, kA, kBel, kS⟩ := hcut
  have P := h10.keep (w' := wc) (fun j hj hj' => kB j (by omega) (by omega) (by omega))
  have z2 := (obj_cells kO).2.2.1
  go_wp2_with fail
  clear z2
  go_loopw [30] (fun i wr => ∃ k : Nat, k ≤ np ∧ i = .int .i64 k ∧ Arr wr b2 b3 3 1 ap np cp (fun j => if j < k then .int .i64 (mv at' (pk j)) else .int .i64 (pk j)) ∧ Touch wc wr b2 b3) (fun i _ => np - (intOf i).toNat)
  case atStart => exact ⟨0, Nat.zero_le _, rfl, P.congr (fun j _ => by simp), Touch.refl _ _ _⟩
  case round =>
  clear P
  obtain ⟨k, hk, rfl, A, hT⟩ := hrel
  have hO2 := kO.of_block (hT.block p kO.lt (by omega))
  have hat2 : wr.cell? ⟨w.heap.size + 1, 0, none⟩ = some (.int .i64 at') := (World.cell?_of_block (a := ⟨w.heap.size + 1, 0, none⟩) (hT.block (w.heap.size + 1) (by omega) (by omega))).trans kA
  by_cases hlt : k < np
  · obtain ⟨gp, G, q1, q2, rfl, q4, q5, q6, q7⟩ := A.at (by omega)
    have z2 := (obj_cells hO2).2.2.1
    have c1 : wr.cell? ⟨gp, k, none⟩ = some (.int .i64 (pk k)) := by rw [q6.cell (by omega), q7 k (by omega), if_neg (by omega)]
    have f1 := q6.frozen k
    have ne1 : ¬ p = gp := by omega
    have ne2 : ¬ gp = p := by omega
    have ne3 : ¬ w.heap.size + 1 = gp := by omega
    have ne4 : ¬ gp = w.heap.size + 1 := by omega
    have i0 : (0 : Int) ≤ (k : Int) := by omega
    have i1 : (k : Int) < (np : Int) := by omega
    go_wp2_with fail
    go_region_held3 (fun w' => w'.cell? ⟨p, 2, none⟩ = some (.slice (some ⟨gp, 0, none⟩) np cp) ∧ w'.cell? ⟨w.heap.size + 1, 0, none⟩ = some (.int .i64 at')) (go_keep)
      (first | (go_at_call 40; refine (moved_any (pk k) at' (w.heap.size + 1) _ (by assumption)).mono ?_; rintro e w1 ⟨rfl, rfl⟩))
    go_wp2_with fail
    go_roundw
    case rel => exact ⟨k + 1, by omega, by go_num, moved_step (m := fun j => mv at' (pk j)) (z := pk) q1 q2 q4 q5 q6 q7, (hT.setCell q1 q2 _ _).drew⟩
    case measure => simp [intOf]; omega
  have A' := A.congr (f' := fun j => .int .i64 (mv at' (pk j))) (fun j hj => by rw [if_pos (by omega)])
  have I0 := h11.keep (w' := wr) (fun j hj hj' => by rw [hT.block j (by omega) (by omega), kB j (by omega) (by omega) (by omega)])
  have I1 := h12.keep (w' := wr) (fun j hj hj' => by rw [hT.block j (by omega) (by omega), kB j (by omega) (by omega) (by omega)])
  have hI := h7.of_block (w' := wr) (by rw [hT.block gi (by omega) (by omega), kB gi (by omega) (by omega) (by omega)])
  have z3 := (obj_cells hO2).2.2.2.1
  have hsz := hT.size
  obtain ⟨wp, rfl⟩ : ∃ wp : World, wp = wr := ⟨_, rfl⟩
  clear A
  go_wp2_with fail
  clear z3
  go_loopw [50] (fun i wr => ∃ k : Nat, k ≤ 2 ∧ i = .int .i64 k ∧ Arr wr b4 b5 3 1 a0 n0 c0 (fun j => if 0 < k then .int .i64 (mv at' (x0 j)) else .int .i64 (x0 j)) ∧ Arr wr b5 b6 3 1 a1 n1 c1 (fun j => if 1 < k then .int .i64 (mv at' (x1 j)) else .int .i64 (x1 j)) ∧ Touch wp wr b4 b6) (fun i _ => 2 - (intOf i).toNat)
  case atStart => exact ⟨0, by omega, rfl, I0.congr (fun j _ => by simp), I1.congr (fun j _ => by simp), Touch.refl _ _ _⟩
  case round =>
  clear I0 I1
  obtain ⟨k3, hk3, rfl, A0, A1, hT2⟩ := hrel
  have hsz2 := hT2.size
  have hI2 := hI.of_block (hT2.block gi (by omega) (by omega))
  have hO3 := hO2.of_block (hT2.block p (by omega) (by omega))
  have hat3 : wr.cell? ⟨w.heap.size + 1, 0, none⟩ = some (.int .i64 at') := (World.cell?_of_block (a := ⟨w.heap.size + 1, 0, none⟩) (hT2.block (w.heap.size + 1) (by omega) (by omega))).trans hat2
  rcases (by omega : k3 = 0 ∨ k3 = 1 ∨ k3 = 2) with rfl | rfl | rfl
  all_goals simp only [Nat.lt_irrefl, if_false, Nat.not_lt_zero, Nat.zero_lt_one, if_true, Nat.zero_lt_succ, show ¬ (1 < 0) by omega, show (1 < 2) by omega, show (0 < 2) by omega] at A0 A1
  · have t0 : wr.cell? ⟨gi, 0, none⟩ = some (.string ⟨#[105, 48]⟩) := by rw [hI2.cell (by omega), h8 0 (by omega)]; rfl
    have t1 : wr.cell? ⟨gi, 1, none⟩ = some (.slice a0 n0 c0) := by rw [hI2.cell (by omega), h8 1 (by omega)]; rfl
    have t2 : wr.cell? ⟨gi, 2, none⟩ = some (.bool true) := by rw [hI2.cell (by omega), h8 2 (by omega)]; rfl
    go_wp2_with fail
    clear t0 t1 t2
    obtain ⟨wo, rfl⟩ : ∃ wo : World, wo = wr := ⟨_, rfl⟩
    have hX := rowIs_ix wo (.string ⟨#[105, 48]⟩) (.slice a0 n0 c0) (.bool true)
    have hal : ∀ j, j < wo.heap.size → (wo.alloc (.cells #[.string ⟨#[105, 48]⟩, .slice a0 n0 c0, .bool true] 60)).heap[j]? = wo.heap[j]? := fun j hj => Below.heap_alloc _ _ _ hj
    have B := A0.keep (w' := wo.alloc (.cells #[.string ⟨#[105, 48]⟩, .slice a0 n0 c0, .bool true] 60)) (fun j _ hj => hal j (by omega))
    have hT3 := hT2.alloc (.cells #[.string ⟨#[105, 48]⟩, .slice a0 n0 c0, .bool true] 60)
    have hz3 : (wo.alloc (.cells #[.string ⟨#[105, 48]⟩, .slice a0 n0 c0, .bool true] 60)).heap.size = wo.heap.size + 1 := by simp
    go_loopw [57] (fun i wr => ∃ k : Nat, k ≤ n0 ∧ i = .int .i64 k ∧ Arr wr b4 b5 3 1 a0 n0 c0 (fun j => if j < k then .int .i64 (mv at' (x0 j)) else .int .i64 (x0 j)) ∧ Touch (wo.alloc (.cells #[.string ⟨#[105, 48]⟩, .slice a0 n0 c0, .bool true] 60)) wr b4 b5) (fun i _ => n0 - (intOf i).toNat)
    case atStart => exact ⟨0, Nat.zero_le _, rfl, B.congr (fun j _ => by simp), Touch.refl _ _ _⟩
    case round =>
    clear B
    obtain ⟨k2, hk2, rfl, A, hT4⟩ := hrel
    have hX2 := hX.of_block (hT4.block wo.heap.size (by omega) (by omega))
    have hat4 : wr.cell? ⟨w.heap.size + 1, 0, none⟩ = some (.int .i64 at') := (World.cell?_of_block (a := ⟨w.heap.size + 1, 0, none⟩) ((hT4.block (w.heap.size + 1) (by omega) (by omega)).trans (hal _ (by omega)))).trans hat3
    by_cases hlt2 : k2 < n0
    · obtain ⟨gp, G, q1, q2, rfl, q4, q5, q6, q7⟩ := A.at (by omega)
      have z1 := hX2.cell (i := 1) (by omega)
      simp only [ixc] at z1
      have cq1 : wr.cell? ⟨gp, k2, none⟩ = some (.int .i64 (x0 k2)) := by rw [q6.cell (by omega), q7 k2 (by omega), if_neg (by omega)]
      have f1 := q6.frozen k2
      have ne1 : ¬ wo.heap.size = gp := by omega
      have ne2 : ¬ gp = wo.heap.size := by omega
      have ne3 : ¬ w.heap.size + 1 = gp := by omega
      have ne4 : ¬ gp = w.heap.size + 1 := by omega
      have i0 : (0 : Int) ≤ (k2 : Int) := by omega
      have i1 : (k2 : Int) < (n0 : Int) := by omega
      go_wp2_with fail
      go_region_held3 (fun w' => w'.cell? ⟨wo.heap.size, 1, none⟩ = some (.slice (some ⟨gp, 0, none⟩) n0 c0) ∧ w'.cell? ⟨w.heap.size + 1, 0, none⟩ = some (.int .i64 at')) (go_keep)
        (first | (go_at_call 40; refine (moved_any (x0 k2) at' (w.heap.size + 1) _ (by assumption)).mono ?_; rintro e w1 ⟨rfl, rfl⟩))
      go_wp2_with fail
      go_roundw
      case rel =>
        (repeat apply Exists.intro)
        exact ⟨⟨k2 + 1, by omega, by go_num, moved_step (m := fun j => mv at' (x0 j)) (z := x0) q1 q2 q4 q5 q6 q7, (hT4.setCell q1 q2 _ _).drew⟩, rfl⟩
      case measure => simp [intOf]; omega
    have A'' := A.congr (f' := fun j => .int .i64 (mv at' (x0 j))) (fun j hj => by rw [if_pos (by omega)])
    go_wp2_with fail
    go_roundw
    case rel => exact ⟨1, by omega, by go_num, A''.congr (fun j _ => by simp), (A1.keep (fun j _ hj => by rw [hT4.block j (by omega) (by omega), hal j (by omega)])), hT3.trans (hT4.mono (by omega) (by omega))⟩
    case measure => simp [intOf]
  · have t0 : wr.cell? ⟨gi, 3, none⟩ = some (.string ⟨#[105, 49]⟩) := by rw [hI2.cell (by omega), h8 3 (by omega)]; rfl
    have t1 : wr.cell? ⟨gi, 4, none⟩ = some (.slice a1 n1 c1) := by rw [hI2.cell (by omega), h8 4 (by omega)]; rfl
    have t2 : wr.cell? ⟨gi, 5, none⟩ = some (.bool false) := by rw [hI2.cell (by omega), h8 5 (by omega)]; rfl
    go_wp2_with fail
    clear t0 t1 t2
    obtain ⟨wo, rfl⟩ : ∃ wo : World, wo = wr := ⟨_, rfl⟩
    have hX := rowIs_ix wo (.string ⟨#[105, 49]⟩) (.slice a1 n1 c1) (.bool false)
    have hal : ∀ j, j < wo.heap.size → (wo.alloc (.cells #[.string ⟨#[105, 49]⟩, .slice a1 n1 c1, .bool false] 60)).heap[j]? = wo.heap[j]? := fun j hj => Below.heap_alloc _ _ _ hj
    have B := A1.keep (w' := wo.alloc (.cells #[.string ⟨#[105, 49]⟩, .slice a1 n1 c1, .bool false] 60)) (fun j _ hj => hal j (by omega))
    have hT3 := hT2.alloc (.cells #[.string ⟨#[105, 49]⟩, .slice a1 n1 c1, .bool false] 60)
    have hz3 : (wo.alloc (.cells #[.string ⟨#[105, 49]⟩, .slice a1 n1 c1, .bool false] 60)).heap.size = wo.heap.size + 1 := by simp
    go_loopw [57] (fun i wr => ∃ k : Nat, k ≤ n1 ∧ i = .int .i64 k ∧ Arr wr b5 b6 3 1 a1 n1 c1 (fun j => if j < k then .int .i64 (mv at' (x1 j)) else .int .i64 (x1 j)) ∧ Touch (wo.alloc (.cells #[.string ⟨#[105, 49]⟩, .slice a1 n1 c1, .bool false] 60)) wr b5 b6) (fun i _ => n1 - (intOf i).toNat)
    case atStart => exact ⟨0, Nat.zero_le _, rfl, B.congr (fun j _ => by simp), Touch.refl _ _ _⟩
    case round =>
    clear B
    obtain ⟨k2, hk2, rfl, A, hT4⟩ := hrel
    have hX2 := hX.of_block (hT4.block wo.heap.size (by omega) (by omega))
    have hat4 : wr.cell? ⟨w.heap.size + 1, 0, none⟩ = some (.int .i64 at') := (World.cell?_of_block (a := ⟨w.heap.size + 1, 0, none⟩) ((hT4.block (w.heap.size + 1) (by omega) (by omega)).trans (hal _ (by omega)))).trans hat3
    by_cases hlt2 : k2 < n1
    · obtain ⟨gp, G, q1, q2, rfl, q4, q5, q6, q7⟩ := A.at (by omega)
      have z1 := hX2.cell (i := 1) (by omega)
      simp only [ixc] at z1
      have cq1 : wr.cell? ⟨gp, k2, none⟩ = some (.int .i64 (x1 k2)) := by rw [q6.cell (by omega), q7 k2 (by omega), if_neg (by omega)]
      have f1 := q6.frozen k2
      have ne1 : ¬ wo.heap.size = gp := by omega
      have ne2 : ¬ gp = wo.heap.size := by omega
      have ne3 : ¬ w.heap.size + 1 = gp := by omega
      have ne4 : ¬ gp = w.heap.size + 1 := by omega
      have i0 : (0 : Int) ≤ (k2 : Int) := by omega
      have i1 : (k2 : Int) < (n1 : Int) := by omega
      go_wp2_with fail
      go_region_held3 (fun w' => w'.cell? ⟨wo.heap.size, 1, none⟩ = some (.slice (some ⟨gp, 0, none⟩) n1 c1) ∧ w'.cell? ⟨w.heap.size + 1, 0, none⟩ = some (.int .i64 at')) (go_keep)
        (first | (go_at_call 40; refine (moved_any (x1 k2) at' (w.heap.size + 1) _ (by assumption)).mono ?_; rintro e w1 ⟨rfl, rfl⟩))
      go_wp2_with fail
      go_roundw
      case rel =>
        (repeat apply Exists.intro)
        exact ⟨⟨k2 + 1, by omega, by go_num, moved_step (m := fun j => mv at' (x1 j)) (z := x1) q1 q2 q4 q5 q6 q7, (hT4.setCell q1 q2 _ _).drew⟩, rfl⟩
      case measure => simp [intOf]; omega
    have A'' := A.congr (f' := fun j => .int .i64 (mv at' (x1 j))) (fun j hj => by rw [if_pos (by omega)])
    go_wp2_with fail
    go_roundw
    case rel => exact ⟨2, by omega, by go_num, (A0.keep (fun j _ hj => by rw [hT4.block j (by omega) (by omega), hal j (by omega)])).congr (fun j _ => by simp), A''.congr (fun j _ => by simp), hT3.trans (hT4.mono (by omega) (by omega))⟩
    case measure => simp [intOf]
  · have z4 := (obj_cells hO3).2.2.2.2.1
    have f4 := hO3.frozen 4
    go_wp2_with fail
    refine (moved_any auto at' (w.heap.size + 1) _ hat3).mono ?_
    rintro e w1 ⟨rfl, rfl⟩
    go_wp2_with fail
    go_end0
    have hblk : ∀ j, j ≠ p → (w1.setCell ⟨p, 4, none⟩ (.int .i64 (mv at' auto))).heap[j]? = w1.heap[j]? := fun j hj => Below.heap_setCell _ _ _ _ (by simpa using hj)
    have e2 : ∀ j, j < wp.heap.size → ¬ (b4 ≤ j ∧ j < b6) → w1.heap[j]? = wp.heap[j]? := fun j h h' => hT2.block j h h'
    have e1 : ∀ j, j < wc.heap.size → ¬ (b2 ≤ j ∧ j < b3) → wp.heap[j]? = wc.heap[j]? := fun j h h' => hT.block j h h'
    have hg'c : g' < wc.heap.size := k4.lt
    have hbig : b6 ≤ w1.heap.size := by omega
    refine ⟨rfl, ⟨some ⟨g', 0, none⟩, c', ap, cp, gi, ci, F, a0, c0, a1, c1, h1, by rw [size_setCell]; omega, by omega, by rw [size_setCell]; omega, obj_set4 hO3 _, h6, h6', hI2.of_block (hblk gi (by omega)), h8, ?_, ?_, ?_, ?_⟩, ?_, fun j hj hj' => by rw [hblk j (by omega), e2 j (by omega) (by omega), e1 j (by omega) (by omega), kB j hj' (by omega) (by omega)]⟩
    · refine .inr ⟨g', F', by omega, by rw [size_setCell]; omega, rfl, k1, k2, k4.of_block ?_, fun j hj => by rw [k5 j hj, ins_cflat]⟩
      rw [hblk g' (by omega), e2 g' (by omega) (by omega), e1 g' hg'c (by omega)]
    · refine (A'.keep (fun j hj hj' => ?_)).mono (by omega) (by rw [size_setCell]; omega)
      rw [hblk j (by omega), e2 j (by omega) (by omega)]
    · exact (A0.keep (fun j hj hj' => hblk j (by omega))).mono (by omega) (by rw [size_setCell]; omega)
    · exact (A1.keep (fun j hj hj' => hblk j (by omega))).mono (by omega) (by rw [size_setCell]; omega)
    · have hw : Below b0 w w1 := kBel.trans ⟨hT2.os.trans hT.os, hT2.tape.trans hT.tape, hT2.output.trans hT.output, by omega, fun j hj => by rw [e2 j (by omega) (by omega), e1 j (by omega) (by omega)]⟩
      exact hw.setCell h1 _

theorem TabS.below {w w' : World} {b0 b1 b2 b3 b4 b5 b6 p B : Nat} {name : ByteArray} {n : Nat} {ns : Nat → ByteArray} {ls : Nat → Int} {np : Nat} {pk : Nat → Int} {n0 : Nat} {x0 : Nat → Int} {n1 : Nat} {x1 : Nat → Int} {auto : Int}
    (h : TabS w b0 b1 b2 b3 b4 b5 b6 p name n ns ls np pk n0 x0 n1 x1 auto) (hB : Below B w w') (h6 : b6 ≤ B) : TabS w' b0 b1 b2 b3 b4 b5 b6 p name n ns ls np pk n0 x0 n1 x1 auto := by
  obtain ⟨ac, cc, ap, cp, gi, ci, F, a0, c0, a1, c1, h1, h2, h3, h4, hb, h5, h6, h6', h7, h8, h9, h10, h11, h12⟩ := h
  exact ⟨ac, cc, ap, cp, gi, ci, F, a0, c0, a1, c1, h1, h2, h3, h4, hb, rowIs_below h5 hB (by omega), h6, h6', rowIs_below h7 hB (by omega), h8, h9.below hB (by omega), h10.below hB (by omega), h11.below hB (by omega), h12.below hB (by omega)⟩

/-- 'ZZInsertColumn'. -/
theorem zzInsertColumn_full (b0 b1 b2 b3 b4 b5 b6 p : Nat) (name : ByteArray) (n : Nat) (ns : Nat → ByteArray) (ls : Nat → Int) (np : Nat) (pk : Nat → Int) (n0 : Nat) (x0 : Nat → Int) (n1 : Nat) (x1 : Nat → Int) (auto : Int) (added : ByteArray) (at' : Nat) (w : World)
    (hat : at' ≤ n) (hn : n ≤ 1048576) (hnp : np ≤ 1048576) (hn0 : n0 ≤ 1048576) (hn1 : n1 ≤ 1048576) (hb6 : b6 ≤ w.heap.size) (hb0 : b0 ≤ b6) (h : TabS w b0 b1 b2 b3 b4 b5 b6 p name n ns ls np pk n0 x0 n1 x1 auto) :
    Calls Try.prog 22 #[.pointer (some ⟨p, 0, none⟩), .agg #[.string added, .int .u8 0, .string ⟨#[]⟩, .string ⟨#[]⟩, .int .i64 (-1), .int .i64 0, .bool false, .bool false, .int .u8 0, .int .i64 0, .string ⟨#[]⟩, .bool false, .bool false, .bool false], .int .i64 at'] w
      fun e w' => e = .returned (.tuple #[]) ∧ Tab w' b0 w'.heap.size p name (n + 1) (insN ns added at') (insN ls (-1) at') np (fun i => mv at' (pk i)) n0 (fun i => mv at' (x0 i)) n1 (fun i => mv at' (x1 i)) (mv at' auto) ∧ Below b0 w w' ∧ ∀ k, b6 ≤ k → k < w.heap.size → w'.heap[k]? = w.heap[k]? := by
  have hB : Below w.heap.size w (w.alloc (.cells #[.string added, .int .u8 0, .string ⟨#[]⟩, .string ⟨#[]⟩, .int .i64 (-1), .int .i64 0, .bool false, .bool false, .int .u8 0, .int .i64 0, .string ⟨#[]⟩, .bool false, .bool false, .bool false] 49)) := (Below.refl _ _).alloc (Nat.le_refl _) _
  have hT := h.below hB hb6
  go_enter Try.func22, Try.ntmps22
  go_wp2_with fail
  refine (insertColumn_full b0 b1 b2 b3 b4 b5 b6 p name n ns ls np pk n0 x0 n1 x1 auto added at' _ hat hn hnp hn0 hn1 (by simp; omega) hT).mono ?_
  rintro e w1 ⟨rfl, hT1, hB1, hK1⟩
  go_wp2_with fail
  go_end0
  exact ⟨rfl, hT1, (hB.mono (by omega)).trans hB1, fun k hk hk' => (hK1 k hk (by simp; omega)).trans (Below.heap_alloc _ _ _ hk')⟩

/-- 'ZZInsertColumn'. -/
theorem zzInsertColumn_any (b0 b1 b2 b3 b4 b5 b6 p : Nat) (name : ByteArray) (n : Nat) (ns : Nat → ByteArray) (ls : Nat → Int) (np : Nat) (pk : Nat → Int) (n0 : Nat) (x0 : Nat → Int) (n1 : Nat) (x1 : Nat → Int) (auto : Int) (added : ByteArray) (at' : Nat) (w : World)
    (hat : at' ≤ n) (hn : n ≤ 1048576) (hnp : np ≤ 1048576) (hn0 : n0 ≤ 1048576) (hn1 : n1 ≤ 1048576) (hb6 : b6 ≤ w.heap.size) (hb0 : b0 ≤ b6) (h : TabS w b0 b1 b2 b3 b4 b5 b6 p name n ns ls np pk n0 x0 n1 x1 auto) :
    Calls Try.prog 22 #[.pointer (some ⟨p, 0, none⟩), .agg #[.string added, .int .u8 0, .string ⟨#[]⟩, .string ⟨#[]⟩, .int .i64 (-1), .int .i64 0, .bool false, .bool false, .int .u8 0, .int .i64 0, .string ⟨#[]⟩, .bool false, .bool false, .bool false], .int .i64 at'] w
      fun e w' => e = .returned (.tuple #[]) ∧ Tab w' b0 w'.heap.size p name (n + 1) (insN ns added at') (insN ls (-1) at') np (fun i => mv at' (pk i)) n0 (fun i => mv at' (x0 i)) n1 (fun i => mv at' (x1 i)) (mv at' auto) ∧ Below b0 w w' :=
  (zzInsertColumn_full b0 b1 b2 b3 b4 b5 b6 p name n ns ls np pk n0 x0 n1 x1 auto added at' w hat hn hnp hn0 hn1 hb6 hb0 h).mono fun _ _ ⟨h1, h2, h3, _⟩ => ⟨h1, h2, h3⟩
end Go.Proofs.Qxb6001703a
