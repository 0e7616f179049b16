/- '(*TableDef).clone', 'ZZClone'. -/
import Derived.Test.Qxb6001703aTab
import Derived.Deep.QuietTactic
import Derived.BigQuiet
import Derived.RegionTactic
import Derived.Deep.RegionHeld3
import Derived.Deep.RegionWith
namespace Go.Proofs.Qxb6001703a
open Go.ChangeShapes Go.WideShapes Go.ChangeAt Go.RowKit
set_option linter.unusedSimpArgs false

/-- A TABLE IN MEMORY, EACH OF ITS PARTS IN AN INTERVAL OF ITS OWN. -/
def TabS (w : World) (b0 b1 b2 b3 b4 b5 b6 p : Nat) (name : ByteArray) (n : Nat) (ns : Nat → ByteArray) (ls : Nat → Int) (np : Nat) (pk : Nat → Int) (n0 : Nat) (x0 : Nat → Int) (n1 : Nat) (x1 : Nat → Int) (auto : Int) : Prop :=
  ∃ (ac : Option Addr) (cc : Nat) (ap : Option Addr) (cp gi ci : Nat) (F : Nat → Value) (a0 : Option Addr) (c0 : Nat) (a1 : Option Addr) (c1 : Nat),
    b0 ≤ p ∧ p < b1 ∧ b3 ≤ gi ∧ gi < b4 ∧ (b1 ≤ b2 ∧ b2 ≤ b3 ∧ b4 ≤ b5 ∧ b5 ≤ b6) ∧
    w.rowIs p 57 11 (tcell name (.slice ac n cc) (.slice ap np cp) (.slice (some ⟨gi, 0, none⟩) 2 ci) auto) ∧
    2 ≤ ci ∧ ci ≤ 9223372036854775807 ∧ w.rowIs gi 60 (ci * 3) F ∧ (∀ i, i < 6 → F i = icell (.slice a0 n0 c0) (.slice a1 n1 c1) i) ∧
    Arr w b1 b2 49 14 ac n cc (cflat ns ls) ∧ Arr w b2 b3 3 1 ap np cp (fun i => .int .i64 (pk i)) ∧
    Arr w b4 b5 3 1 a0 n0 c0 (fun i => .int .i64 (x0 i)) ∧ Arr w b5 b6 3 1 a1 n1 c1 (fun i => .int .i64 (x1 i))

theorem TabS.tab {w : World} {b0 b1 b2 b3 b4 b5 b6 p : Nat} {name : ByteArray} {n : Nat} {ns : Nat → ByteArray} {ls : Nat → Int} {np : Nat} {pk : Nat → Int} {n0 : Nat} {x0 : Nat → Int} {n1 : Nat} {x1 : Nat → Int} {auto : Int}
    (h : TabS w b0 b1 b2 b3 b4 b5 b6 p name n ns ls np pk n0 x0 n1 x1 auto) : Tab w b0 b6 p name n ns ls np pk n0 x0 n1 x1 auto := by
  obtain ⟨ac, cc, ap, cp, gi, ci, F, a0, c0, a1, c1, h1, h2, h3, h4, hb, h5, h6, h6', h7, h8, h9, h10, h11, h12⟩ := h
  exact ⟨ac, cc, ap, cp, gi, ci, F, a0, c0, a1, c1, h1, by omega, by omega, by omega, h5, h6, h6', h7, h8, h9.mono (by omega) (by omega), h10.mono (by omega) (by omega), h11.mono (by omega) (by omega), h12.mono (by omega) (by omega)⟩

theorem obj_cells {w : World} {p : Nat} {name : ByteArray} {cols pk ixs : Value} {auto : Int} (h : w.rowIs p 57 11 (tcell name cols pk ixs auto)) :
    w.cell? ⟨p, 0, none⟩ = some (.string name) ∧ w.cell? ⟨p, 1, none⟩ = some cols ∧ w.cell? ⟨p, 2, none⟩ = some pk ∧ w.cell? ⟨p, 3, none⟩ = some ixs ∧ w.cell? ⟨p, 4, none⟩ = some (.int .i64 auto) ∧ w.cell? ⟨p, 5, none⟩ = some (.int .u64 1) ∧
    w.cell? ⟨p, 6, none⟩ = some (.slice none 0 0) ∧ w.cell? ⟨p, 7, none⟩ = some (.pointer none) ∧ w.cell? ⟨p, 8, none⟩ = some (.string ⟨#[]⟩) ∧ w.cell? ⟨p, 9, none⟩ = some (.bool false) ∧ w.cell? ⟨p, 10, none⟩ = some (.int .i64 0) :=
  ⟨h.cell (by omega), h.cell (by omega), h.cell (by omega), h.cell (by omega), h.cell (by omega), h.cell (by omega), h.cell (by omega), h.cell (by omega), h.cell (by omega), h.cell (by omega), h.cell (by omega)⟩

theorem obj_set1 {w : World} {p : Nat} {name : ByteArray} {cols pk ixs : Value} {auto : Int} (h : w.rowIs p 57 11 (tcell name cols pk ixs auto)) (v : Value) : (w.setCell ⟨p, 1, none⟩ v).rowIs p 57 11 (tcell name v pk ixs auto) :=
  (h.set 1 v).congr (fun j hj => by
    have : j = 0 ∨ j = 1 ∨ j = 2 ∨ j = 3 ∨ j = 4 ∨ j = 5 ∨ j = 6 ∨ j = 7 ∨ j = 8 ∨ j = 9 ∨ j = 10 := by omega
    rcases this with rfl | rfl | rfl | rfl | rfl | rfl | rfl | rfl | rfl | rfl | rfl <;> rfl)
theorem obj_set2 {w : World} {p : Nat} {name : ByteArray} {cols pk ixs : Value} {auto : Int} (h : w.rowIs p 57 11 (tcell name cols pk ixs auto)) (v : Value) : (w.setCell ⟨p, 2, none⟩ v).rowIs p 57 11 (tcell name cols v ixs auto) :=
  (h.set 2 v).congr (fun j hj => by
    have : j = 0 ∨ j = 1 ∨ j = 2 ∨ j = 3 ∨ j = 4 ∨ j = 5 ∨ j = 6 ∨ j = 7 ∨ j = 8 ∨ j = 9 ∨ j = 10 := by omega
    rcases this with rfl | rfl | rfl | rfl | rfl | rfl | rfl | rfl | rfl | rfl | rfl <;> rfl)
theorem obj_set3 {w : World} {p : Nat} {name : ByteArray} {cols pk ixs : Value} {auto : Int} (h : w.rowIs p 57 11 (tcell name cols pk ixs auto)) (v : Value) : (w.setCell ⟨p, 3, none⟩ v).rowIs p 57 11 (tcell name cols pk v auto) :=
  (h.set 3 v).congr (fun j hj => by
    have : j = 0 ∨ j = 1 ∨ j = 2 ∨ j = 3 ∨ j = 4 ∨ j = 5 ∨ j = 6 ∨ j = 7 ∨ j = 8 ∨ j = 9 ∨ j = 10 := by omega
    rcases this with rfl | rfl | rfl | rfl | rfl | rfl | rfl | rfl | rfl | rfl | rfl <;> rfl)
theorem obj_set4 {w : World} {p : Nat} {name : ByteArray} {cols pk ixs : Value} {auto : Int} (h : w.rowIs p 57 11 (tcell name cols pk ixs auto)) (a : Int) : (w.setCell ⟨p, 4, none⟩ (.int .i64 a)).rowIs p 57 11 (tcell name cols pk ixs a) :=
  (h.set 4 _).congr (fun j hj => by
    have : j = 0 ∨ j = 1 ∨ j = 2 ∨ j = 3 ∨ j = 4 ∨ j = 5 ∨ j = 6 ∨ j = 7 ∨ j = 8 ∨ j = 9 ∨ j = 10 := by omega
    rcases this with rfl | rfl | rfl | rfl | rfl | rfl | rfl | rfl | rfl | rfl | rfl <;> rfl)
theorem obj_set6 {w : World} {p : Nat} {name : ByteArray} {cols pk ixs : Value} {auto : Int} (h : w.rowIs p 57 11 (tcell name cols pk ixs auto)) : (w.setCell ⟨p, 6, none⟩ (.slice none 0 0)).rowIs p 57 11 (tcell name cols pk ixs auto) :=
  (h.set 6 _).congr (fun j hj => by
    have : j = 0 ∨ j = 1 ∨ j = 2 ∨ j = 3 ∨ j = 4 ∨ j = 5 ∨ j = 6 ∨ j = 7 ∨ j = 8 ∨ j = 9 ∨ j = 10 := by omega
    rcases this with rfl | rfl | rfl | rfl | rfl | rfl | rfl | rfl | rfl | rfl | rfl <;> rfl)

/-- What stands of the clone at the head of the k-th round over its indexes. -/
def CloneRel (w v3 : World) (gi ci : Nat) (O : Nat → Value) (n0 : Nat) (x0 : Nat → Int) (n1 : Nat) (x1 : Nat → Int) (a0 : Option Addr) (c0 : Nat) (a1 : Option Addr) (c1 : Nat) (k : Nat) (wr : World) : Prop :=
  wr.rowIs w.heap.size 57 11 O ∧ Below w.heap.size w wr ∧ v3.heap.size ≤ wr.heap.size ∧ (∀ j, w.heap.size < j → j < v3.heap.size → j ≠ gi → wr.heap[j]? = v3.heap[j]?) ∧
  ((k = 0 ∧ ∃ F, wr.rowIs gi 60 (ci * 3) F ∧ ∀ i, i < 6 → F i = icell (.slice a0 n0 c0) (.slice a1 n1 c1) i) ∨
   (k = 1 ∧ ∃ F a0' c0', wr.rowIs gi 60 (ci * 3) F ∧ (∀ i, i < 6 → F i = icell (.slice a0' n0 c0') (.slice a1 n1 c1) i) ∧ Arr wr v3.heap.size wr.heap.size 3 1 a0' n0 c0' (fun i => .int .i64 (x0 i))) ∨
   (k = 2 ∧ ∃ F a0' c0' a1' c1' b5, wr.rowIs gi 60 (ci * 3) F ∧ (∀ i, i < 6 → F i = icell (.slice a0' n0 c0') (.slice a1' n1 c1') i) ∧ v3.heap.size ≤ b5 ∧ b5 ≤ wr.heap.size ∧
      Arr wr v3.heap.size b5 3 1 a0' n0 c0' (fun i => .int .i64 (x0 i)) ∧ Arr wr b5 wr.heap.size 3 1 a1' n1 c1' (fun i => .int .i64 (x1 i))))

theorem size_setCell (w : World) (a : Addr) (v : Value) : (w.setCell a v).heap.size = w.heap.size := by simp [World.setCell]

theorem undrew {w w1 : World} (h : Below w.drew.heap.size w.drew w1) : Below w.heap.size w w1 := ⟨h.os, h.tape, h.output, h.size, h.block⟩

theorem icell_set1 (x y v : Value) (j : Nat) (hj : j < 6) : (if j = 1 then v else icell x y j) = icell v y j := by
  have : j = 0 ∨ j = 1 ∨ j = 2 ∨ j = 3 ∨ j = 4 ∨ j = 5 := by omega
  rcases this with rfl | rfl | rfl | rfl | rfl | rfl <;> rfl
theorem icell_set4 (x y v : Value) (j : Nat) (hj : j < 6) : (if j = 4 then v else icell x y j) = icell x v j := by
  have : j = 0 ∨ j = 1 ∨ j = 2 ∨ j = 3 ∨ j = 4 ∨ j = 5 := by omega
  rcases this with rfl | rfl | rfl | rfl | rfl | rfl <;> rfl

theorem clone_step0 {w v3 : World} {gi ci : Nat} {O F : Nat → Value} {n0 : Nat} {x0 : Nat → Int} {n1 : Nat} {x1 : Nat → Int} {a0 : Option Addr} {c0 : Nat} {a1 : Option Addr} {c1 : Nat} {wr w1 : World} {a0' : Option Addr} {c0' : Nat}
    (r1 : wr.rowIs w.heap.size 57 11 O) (r2 : Below w.heap.size w wr) (r3 : v3.heap.size ≤ wr.heap.size) (r4 : ∀ j, w.heap.size < j → j < v3.heap.size → j ≠ gi → wr.heap[j]? = v3.heap[j]?)
    (rF : wr.rowIs gi 60 (ci * 3) F) (hF : ∀ i, i < 6 → F i = icell (.slice a0 n0 c0) (.slice a1 n1 c1) i) (hgi : w.heap.size < gi) (hgi3 : gi < v3.heap.size)
    (A : Arr w1 wr.heap.size w1.heap.size 3 1 a0' n0 c0' (fun i => .int .i64 (x0 i))) (hb : Below wr.heap.size wr w1) :
    CloneRel w v3 gi ci O n0 x0 n1 x1 a0 c0 a1 c1 1 (w1.setCell ⟨gi, 1, none⟩ (.slice a0' n0 c0')) := by
  have hsz := hb.size
  refine ⟨(rowIs_below r1 hb r1.lt).setOther (by simp; omega) _, (r2.trans (hb.mono r2.size)).setCell (by simp; omega) _, by rw [size_setCell]; omega, fun j h1 h2 h3 => ?_, .inr (.inl ⟨rfl, _, a0', c0', (rowIs_below rF hb rF.lt).set 1 _, fun i hi => ?_, ?_⟩)⟩
  · rw [Below.heap_setCell _ _ _ _ (by simpa using h3), hb.block j (by omega), r4 j h1 h2 h3]
  · rw [hF i hi]; exact icell_set1 _ _ _ i hi
  · rw [size_setCell]
    exact (A.keep (fun k h _ => Below.heap_setCell _ _ _ _ (by simp; omega))).mono r3 (Nat.le_refl _)

theorem clone_step1 {w v3 : World} {gi ci : Nat} {O F : Nat → Value} {n0 : Nat} {x0 : Nat → Int} {n1 : Nat} {x1 : Nat → Int} {a0 : Option Addr} {c0 : Nat} {a1 : Option Addr} {c1 : Nat} {wr w1 : World} {a0' : Option Addr} {c0' : Nat} {a1' : Option Addr} {c1' : Nat}
    (r1 : wr.rowIs w.heap.size 57 11 O) (r2 : Below w.heap.size w wr) (r3 : v3.heap.size ≤ wr.heap.size) (r4 : ∀ j, w.heap.size < j → j < v3.heap.size → j ≠ gi → wr.heap[j]? = v3.heap[j]?)
    (rF : wr.rowIs gi 60 (ci * 3) F) (hF : ∀ i, i < 6 → F i = icell (.slice a0' n0 c0') (.slice a1 n1 c1) i) (hgi : w.heap.size < gi) (hgi3 : gi < v3.heap.size) (A0 : Arr wr v3.heap.size wr.heap.size 3 1 a0' n0 c0' (fun i => .int .i64 (x0 i)))
    (A : Arr w1 wr.heap.size w1.heap.size 3 1 a1' n1 c1' (fun i => .int .i64 (x1 i))) (hb : Below wr.heap.size wr w1) :
    CloneRel w v3 gi ci O n0 x0 n1 x1 a0 c0 a1 c1 2 (w1.setCell ⟨gi, 4, none⟩ (.slice a1' n1 c1')) := by
  have hsz := hb.size
  refine ⟨(rowIs_below r1 hb r1.lt).setOther (by simp; omega) _, (r2.trans (hb.mono r2.size)).setCell (by simp; omega) _, by rw [size_setCell]; omega, fun j h1 h2 h3 => ?_, .inr (.inr ⟨rfl, _, a0', c0', a1', c1', wr.heap.size, (rowIs_below rF hb rF.lt).set 4 _, fun i hi => ?_, r3, by rw [size_setCell]; exact hsz, ?_, ?_⟩)⟩
  · rw [Below.heap_setCell _ _ _ _ (by simpa using h3), hb.block j (by omega), r4 j h1 h2 h3]
  · rw [hF i hi]; exact icell_set4 _ _ _ i hi
  · exact A0.keep (fun k h h' => by rw [Below.heap_setCell _ _ _ _ (by simp; omega), hb.block k (by omega)])
  · rw [size_setCell]
    exact A.keep (fun k h _ => Below.heap_setCell _ _ _ _ (by simp; omega))

set_option maxRecDepth 100000 in
set_option maxHeartbeats 4000000 in
theorem clone_any (lo hi p : Nat) (name : ByteArray) (n : Nat) (ns : Nat → ByteArray) (ls : Nat → Int) (np : Nat) (pk : Nat → Int) (n0 : Nat) (x0 : Nat → Int) (n1 : Nat) (x1 : Nat → Int) (auto : Int) (w : World)
    (hn : n ≤ 1048576) (hnp : np ≤ 1048576) (hn0 : n0 ≤ 1048576) (hn1 : n1 ≤ 1048576) (hhi : hi ≤ w.heap.size) (h : Tab w lo hi p name n ns ls np pk n0 x0 n1 x1 auto) :
    Calls Try.prog 31 #[.pointer (some ⟨p, 0, none⟩)] w fun e w' => ∃ b1 b2 b3 b4 b5 pc, e = .returned (.pointer (some ⟨pc, 0, none⟩)) ∧ TabS w' w.heap.size b1 b2 b3 b4 b5 w'.heap.size pc name n ns ls np pk n0 x0 n1 x1 auto ∧ Below w.heap.size w w' := by
  obtain ⟨ac, cc, ap, cp, gi, ci, F, a0, c0, a1, c1, h1, h2, h3, h4, h5, h6, h6', h7, h8, h9, h10, h11, h12⟩ := h
  obtain ⟨y0, y1, y2, y3, y4, y5, y6, y7, y8, y9, y10⟩ := obj_cells h5
  have hpw : p < w.heap.size := by omega
  have hO1 := rowIs_obj w name (.slice ac n cc) (.slice ap np cp) (.slice (some ⟨gi, 0, none⟩) 2 ci) auto
  have hB1 : Below w.heap.size w (w.alloc (.cells #[.string name, .slice ac n cc, .slice ap np cp, .slice (some ⟨gi, 0, none⟩) 2 ci, .int .i64 auto, .int .u64 1, .slice none 0 0, .pointer none, .string ⟨#[]⟩, .bool false, .int .i64 0] 57)) := (Below.refl _ _).alloc (Nat.le_refl _) _
  go_enter Try.func31, Try.ntmps31
  go_wp2_with fail
  clear y0 y4 y5 y6 y7 y8 y9 y10
  refine (cloneCols_any ac n cc lo hi _ _ hn (h9.below hB1 hhi) (fun i _ => cflat_one _ _ i)).mono ?_
  rintro e v1 ⟨ac', cc', rfl, A1, hb1⟩
  have hO2 := rowIs_below hO1 hb1 hO1.lt
  have hB2 : Below w.heap.size w v1 := hB1.trans (hb1.mono hB1.size)
  have hs1 : w.heap.size < v1.heap.size := hO2.lt
  have z1 := (obj_cells hO2).2.1
  have fz1 := hO2.frozen 1
  have q2 : v1.cell? ⟨p, 2, none⟩ = some (.slice ap np cp) := by rw [hB2.cell (p := ⟨p, 2, none⟩) hpw]; exact y2
  have q3 : v1.cell? ⟨p, 3, none⟩ = some (.slice (some ⟨gi, 0, none⟩) 2 ci) := by rw [hB2.cell (p := ⟨p, 3, none⟩) hpw]; exact y3
  clear y1 y2 y3
  go_wp2_with fail
  have hB3 : Below w.heap.size w (v1.setCell ⟨w.heap.size, 1, none⟩ (.slice ac' n cc')) := hB2.setCell (Nat.le_refl _) _
  have hO3 := obj_set1 hO2 (.slice ac' n cc')
  clear z1 fz1
  refine (cloneInts_any ap np cp lo hi _ _ hnp (h10.below hB3 hhi) (fun i _ => rfl)).mono ?_
  rintro e v2 ⟨ap', cp', rfl, A2, hb2⟩
  have hO4 := rowIs_below hO3 hb2 hO3.lt
  have hB4 : Below w.heap.size w v2 := hB3.trans (hb2.mono hB3.size)
  have hs2 : v1.heap.size ≤ v2.heap.size := by have := hb2.size; simp [World.setCell] at this; exact this
  have z2 := (obj_cells hO4).2.2.1
  have fz2 := hO4.frozen 2
  have q3' : v2.cell? ⟨p, 3, none⟩ = some (.slice (some ⟨gi, 0, none⟩) 2 ci) := by rw [hB4.cell (p := ⟨p, 3, none⟩) hpw, ← hB2.cell (p := ⟨p, 3, none⟩) hpw]; exact q3
  clear q2 q3
  go_wp2_with fail
  have hB5 : Below w.heap.size w (v2.setCell ⟨w.heap.size, 2, none⟩ (.slice ap' np cp')) := hB4.setCell (Nat.le_refl _) _
  have hO5 := obj_set2 hO4 (.slice ap' np cp')
  clear z2 fz2
  have hI : Arr w lo hi 60 3 (some ⟨gi, 0, none⟩) 2 ci (icell (.slice a0 n0 c0) (.slice a1 n1 c1)) := .inr ⟨gi, F, h3, h4, rfl, h6, h6', h7, h8⟩
  refine (cloneIxs_any (some ⟨gi, 0, none⟩) 2 ci lo hi _ _ (by omega) (hI.below hB5 hhi) (fun i hi => by
    have : i = 0 ∨ i = 1 ∨ i = 2 ∨ i = 3 ∨ i = 4 ∨ i = 5 := by omega
    rcases this with rfl | rfl | rfl | rfl | rfl | rfl <;> rfl)).mono ?_
  rintro e v3 ⟨ai, ci', rfl, A3, hb3⟩
  obtain ⟨gi', F', g1, g2, rfl, g4, g5, g6, g7⟩ := A3.at (by omega)
  have hO6 := rowIs_below hO5 hb3 hO5.lt
  have hB6 : Below w.heap.size w v3 := hB5.trans (hb3.mono hB5.size)
  have hs3 : v2.heap.size ≤ v3.heap.size := by have := hb3.size; simp [World.setCell] at this; exact this
  have g1' : v2.heap.size ≤ gi' := by simp [World.setCell] at g1; exact g1
  have z3 := (obj_cells hO6).2.2.2.1
  have fz3 := hO6.frozen 3
  clear q3'
  go_wp2_with fail
  have hO7 := obj_set3 hO6 (.slice (some ⟨gi', 0, none⟩) 2 ci')
  have hB7 : Below w.heap.size w (v3.setCell ⟨w.heap.size, 3, none⟩ (.slice (some ⟨gi', 0, none⟩) 2 ci')) := hB6.setCell (Nat.le_refl _) _
  have hI7 := g6.setOther (a := ⟨w.heap.size, 3, none⟩) (by simp; omega) (.slice (some ⟨gi', 0, none⟩) 2 ci')
  have hk7 : ∀ k, w.heap.size < k → k < v3.heap.size → (v3.setCell ⟨w.heap.size, 3, none⟩ (.slice (some ⟨gi', 0, none⟩) 2 ci')).heap[k]? = v3.heap[k]? := fun k h _ => Below.heap_setCell _ _ _ _ (by simp; omega)
  have hs7 : (v3.setCell ⟨w.heap.size, 3, none⟩ (.slice (some ⟨gi', 0, none⟩) 2 ci')).heap.size = v3.heap.size := by simp [World.setCell]
  clear z3 fz3
  generalize v3.setCell ⟨w.heap.size, 3, none⟩ (.slice (some ⟨gi', 0, none⟩) 2 ci') = W4 at hO7 hB7 hI7 hk7 hs7 ⊢
  have P0 := h11.below hB7 hhi
  have hgw : w.heap.size < gi' := by omega
  have hrel0 : CloneRel w v3 gi' ci' (tcell name (.slice ac' n cc') (.slice ap' np cp') (.slice (some ⟨gi', 0, none⟩) 2 ci') auto) n0 x0 n1 x1 a0 c0 a1 c1 0 W4 :=
    ⟨hO7, hB7, by omega, fun j h1 h2 _ => hk7 j h1 h2, .inl ⟨rfl, F', hI7, g7⟩⟩
  clear hO7 hB7 hI7 hk7 hs7 P0
  go_loopw [29] (fun i wr => ∃ k : Nat, k ≤ 2 ∧ i = .int .i64 k ∧ CloneRel w v3 gi' ci' (tcell name (.slice ac' n cc') (.slice ap' np cp') (.slice (some ⟨gi', 0, none⟩) 2 ci') auto) n0 x0 n1 x1 a0 c0 a1 c1 k wr) (fun i _ => 2 - (intOf i).toNat)
  case atStart => exact ⟨0, by omega, rfl, hrel0⟩
  case round =>
  clear hrel0
  obtain ⟨k, hk, rfl, r1, r2, r3, r4, r5⟩ := hrel
  have hw4 : w.heap.size < wr.heap.size := r1.lt
  have hg4 : gi' < wr.heap.size := by omega
  have s3 := (obj_cells r1).2.2.2.1
  rcases r5 with ⟨rfl, F1, rF, hF⟩ | ⟨rfl, F1, a0', c0', rF, hF, I0⟩ | ⟨rfl, F1, a0', c0', a1', c1', b5, rF, hF, q1, q2, I0, I1⟩
  · have P0 := h11.below r2 hhi
    have t1 : wr.cell? ⟨gi', 1, none⟩ = some (.slice a0 n0 c0) := by rw [rF.cell (by omega), hF 1 (by omega)]; rfl
    have ft1 := rF.frozen 1
    go_wp2_with fail
    go_region_with (first | (go_at_call 37; refine (cloneInts_any a0 n0 c0 lo hi (fun i => .int .i64 (x0 i)) _ hn0 (by exact P0) (fun i _ => rfl)).mono ?_; rintro e w1 ⟨a0', c0', rfl, A4, hb4⟩; have e1 := (hb4.cell (p := ⟨w.heap.size, 3, none⟩) (by exact hw4)).trans (by exact s3); have e2 := (hb4.cell (p := ⟨gi', 1, none⟩) (by exact hg4)).trans (by exact t1); have e3 := (hb4.frozen (p := ⟨gi', 1, none⟩) (by exact hg4)).trans (by exact ft1)))
    all_goals
      go_wp2_with fail
      go_roundw
      case rel => exact ⟨1, by omega, by go_num, clone_step0 r1 r2 r3 r4 rF hF hgw g2 A4 (undrew hb4)⟩
      case measure => simp [intOf]
  · have P1 := h12.below r2 hhi
    have t1 : wr.cell? ⟨gi', 4, none⟩ = some (.slice a1 n1 c1) := by rw [rF.cell (by omega), hF 4 (by omega)]; rfl
    have ft1 := rF.frozen 4
    go_wp2_with fail
    go_region_with (first | (go_at_call 37; refine (cloneInts_any a1 n1 c1 lo hi (fun i => .int .i64 (x1 i)) _ hn1 (by exact P1) (fun i _ => rfl)).mono ?_; rintro e w1 ⟨a1', c1', rfl, A4, hb4⟩; have e1 := (hb4.cell (p := ⟨w.heap.size, 3, none⟩) (by exact hw4)).trans (by exact s3); have e2 := (hb4.cell (p := ⟨gi', 4, none⟩) (by exact hg4)).trans (by exact t1); have e3 := (hb4.frozen (p := ⟨gi', 4, none⟩) (by exact hg4)).trans (by exact ft1)))
    all_goals
      go_wp2_with fail
      go_roundw
      case rel => exact ⟨2, by omega, by go_num, clone_step1 r1 r2 r3 r4 rF hF hgw g2 I0 A4 (undrew hb4)⟩
      case measure => simp [intOf]
  · have s6 := (obj_cells r1).2.2.2.2.2.2.1
    have f6 := r1.frozen 6
    go_wp2_with fail
    go_ret
    have k1 : ∀ j, w.heap.size < j → j < v3.heap.size → j ≠ gi' → (wr.setCell ⟨w.heap.size, 6, none⟩ (.slice none 0 0)).heap[j]? = v3.heap[j]? := fun j h1 h2 h3 => by rw [Below.heap_setCell _ _ _ _ (by simp; omega), r4 j h1 h2 h3]
    have k2 : ∀ j, w.heap.size < j → (wr.setCell ⟨w.heap.size, 6, none⟩ (.slice none 0 0)).heap[j]? = wr.heap[j]? := fun j h1 => Below.heap_setCell _ _ _ _ (by simp; omega)
    refine ⟨w.heap.size + 1, v1.heap.size, v2.heap.size, v3.heap.size, b5, w.heap.size, rfl, ⟨ac', cc', ap', cp', gi', ci', F1, a0', c0', a1', c1', Nat.le_refl _, by omega, g1', g2, ⟨by omega, hs2, q1, by rw [size_setCell]; exact q2⟩, obj_set6 r1, g4, g5, rF.setOther (by simp; omega) _, hF, ?_, ?_, ?_, ?_⟩, r2.setCell (Nat.le_refl _) _⟩
    · have e3 : ∀ j, w.heap.size < j → j < v2.heap.size → v3.heap[j]? = v2.heap[j]? := fun j h1 h2 => by rw [hb3.block j (by rw [size_setCell]; exact h2), Below.heap_setCell _ _ _ _ (by simp; omega)]
      have e2 : ∀ j, w.heap.size < j → j < v1.heap.size → v2.heap[j]? = v1.heap[j]? := fun j h1 h2 => by rw [hb2.block j (by rw [size_setCell]; exact h2), Below.heap_setCell _ _ _ _ (by simp; omega)]
      have q := A1
      simp only [World.size_alloc] at q
      exact q.keep (fun j h h' => by rw [k1 j (by omega) (by omega) (by omega), e3 j (by omega) (by omega), e2 j (by omega) (by omega)])
    · have e3 : ∀ j, w.heap.size < j → j < v2.heap.size → v3.heap[j]? = v2.heap[j]? := fun j h1 h2 => by rw [hb3.block j (by rw [size_setCell]; exact h2), Below.heap_setCell _ _ _ _ (by simp; omega)]
      have q := A2
      rw [size_setCell] at q
      exact q.keep (fun j h h' => by rw [k1 j (by omega) (by omega) (by omega), e3 j (by omega) (by omega)])
    · exact I0.keep (fun j h h' => k2 j (by omega))
    · rw [size_setCell]; exact I1.keep (fun j h h' => k2 j (by omega))

/-- 'ZZClone'. -/
theorem zzClone_any (lo hi p : Nat) (name : ByteArray) (n : Nat) (ns : Nat → ByteArray) (ls : Nat → Int) (np : Nat) (pk : Nat → Int) (n0 : Nat) (x0 : Nat → Int) (n1 : Nat) (x1 : Nat → Int) (auto : Int) (w : World)
    (hn : n ≤ 1048576) (hnp : np ≤ 1048576) (hn0 : n0 ≤ 1048576) (hn1 : n1 ≤ 1048576) (hhi : hi ≤ w.heap.size) (h : Tab w lo hi p name n ns ls np pk n0 x0 n1 x1 auto) :
    Calls Try.prog 20 #[.pointer (some ⟨p, 0, none⟩)] w fun e w' => ∃ b1 b2 b3 b4 b5 pc, e = .returned (.pointer (some ⟨pc, 0, none⟩)) ∧ TabS w' w.heap.size b1 b2 b3 b4 b5 w'.heap.size pc name n ns ls np pk n0 x0 n1 x1 auto ∧ Below w.heap.size w w' := by
  go_enter Try.func20, Try.ntmps20
  go_wp2_with fail
  refine (clone_any lo hi p name n ns ls np pk n0 x0 n1 x1 auto _ hn hnp hn0 hn1 hhi h).mono ?_
  rintro e w1 ⟨b1, b2, b3, b4, b5, pc, rfl, hT, hb⟩
  go_wp2_with fail
  go_ret
  exact ⟨b1, b2, b3, b4, b5, pc, rfl, hT, hb⟩
end Go.Proofs.Qxb6001703a
