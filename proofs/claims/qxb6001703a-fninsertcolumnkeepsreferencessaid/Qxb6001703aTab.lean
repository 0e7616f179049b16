/- A table in memory; 'zzTable'. -/
import Derived.Test.Qxb6001703aCol
namespace Go.Proofs.Qxb6001703a
open Go.ChangeShapes Go.WideShapes Go.ChangeAt Go.RowKit
set_option linter.unusedSimpArgs false

/-- The cells of an 'engine.TableDef'. -/
def tcell (name : ByteArray) (cols pk ixs : Value) (auto : Int) (j : Nat) : Value :=
  (#[.string name, cols, pk, ixs, .int .i64 auto, .int .u64 1, .slice none 0 0, .pointer none, .string ⟨#[]⟩, .bool false, .int .i64 0] : Array Value).getD j undef

/-- The cells of the two indexes. -/
def icell (x y : Value) (j : Nat) : Value := (#[.string ⟨#[105, 48]⟩, x, .bool true, .string ⟨#[105, 49]⟩, y, .bool false] : Array Value).getD j undef

/-- A TABLE IN MEMORY: the object at block p, its slices and all that they hold in blocks of [lo, hi). -/
def Tab (w : World) (lo hi p : Nat) (name : ByteArray) (n : Nat) (ns : Nat → ByteArray) (ls : Nat → Int) (np : Nat) (pk : Nat → Int) (n0 : Nat) (x0 : Nat → Int) (n1 : Nat) (x1 : Nat → Int) (auto : Int) : Prop :=
  ∃ (ac : Option Addr) (cc : Nat) (ap : Option Addr) (cp gi ci : Nat) (F : Nat → Value) (a0 : Option Addr) (c0 : Nat) (a1 : Option Addr) (c1 : Nat),
    lo ≤ p ∧ p < hi ∧ lo ≤ gi ∧ gi < hi ∧
    w.rowIs p 57 11 (tcell name (.slice ac n cc) (.slice ap np cp) (.slice (some ⟨gi, 0, none⟩) 2 ci) auto) ∧
    2 ≤ ci ∧ ci ≤ 9223372036854775807 ∧ w.rowIs gi 60 (ci * 3) F ∧ (∀ i, i < 6 → F i = icell (.slice a0 n0 c0) (.slice a1 n1 c1) i) ∧
    Arr w lo hi 49 14 ac n cc (cflat ns ls) ∧ Arr w lo hi 3 1 ap np cp (fun i => .int .i64 (pk i)) ∧
    Arr w lo hi 3 1 a0 n0 c0 (fun i => .int .i64 (x0 i)) ∧ Arr w lo hi 3 1 a1 n1 c1 (fun i => .int .i64 (x1 i))

theorem Tab.keep {w w' : World} {lo hi p : Nat} {name : ByteArray} {n : Nat} {ns : Nat → ByteArray} {ls : Nat → Int} {np : Nat} {pk : Nat → Int} {n0 : Nat} {x0 : Nat → Int} {n1 : Nat} {x1 : Nat → Int} {auto : Int}
    (h : Tab w lo hi p name n ns ls np pk n0 x0 n1 x1 auto) (hk : ∀ k, lo ≤ k → k < hi → w'.heap[k]? = w.heap[k]?) : Tab w' lo hi p name n ns ls np pk n0 x0 n1 x1 auto := by
  obtain ⟨ac, cc, ap, cp, gi, ci, F, a0, c0, a1, c1, h1, h2, h3, h4, h5, h6, h6', h7, h8, h9, h10, h11, h12⟩ := h
  exact ⟨ac, cc, ap, cp, gi, ci, F, a0, c0, a1, c1, h1, h2, h3, h4, h5.of_block (hk p h1 h2), h6, h6', h7.of_block (hk gi h3 h4), h8, h9.keep hk, h10.keep hk, h11.keep hk, h12.keep hk⟩

theorem Tab.below {w w' : World} {lo hi p B : Nat} {name : ByteArray} {n : Nat} {ns : Nat → ByteArray} {ls : Nat → Int} {np : Nat} {pk : Nat → Int} {n0 : Nat} {x0 : Nat → Int} {n1 : Nat} {x1 : Nat → Int} {auto : Int}
    (h : Tab w lo hi p name n ns ls np pk n0 x0 n1 x1 auto) (hb : Below B w w') (hB : hi ≤ B) : Tab w' lo hi p name n ns ls np pk n0 x0 n1 x1 auto :=
  h.keep (fun k _ h2 => hb.block k (by omega))

theorem make_ixs (w : World) : (Instr.makeSlice 51 (.int .i64 2) (.int .i64 2)).run Try.prog w = .ok (.slice (some ⟨w.heap.size, 0, none⟩) 2 2) (w.alloc (.cells #[.string ⟨#[]⟩, .slice none 0 0, .bool false, .string ⟨#[]⟩, .slice none 0 0, .bool false] 60)) := by kernel_rfl

def izero (j : Nat) : Value := (#[.string ⟨#[]⟩, .slice none 0 0, .bool false, .string ⟨#[]⟩, .slice none 0 0, .bool false] : Array Value).getD j undef
theorem rowIs_ixs (w : World) : (w.alloc (.cells #[.string ⟨#[]⟩, .slice none 0 0, .bool false, .string ⟨#[]⟩, .slice none 0 0, .bool false] 60)).rowIs w.heap.size 60 6 izero :=
  World.rowIs_alloc w _ 60 izero (fun i hi => by
    have : i = 0 ∨ i = 1 ∨ i = 2 ∨ i = 3 ∨ i = 4 ∨ i = 5 := by simp at hi; omega
    rcases this with rfl | rfl | rfl | rfl | rfl | rfl <;> rfl)

theorem icell_step (x y : Value) (j : Nat) (hj : j < 6) :
    (if j = 5 then .bool false else if j = 4 then y else if j = 3 then .string ⟨#[105, 49]⟩ else if j = 2 then .bool true else if j = 1 then x else if j = 0 then .string ⟨#[105, 48]⟩ else izero j) = icell x y j := by
  have : j = 0 ∨ j = 1 ∨ j = 2 ∨ j = 3 ∨ j = 4 ∨ j = 5 := by omega
  rcases this with rfl | rfl | rfl | rfl | rfl | rfl <;> rfl

theorem rowIs_obj (w : World) (name : ByteArray) (cols pk ixs : Value) (auto : Int) : (w.alloc (.cells #[.string name, cols, pk, ixs, .int .i64 auto, .int .u64 1, .slice none 0 0, .pointer none, .string ⟨#[]⟩, .bool false, .int .i64 0] 57)).rowIs w.heap.size 57 11 (tcell name cols pk ixs auto) :=
  World.rowIs_alloc w _ 57 _ (fun i hi => by
    have : i = 0 ∨ i = 1 ∨ i = 2 ∨ i = 3 ∨ i = 4 ∨ i = 5 ∨ i = 6 ∨ i = 7 ∨ i = 8 ∨ i = 9 ∨ i = 10 := by simp at hi; omega
    rcases this with rfl | rfl | rfl | rfl | rfl | rfl | rfl | rfl | rfl | rfl | rfl <;> rfl)

set_option maxRecDepth 100000 in
set_option maxHeartbeats 4000000 in
theorem table_nil (name : ByteArray) (c : Nat) (ns : Nat → ByteArray) (a2 a3 a4 : Option Addr) (n2 c2 n3 c3 n4 c4 : Nat) (z2 z3 z4 : Nat → Int) (auto : Int) (w : World) (h2 : n2 ≤ 1048576) (h3 : n3 ≤ 1048576) (h4 : n4 ≤ 1048576)
    (r2 : Reads w a2 n2 (fun i => .int .i64 (z2 i))) (r3 : Reads w a3 n3 (fun i => .int .i64 (z3 i))) (r4 : Reads w a4 n4 (fun i => .int .i64 (z4 i))) :
    Calls Try.prog 19 #[.string name, .slice none 0 c, .slice a2 n2 c2, .slice a3 n3 c3, .slice a4 n4 c4, .int .i64 auto] w fun e w' => ∃ p, e = .returned (.pointer (some ⟨p, 0, none⟩)) ∧ Tab w' w.heap.size w'.heap.size p name 0 ns (fun k => (k : Int)) n2 z2 n3 z3 n4 z4 auto ∧ Below w.heap.size w w' := by
  have hq := fun (w : World) (a : Option Addr) (n c n' c' : Nat) => run_neq_slice_nil_any (P := Try.prog) w 39 9 a n c n' c' Try.underlying39
  have hmi := make_ixs
  have hB0 : Below w.heap.size w w := Below.refl _ _
  have hcols : Arr w w.heap.size w.heap.size 49 14 none 0 0 (cflat ns fun k => (k : Int)) := .inl ⟨rfl, rfl, rfl⟩
  go_enter Try.func19, Try.ntmps19
  go_wp2_with fail
  have hgi := rowIs_ixs w
  have hA : Below w.heap.size w (w.alloc (.cells #[.string ⟨#[]⟩, .slice none 0 0, .bool false, .string ⟨#[]⟩, .slice none 0 0, .bool false] 60)) := hB0.alloc hB0.size _
  refine (copyInts_any a3 n3 c3 z3 (by omega) _ (r3.below hA (Nat.le_refl _))).mono ?_
  rintro e v1 ⟨b3, rfl, _, o3, hb1⟩
  have hgi1 := rowIs_below hgi hb1 hgi.lt
  have hB1 : Below w.heap.size w v1 := hA.trans (hb1.mono hA.size)
  have hz1 : w.heap.size < v1.heap.size := hgi1.lt
  have i0 := hgi1.cell (i := 0) (by omega)
  have i1 := hgi1.cell (i := 1) (by omega)
  have i2 := hgi1.cell (i := 2) (by omega)
  have f0 := hgi1.frozen 0
  have f1 := hgi1.frozen 1
  have f2 := hgi1.frozen 2
  simp only [izero] at i0 i1 i2
  go_wp2_with fail
  clear i0 i1 i2 f0 f1 f2
  have hgi2 := (((hgi1.set 0 (.string ⟨#[105, 48]⟩)).set 1 (.slice b3 n3 n3)).set 2 (.bool true))
  have hB2 : Below w.heap.size w (((v1.setCell ⟨w.heap.size, 0, none⟩ (.string ⟨#[105, 48]⟩)).setCell ⟨w.heap.size, 1, none⟩ (.slice b3 n3 n3)).setCell ⟨w.heap.size, 2, none⟩ (.bool true)) := ((hB1.setCell hB0.size _).setCell hB0.size _).setCell hB0.size _
  refine (copyInts_any a4 n4 c4 z4 (by omega) _ (r4.below hB2 (Nat.le_refl _))).mono ?_
  rintro e v2 ⟨b4, rfl, _, o4, hb2⟩
  have hgi3 := rowIs_below hgi2 hb2 hgi2.lt
  have hB3 : Below w.heap.size w v2 := hB2.trans (hb2.mono hB2.size)
  have hz2 : v1.heap.size ≤ v2.heap.size := by have := hb2.size; simp [World.setCell] at this; exact this
  have i3 := hgi3.cell (i := 3) (by omega)
  have i4 := hgi3.cell (i := 4) (by omega)
  have i5 := hgi3.cell (i := 5) (by omega)
  have f3 := hgi3.frozen 3
  have f4 := hgi3.frozen 4
  have f5 := hgi3.frozen 5
  simp [izero] at i3 i4 i5
  go_wp2_with fail
  clear i3 i4 i5 f3 f4 f5
  have hgi4 := (((hgi3.set 3 (.string ⟨#[105, 49]⟩)).set 4 (.slice b4 n4 n4)).set 5 (.bool false))
  have hB4 : Below w.heap.size w (((v2.setCell ⟨w.heap.size, 3, none⟩ (.string ⟨#[105, 49]⟩)).setCell ⟨w.heap.size, 4, none⟩ (.slice b4 n4 n4)).setCell ⟨w.heap.size, 5, none⟩ (.bool false)) := ((hB3.setCell hB0.size _).setCell hB0.size _).setCell hB0.size _
  refine (copyInts_any a2 n2 c2 z2 (by omega) _ (r2.below hB4 (Nat.le_refl _))).mono ?_
  rintro e v3 ⟨b2, rfl, _, o2, hb3⟩
  have hgi5 := rowIs_below hgi4 hb3 hgi4.lt
  have hB5 : Below w.heap.size w v3 := hB4.trans (hb3.mono hB4.size)
  have hz3 : v2.heap.size ≤ v3.heap.size := by have := hb3.size; simp [World.setCell] at this; exact this
  have hobj := rowIs_obj v3 name (.slice none 0 0) (.slice b2 n2 n2) (.slice (some ⟨w.heap.size, 0, none⟩) 2 2) auto
  go_wp2_with fail
  go_ret
  have hw1 : w.heap.size ≤ w.heap.size := hB0.size
  -- the blocks of each part stand as they were laid
  have k1 : ∀ k, k < w.heap.size → v3.heap[k]? = w.heap[k]? := fun k hk => by
    rw [hb3.block k (by simp [World.setCell]; omega), Below.heap_setCell _ _ _ _ (by simp; omega), Below.heap_setCell _ _ _ _ (by simp; omega), Below.heap_setCell _ _ _ _ (by simp; omega),
      hb2.block k (by simp [World.setCell]; omega), Below.heap_setCell _ _ _ _ (by simp; omega), Below.heap_setCell _ _ _ _ (by simp; omega), Below.heap_setCell _ _ _ _ (by simp; omega), hb1.block k (by simp; omega), Below.heap_alloc _ _ _ hk]
  have k2 : ∀ k, w.heap.size < k → k < v1.heap.size → v3.heap[k]? = v1.heap[k]? := fun k hk hk' => by
    rw [hb3.block k (by simp [World.setCell]; omega), Below.heap_setCell _ _ _ _ (by simp; omega), Below.heap_setCell _ _ _ _ (by simp; omega), Below.heap_setCell _ _ _ _ (by simp; omega),
      hb2.block k (by simp [World.setCell]; omega), Below.heap_setCell _ _ _ _ (by simp; omega), Below.heap_setCell _ _ _ _ (by simp; omega), Below.heap_setCell _ _ _ _ (by simp; omega)]
  have k3 : ∀ k, w.heap.size < k → k < v2.heap.size → v3.heap[k]? = v2.heap[k]? := fun k hk hk' => by
    rw [hb3.block k (by simp [World.setCell]; omega), Below.heap_setCell _ _ _ _ (by simp; omega), Below.heap_setCell _ _ _ _ (by simp; omega), Below.heap_setCell _ _ _ _ (by simp; omega)]
  have ka : ∀ (o : Obj) k, k < v3.heap.size → (v3.alloc o).heap[k]? = v3.heap[k]? := fun o k hk => Below.heap_alloc _ _ _ hk
  refine ⟨v3.heap.size, rfl, ⟨none, 0, b2, n2, w.heap.size, 2, _, b3, n3, b4, n4, by omega, by simp, by omega, by simp; omega, hobj, by omega, by omega, hgi5.alloc _, fun i hi => icell_step _ _ i hi, ?_, ?_, ?_, ?_⟩, hB5.alloc hB5.size _⟩
  · refine ((hcols.keep (fun k _ hk => (ka _ k (by omega)).trans (k1 k hk)))).mono ?_ ?_ <;> (try simp [World.setCell]) <;> omega
  · have q := (o2.arr (by omega)).keep (w' := v3.alloc (.cells #[.string name, .slice none 0 0, .slice b2 n2 n2, .slice (some ⟨w.heap.size, 0, none⟩) 2 2, .int .i64 auto, .int .u64 1, .slice none 0 0, .pointer none, .string ⟨#[]⟩, .bool false, .int .i64 0] 57)) (fun k _ hk => ka _ k hk)
    refine q.mono ?_ ?_ <;> (try simp [World.setCell]) <;> omega
  · have q := (o3.arr (by omega)).keep (w' := v3.alloc (.cells #[.string name, .slice none 0 0, .slice b2 n2 n2, .slice (some ⟨w.heap.size, 0, none⟩) 2 2, .int .i64 auto, .int .u64 1, .slice none 0 0, .pointer none, .string ⟨#[]⟩, .bool false, .int .i64 0] 57)) (fun k h hk => (ka _ k (by omega)).trans (k2 k (by simp at h; omega) hk))
    refine q.mono ?_ ?_ <;> (try simp [World.setCell]) <;> omega
  · have q := (o4.arr (by omega)).keep (w' := v3.alloc (.cells #[.string name, .slice none 0 0, .slice b2 n2 n2, .slice (some ⟨w.heap.size, 0, none⟩) 2 2, .int .i64 auto, .int .u64 1, .slice none 0 0, .pointer none, .string ⟨#[]⟩, .bool false, .int .i64 0] 57)) (fun k h hk => (ka _ k (by omega)).trans (k3 k (by simp [World.setCell] at h; omega) hk))
    refine q.mono ?_ ?_ <;> (try simp [World.setCell]) <;> omega

set_option maxRecDepth 100000 in
set_option maxHeartbeats 4000000 in
theorem table_some (name : ByteArray) (x : Addr) (n c : Nat) (ns : Nat → ByteArray) (hn : n ≤ 1048576) (a2 a3 a4 : Option Addr) (n2 c2 n3 c3 n4 c4 : Nat) (z2 z3 z4 : Nat → Int) (auto : Int) (w : World) (h2 : n2 ≤ 1048576) (h3 : n3 ≤ 1048576) (h4 : n4 ≤ 1048576)
    (r2 : Reads w a2 n2 (fun i => .int .i64 (z2 i))) (r3 : Reads w a3 n3 (fun i => .int .i64 (z3 i))) (r4 : Reads w a4 n4 (fun i => .int .i64 (z4 i))) (r1 : Reads w (some x) n (fun i => .string (ns i))) :
    Calls Try.prog 19 #[.string name, .slice (some x) n c, .slice a2 n2 c2, .slice a3 n3 c3, .slice a4 n4 c4, .int .i64 auto] w fun e w' => ∃ p, e = .returned (.pointer (some ⟨p, 0, none⟩)) ∧ Tab w' w.heap.size w'.heap.size p name n ns (fun k => (k : Int)) n2 z2 n3 z3 n4 z4 auto ∧ Below w.heap.size w w' := by
  have hq := fun (w : World) (a : Option Addr) (n c n' c' : Nat) => run_neq_slice_nil_any (P := Try.prog) w 39 9 a n c n' c' Try.underlying39
  have hmi := make_ixs
  have hmk := make_cols n hn
  have hst := rowIs_cols w n
  go_enter Try.func19, Try.ntmps19
  go_wp2_with fail
  go_loopw [14] (fun i wr => ∃ k : Nat, k ≤ n ∧ i = .int .i64 k ∧ wr.rowIs w.heap.size 49 (n * 14) (fun j => if j < k * 14 then cflat ns (fun k => (k : Int)) j else cflat (fun _ => ⟨#[]⟩) (fun _ => 0) j) ∧ Below w.heap.size w wr) (fun i _ => n - (intOf i).toNat)
  case atStart => exact ⟨0, Nat.zero_le _, rfl, hst.congr (fun j _ => by simp), (Below.refl _ _).alloc (Nat.le_refl _) _⟩
  case round =>
  obtain ⟨k, hk, rfl, hrow, hB0⟩ := hrel
  by_cases hlt : k < n
  · obtain ⟨b, off, hb, hx, hcc⟩ := r1.at (by omega)
    obtain rfl : x = ⟨b, off, none⟩ := Option.some.inj hx
    have h1 := hcc k hlt
    rw [← hB0.cell (p := ⟨b, off + k, none⟩) hb] at h1
    have HC := hide (col_cells (k := k) (s := ⟨#[]⟩) (l := 0) hrow (by omega) (fun j hj => by rw [if_neg (by omega), cflat_at _ _ _ _ hj]))
    obtain ⟨x0, x1, x2, x3, x4, x5, x6, x7, x8, x9, x10, x11, x12, x13⟩ := HC.out
    obtain ⟨f0, f1, f2, f3, f4, f5, f6, f7, f8, f9, f10, f11, f12, f13⟩ := col_frozen hrow k
    clear HC
    go_wp2_with fail
    clear x0 x1 x2 x3 x4 x5 x6 x7 x8 x9 x10 x11 x12 x13 f0 f1 f2 f3 f4 f5 f6 f7 f8 f9 f10 f11 f12 f13
    go_roundw
    case rel => exact ⟨k + 1, by omega, by go_num, (col_set hrow k (ns k) (k : Int)).congr (fun i _ => cflat_step ns (fun k => (k : Int)) _ k i), below_col hB0 (Nat.le_refl _) k (ns k) (k : Int)⟩
    case measure => simp [intOf]; omega
  have hrow' := hrow.congr (g := cflat ns fun k => (k : Int)) (fun j hj => by rw [if_pos (by omega)])
  have hcols : Arr wr w.heap.size wr.heap.size 49 14 (some ⟨w.heap.size, 0, none⟩) n n (cflat ns fun k => (k : Int)) := .inr ⟨_, _, Nat.le_refl _, hrow.lt, rfl, Nat.le_refl _, by omega, hrow', fun _ _ => rfl⟩
  clear hrow hrow' hst
  go_wp2_with fail
  have hgi := rowIs_ixs wr
  have hA : Below w.heap.size w (wr.alloc (.cells #[.string ⟨#[]⟩, .slice none 0 0, .bool false, .string ⟨#[]⟩, .slice none 0 0, .bool false] 60)) := hB0.alloc hB0.size _
  refine (copyInts_any a3 n3 c3 z3 (by omega) _ (r3.below hA (Nat.le_refl _))).mono ?_
  rintro e v1 ⟨b3, rfl, _, o3, hb1⟩
  have hgi1 := rowIs_below hgi hb1 hgi.lt
  have hB1 : Below w.heap.size w v1 := hA.trans (hb1.mono hA.size)
  have hz1 : wr.heap.size < v1.heap.size := hgi1.lt
  have i0 := hgi1.cell (i := 0) (by omega)
  have i1 := hgi1.cell (i := 1) (by omega)
  have i2 := hgi1.cell (i := 2) (by omega)
  have f0 := hgi1.frozen 0
  have f1 := hgi1.frozen 1
  have f2 := hgi1.frozen 2
  simp only [izero] at i0 i1 i2
  go_wp2_with fail
  clear i0 i1 i2 f0 f1 f2
  have hgi2 := (((hgi1.set 0 (.string ⟨#[105, 48]⟩)).set 1 (.slice b3 n3 n3)).set 2 (.bool true))
  have hB2 : Below w.heap.size w (((v1.setCell ⟨wr.heap.size, 0, none⟩ (.string ⟨#[105, 48]⟩)).setCell ⟨wr.heap.size, 1, none⟩ (.slice b3 n3 n3)).setCell ⟨wr.heap.size, 2, none⟩ (.bool true)) := ((hB1.setCell hB0.size _).setCell hB0.size _).setCell hB0.size _
  refine (copyInts_any a4 n4 c4 z4 (by omega) _ (r4.below hB2 (Nat.le_refl _))).mono ?_
  rintro e v2 ⟨b4, rfl, _, o4, hb2⟩
  have hgi3 := rowIs_below hgi2 hb2 hgi2.lt
  have hB3 : Below w.heap.size w v2 := hB2.trans (hb2.mono hB2.size)
  have hz2 : v1.heap.size ≤ v2.heap.size := by have := hb2.size; simp [World.setCell] at this; exact this
  have i3 := hgi3.cell (i := 3) (by omega)
  have i4 := hgi3.cell (i := 4) (by omega)
  have i5 := hgi3.cell (i := 5) (by omega)
  have f3 := hgi3.frozen 3
  have f4 := hgi3.frozen 4
  have f5 := hgi3.frozen 5
  simp [izero] at i3 i4 i5
  go_wp2_with fail
  clear i3 i4 i5 f3 f4 f5
  have hgi4 := (((hgi3.set 3 (.string ⟨#[105, 49]⟩)).set 4 (.slice b4 n4 n4)).set 5 (.bool false))
  have hB4 : Below w.heap.size w (((v2.setCell ⟨wr.heap.size, 3, none⟩ (.string ⟨#[105, 49]⟩)).setCell ⟨wr.heap.size, 4, none⟩ (.slice b4 n4 n4)).setCell ⟨wr.heap.size, 5, none⟩ (.bool false)) := ((hB3.setCell hB0.size _).setCell hB0.size _).setCell hB0.size _
  refine (copyInts_any a2 n2 c2 z2 (by omega) _ (r2.below hB4 (Nat.le_refl _))).mono ?_
  rintro e v3 ⟨b2, rfl, _, o2, hb3⟩
  have hgi5 := rowIs_below hgi4 hb3 hgi4.lt
  have hB5 : Below w.heap.size w v3 := hB4.trans (hb3.mono hB4.size)
  have hz3 : v2.heap.size ≤ v3.heap.size := by have := hb3.size; simp [World.setCell] at this; exact this
  have hobj := rowIs_obj v3 name (.slice (some ⟨w.heap.size, 0, none⟩) n n) (.slice b2 n2 n2) (.slice (some ⟨wr.heap.size, 0, none⟩) 2 2) auto
  go_wp2_with fail
  go_ret
  have hw1 : w.heap.size ≤ wr.heap.size := hB0.size
  -- the blocks of each part stand as they were laid
  have k1 : ∀ k, k < wr.heap.size → v3.heap[k]? = wr.heap[k]? := fun k hk => by
    rw [hb3.block k (by simp [World.setCell]; omega), Below.heap_setCell _ _ _ _ (by simp; omega), Below.heap_setCell _ _ _ _ (by simp; omega), Below.heap_setCell _ _ _ _ (by simp; omega),
      hb2.block k (by simp [World.setCell]; omega), Below.heap_setCell _ _ _ _ (by simp; omega), Below.heap_setCell _ _ _ _ (by simp; omega), Below.heap_setCell _ _ _ _ (by simp; omega), hb1.block k (by simp; omega), Below.heap_alloc _ _ _ hk]
  have k2 : ∀ k, wr.heap.size < k → k < v1.heap.size → v3.heap[k]? = v1.heap[k]? := fun k hk hk' => by
    rw [hb3.block k (by simp [World.setCell]; omega), Below.heap_setCell _ _ _ _ (by simp; omega), Below.heap_setCell _ _ _ _ (by simp; omega), Below.heap_setCell _ _ _ _ (by simp; omega),
      hb2.block k (by simp [World.setCell]; omega), Below.heap_setCell _ _ _ _ (by simp; omega), Below.heap_setCell _ _ _ _ (by simp; omega), Below.heap_setCell _ _ _ _ (by simp; omega)]
  have k3 : ∀ k, wr.heap.size < k → k < v2.heap.size → v3.heap[k]? = v2.heap[k]? := fun k hk hk' => by
    rw [hb3.block k (by simp [World.setCell]; omega), Below.heap_setCell _ _ _ _ (by simp; omega), Below.heap_setCell _ _ _ _ (by simp; omega), Below.heap_setCell _ _ _ _ (by simp; omega)]
  have ka : ∀ (o : Obj) k, k < v3.heap.size → (v3.alloc o).heap[k]? = v3.heap[k]? := fun o k hk => Below.heap_alloc _ _ _ hk
  refine ⟨v3.heap.size, rfl, ⟨some ⟨w.heap.size, 0, none⟩, n, b2, n2, wr.heap.size, 2, _, b3, n3, b4, n4, by omega, by simp, by omega, by simp; omega, hobj, by omega, by omega, hgi5.alloc _, fun i hi => icell_step _ _ i hi, ?_, ?_, ?_, ?_⟩, hB5.alloc hB5.size _⟩
  · refine ((hcols.keep (fun k _ hk => (ka _ k (by omega)).trans (k1 k hk)))).mono ?_ ?_ <;> (try simp [World.setCell]) <;> omega
  · have q := (o2.arr (by omega)).keep (w' := v3.alloc (.cells #[.string name, .slice (some ⟨w.heap.size, 0, none⟩) n n, .slice b2 n2 n2, .slice (some ⟨wr.heap.size, 0, none⟩) 2 2, .int .i64 auto, .int .u64 1, .slice none 0 0, .pointer none, .string ⟨#[]⟩, .bool false, .int .i64 0] 57)) (fun k _ hk => ka _ k hk)
    refine q.mono ?_ ?_ <;> (try simp [World.setCell]) <;> omega
  · have q := (o3.arr (by omega)).keep (w' := v3.alloc (.cells #[.string name, .slice (some ⟨w.heap.size, 0, none⟩) n n, .slice b2 n2 n2, .slice (some ⟨wr.heap.size, 0, none⟩) 2 2, .int .i64 auto, .int .u64 1, .slice none 0 0, .pointer none, .string ⟨#[]⟩, .bool false, .int .i64 0] 57)) (fun k h hk => (ka _ k (by omega)).trans (k2 k (by simp at h; omega) hk))
    refine q.mono ?_ ?_ <;> (try simp [World.setCell]) <;> omega
  · have q := (o4.arr (by omega)).keep (w' := v3.alloc (.cells #[.string name, .slice (some ⟨w.heap.size, 0, none⟩) n n, .slice b2 n2 n2, .slice (some ⟨wr.heap.size, 0, none⟩) 2 2, .int .i64 auto, .int .u64 1, .slice none 0 0, .pointer none, .string ⟨#[]⟩, .bool false, .int .i64 0] 57)) (fun k h hk => (ka _ k (by omega)).trans (k3 k (by simp [World.setCell] at h; omega) hk))
    refine q.mono ?_ ?_ <;> (try simp [World.setCell]) <;> omega

/-- THE CONTRACT OF 'zzTable'. -/
theorem table_any (name : ByteArray) (a1 : Option Addr) (n c : Nat) (ns : Nat → ByteArray) (hn : n ≤ 1048576) (a2 a3 a4 : Option Addr) (n2 c2 n3 c3 n4 c4 : Nat) (z2 z3 z4 : Nat → Int) (auto : Int) (w : World) (h2 : n2 ≤ 1048576) (h3 : n3 ≤ 1048576) (h4 : n4 ≤ 1048576)
    (r2 : Reads w a2 n2 (fun i => .int .i64 (z2 i))) (r3 : Reads w a3 n3 (fun i => .int .i64 (z3 i))) (r4 : Reads w a4 n4 (fun i => .int .i64 (z4 i))) (r1 : Reads w a1 n (fun i => .string (ns i))) :
    Calls Try.prog 19 #[.string name, .slice a1 n c, .slice a2 n2 c2, .slice a3 n3 c3, .slice a4 n4 c4, .int .i64 auto] w fun e w' => ∃ p, e = .returned (.pointer (some ⟨p, 0, none⟩)) ∧ Tab w' w.heap.size w'.heap.size p name n ns (fun k => (k : Int)) n2 z2 n3 z3 n4 z4 auto ∧ Below w.heap.size w w' := by
  cases a1 with
  | none =>
    obtain rfl : n = 0 := by
      rcases r1 with ⟨_, h⟩ | ⟨x, h, _⟩
      · exact h
      · cases h
    exact table_nil name c ns a2 a3 a4 n2 c2 n3 c3 n4 c4 z2 z3 z4 auto w h2 h3 h4 r2 r3 r4
  | some x => exact table_some name x n c ns hn a2 a3 a4 n2 c2 n3 c3 n4 c4 z2 z3 z4 auto w h2 h3 h4 r2 r3 r4 r1
end Go.Proofs.Qxb6001703a
