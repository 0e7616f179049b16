/- The columns of a table: fourteen cells each. -/
import Derived.Test.Qxb6001703aArr
namespace Go.Proofs.Qxb6001703a
open Go.ChangeShapes Go.WideShapes Go.ChangeAt Go.RowKit

/-- The cells of 'sqlparse.ColumnDef{Name: s, Length: l}'. -/
def ccell (s : ByteArray) (l : Int) (j : Nat) : Value := (#[.string s, .int .u8 0, .string ⟨#[]⟩, .string ⟨#[]⟩, .int .i64 l, .int .i64 0, .bool false, .bool false, .int .u8 0, .int .i64 0, .string ⟨#[]⟩, .bool false, .bool false, .bool false] : Array Value).getD j undef

/-- The cells of a row of columns. -/
def cflat (ns : Nat → ByteArray) (ls : Nat → Int) (i : Nat) : Value := ccell (ns (i / 14)) (ls (i / 14)) (i % 14)

theorem cflat_at (ns : Nat → ByteArray) (ls : Nat → Int) (k j : Nat) (hj : j < 14) : cflat ns ls (k * 14 + j) = ccell (ns k) (ls k) j := by
  unfold cflat
  have e1 : (k * 14 + j) / 14 = k := by omega
  have e2 : (k * 14 + j) % 14 = j := by omega
  rw [e1, e2]

theorem ccell_one (s : ByteArray) (l : Int) (j : Nat) (hj : j < 14) : (ccell s l j).oneCell' = true := by
  have h : j = 0 ∨ j = 1 ∨ j = 2 ∨ j = 3 ∨ j = 4 ∨ j = 5 ∨ j = 6 ∨ j = 7 ∨ j = 8 ∨ j = 9 ∨ j = 10 ∨ j = 11 ∨ j = 12 ∨ j = 13 := by omega
  rcases h with rfl | rfl | rfl | rfl | rfl | rfl | rfl | rfl | rfl | rfl | rfl | rfl | rfl | rfl <;> rfl

theorem cflat_one (ns : Nat → ByteArray) (ls : Nat → Int) (i : Nat) : (cflat ns ls i).oneCell' = true := ccell_one _ _ _ (by omega)

/-- One column, cell by cell. -/
theorem col_cells {w : World} {g N k : Nat} {t : TypeId} {F : Nat → Value} {s : ByteArray} {l : Int} (h : w.rowIs g t N F) (hN : k * 14 + 14 ≤ N) (hF : ∀ j, j < 14 → F (k * 14 + j) = ccell s l j) :
    w.cell? ⟨g, k * 14, none⟩ = some (.string s) ∧ w.cell? ⟨g, k * 14 + 1, none⟩ = some (.int .u8 0) ∧ w.cell? ⟨g, k * 14 + 2, none⟩ = some (.string ⟨#[]⟩) ∧ w.cell? ⟨g, k * 14 + 3, none⟩ = some (.string ⟨#[]⟩) ∧ w.cell? ⟨g, k * 14 + 4, none⟩ = some (.int .i64 l) ∧ w.cell? ⟨g, k * 14 + 5, none⟩ = some (.int .i64 0) ∧ w.cell? ⟨g, k * 14 + 6, none⟩ = some (.bool false) ∧ w.cell? ⟨g, k * 14 + 7, none⟩ = some (.bool false) ∧ w.cell? ⟨g, k * 14 + 8, none⟩ = some (.int .u8 0) ∧ w.cell? ⟨g, k * 14 + 9, none⟩ = some (.int .i64 0) ∧ w.cell? ⟨g, k * 14 + 10, none⟩ = some (.string ⟨#[]⟩) ∧ w.cell? ⟨g, k * 14 + 11, none⟩ = some (.bool false) ∧ w.cell? ⟨g, k * 14 + 12, none⟩ = some (.bool false) ∧ w.cell? ⟨g, k * 14 + 13, none⟩ = some (.bool false) := by
  have e : ∀ j, j < 14 → w.cell? ⟨g, k * 14 + j, none⟩ = some (ccell s l j) := fun j hj => by rw [h.cell (by omega), hF j hj]
  exact ⟨e 0 (by omega), e 1 (by omega), e 2 (by omega), e 3 (by omega), e 4 (by omega), e 5 (by omega), e 6 (by omega), e 7 (by omega), e 8 (by omega), e 9 (by omega), e 10 (by omega), e 11 (by omega), e 12 (by omega), e 13 (by omega)⟩

theorem col_frozen {w : World} {g N : Nat} {t : TypeId} {F : Nat → Value} (h : w.rowIs g t N F) (k : Nat) :
    w.frozen? ⟨g, k * 14, none⟩ = false ∧ w.frozen? ⟨g, k * 14 + 1, none⟩ = false ∧ w.frozen? ⟨g, k * 14 + 2, none⟩ = false ∧ w.frozen? ⟨g, k * 14 + 3, none⟩ = false ∧ w.frozen? ⟨g, k * 14 + 4, none⟩ = false ∧ w.frozen? ⟨g, k * 14 + 5, none⟩ = false ∧ w.frozen? ⟨g, k * 14 + 6, none⟩ = false ∧ w.frozen? ⟨g, k * 14 + 7, none⟩ = false ∧ w.frozen? ⟨g, k * 14 + 8, none⟩ = false ∧ w.frozen? ⟨g, k * 14 + 9, none⟩ = false ∧ w.frozen? ⟨g, k * 14 + 10, none⟩ = false ∧ w.frozen? ⟨g, k * 14 + 11, none⟩ = false ∧ w.frozen? ⟨g, k * 14 + 12, none⟩ = false ∧ w.frozen? ⟨g, k * 14 + 13, none⟩ = false :=
  ⟨h.frozen _, h.frozen _, h.frozen _, h.frozen _, h.frozen _, h.frozen _, h.frozen _, h.frozen _, h.frozen _, h.frozen _, h.frozen _, h.frozen _, h.frozen _, h.frozen _⟩

/-- One column stored. -/
theorem col_set {w : World} {g N : Nat} {t : TypeId} {F : Nat → Value} (h : w.rowIs g t N F) (k : Nat) (s : ByteArray) (l : Int) :
    ((((((((((((((w.setCell ⟨g, k * 14, none⟩ (.string s)).setCell ⟨g, k * 14 + 1, none⟩ (.int .u8 0)).setCell ⟨g, k * 14 + 2, none⟩ (.string ⟨#[]⟩)).setCell ⟨g, k * 14 + 3, none⟩ (.string ⟨#[]⟩)).setCell ⟨g, k * 14 + 4, none⟩ (.int .i64 l)).setCell ⟨g, k * 14 + 5, none⟩ (.int .i64 0)).setCell ⟨g, k * 14 + 6, none⟩ (.bool false)).setCell ⟨g, k * 14 + 7, none⟩ (.bool false)).setCell ⟨g, k * 14 + 8, none⟩ (.int .u8 0)).setCell ⟨g, k * 14 + 9, none⟩ (.int .i64 0)).setCell ⟨g, k * 14 + 10, none⟩ (.string ⟨#[]⟩)).setCell ⟨g, k * 14 + 11, none⟩ (.bool false)).setCell ⟨g, k * 14 + 12, none⟩ (.bool false)).setCell ⟨g, k * 14 + 13, none⟩ (.bool false)).rowIs g t N (fun i => if k * 14 ≤ i ∧ i < k * 14 + 14 then ccell s l (i - k * 14) else F i) := by
  refine ((((((((((((((h.set _ _).set _ _).set _ _).set _ _).set _ _).set _ _).set _ _).set _ _).set _ _).set _ _).set _ _).set _ _).set _ _).set _ _).congr (fun i hi => ?_)
  by_cases hin : k * 14 ≤ i ∧ i < k * 14 + 14
  · rw [if_pos hin]
    obtain ⟨j, rfl⟩ : ∃ j, i = k * 14 + j := ⟨i - k * 14, by omega⟩
    have e : k * 14 + j - k * 14 = j := by omega
    rw [e]
    have hj : j = 0 ∨ j = 1 ∨ j = 2 ∨ j = 3 ∨ j = 4 ∨ j = 5 ∨ j = 6 ∨ j = 7 ∨ j = 8 ∨ j = 9 ∨ j = 10 ∨ j = 11 ∨ j = 12 ∨ j = 13 := by omega
    rcases hj with rfl | rfl | rfl | rfl | rfl | rfl | rfl | rfl | rfl | rfl | rfl | rfl | rfl | rfl <;> simp <;> rfl
  · rw [if_neg hin]
    rw [if_neg (by omega), if_neg (by omega), if_neg (by omega), if_neg (by omega), if_neg (by omega), if_neg (by omega), if_neg (by omega), if_neg (by omega), if_neg (by omega), if_neg (by omega), if_neg (by omega), if_neg (by omega), if_neg (by omega), if_neg (by omega)]

theorem below_col {B g : Nat} {w0 w : World} (h : Below B w0 w) (hg : B ≤ g) (k : Nat) (s : ByteArray) (l : Int) :
    Below B w0 (((((((((((((((w.setCell ⟨g, k * 14, none⟩ (.string s)).setCell ⟨g, k * 14 + 1, none⟩ (.int .u8 0)).setCell ⟨g, k * 14 + 2, none⟩ (.string ⟨#[]⟩)).setCell ⟨g, k * 14 + 3, none⟩ (.string ⟨#[]⟩)).setCell ⟨g, k * 14 + 4, none⟩ (.int .i64 l)).setCell ⟨g, k * 14 + 5, none⟩ (.int .i64 0)).setCell ⟨g, k * 14 + 6, none⟩ (.bool false)).setCell ⟨g, k * 14 + 7, none⟩ (.bool false)).setCell ⟨g, k * 14 + 8, none⟩ (.int .u8 0)).setCell ⟨g, k * 14 + 9, none⟩ (.int .i64 0)).setCell ⟨g, k * 14 + 10, none⟩ (.string ⟨#[]⟩)).setCell ⟨g, k * 14 + 11, none⟩ (.bool false)).setCell ⟨g, k * 14 + 12, none⟩ (.bool false)).setCell ⟨g, k * 14 + 13, none⟩ (.bool false))) :=
  ((((((((((((((h.setCell hg _).setCell hg _).setCell hg _).setCell hg _).setCell hg _).setCell hg _).setCell hg _).setCell hg _).setCell hg _).setCell hg _).setCell hg _).setCell hg _).setCell hg _).setCell hg _)

theorem cflat_step (ns : Nat → ByteArray) (ls : Nat → Int) (Z : Nat → Value) (k i : Nat) :
    (if k * 14 ≤ i ∧ i < k * 14 + 14 then ccell (ns k) (ls k) (i - k * 14) else if i < k * 14 then cflat ns ls i else Z i) = if i < (k + 1) * 14 then cflat ns ls i else Z i := by
  by_cases hin : k * 14 ≤ i ∧ i < k * 14 + 14
  · rw [if_pos hin, if_pos (by omega)]
    obtain ⟨j, rfl⟩ : ∃ j, i = k * 14 + j := ⟨i - k * 14, by omega⟩
    rw [cflat_at ns ls k j (by omega)]
    congr 1
    omega
  · rw [if_neg hin]
    by_cases h : i < k * 14
    · rw [if_pos h, if_pos (by omega)]
    · rw [if_neg h, if_neg (by omega)]

def cz : Array Value := #[.string ⟨#[]⟩, .int .u8 0, .string ⟨#[]⟩, .string ⟨#[]⟩, .int .i64 0, .int .i64 0, .bool false, .bool false, .int .u8 0, .int .i64 0, .string ⟨#[]⟩, .bool false, .bool false, .bool false]

/-- 'make([]sqlparse.ColumnDef, n)'. -/
theorem make_cols (n : Nat) (hn : n ≤ 1048576) (w : World) :
    (Instr.makeSlice 50 (.int .i64 (n : Int)) (.int .i64 (n : Int))).run Try.prog w = .ok (.slice (some ⟨w.heap.size, 0, none⟩) n n) (w.alloc (.cells (madeCells cz (n * 14)) 49)) := by
  obtain ⟨i, hi, hzz⟩ := Option.map_eq_some_iff.1 Try.info49
  simp only [Prod.mk.injEq] at hzz
  obtain ⟨hz, hs, hb⟩ := hzz
  have hr := run_make (P := Try.prog) w 50 49 i _ Try.underlying50 hi hz .i64 .i64 n n (by omega) (Int.le_refl _) (by rw [hb]; omega) (by omega)
  simp only [Int.toNat_natCast, hs] at hr
  exact hr

theorem rowIs_cols (w : World) (n : Nat) : (w.alloc (.cells (madeCells cz (n * 14)) 49)).rowIs w.heap.size 49 (n * 14) (cflat (fun _ => ⟨#[]⟩) (fun _ => 0)) := by
  have h := World.rowIs_alloc w (madeCells cz (n * 14)) 49 (cflat (fun _ => ⟨#[]⟩) (fun _ => 0)) (fun i hi => by
    rw [size_madeCells] at hi
    have e : madeCells cz (n * 14) = (Array.range (n * 14)).map (cz[· % 14]!) := rfl
    rw [e]
    simp only [Array.getElem?_map]
    rw [Array.getElem?_range, if_pos hi]
    show some (cz[i % 14]!) = some (ccell ⟨#[]⟩ 0 (i % 14))
    have hlt : i % 14 < 14 := by omega
    generalize i % 14 = j at hlt
    have hj : j = 0 ∨ j = 1 ∨ j = 2 ∨ j = 3 ∨ j = 4 ∨ j = 5 ∨ j = 6 ∨ j = 7 ∨ j = 8 ∨ j = 9 ∨ j = 10 ∨ j = 11 ∨ j = 12 ∨ j = 13 := by omega
    rcases hj with rfl | rfl | rfl | rfl | rfl | rfl | rfl | rfl | rfl | rfl | rfl | rfl | rfl | rfl <;> rfl)
  rw [size_madeCells] at h
  exact h
end Go.Proofs.Qxb6001703a
