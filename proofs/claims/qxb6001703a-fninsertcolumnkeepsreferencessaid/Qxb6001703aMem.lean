/- Plain facts on worlds: rows of the call's own, behind 'Below'; the type table's rows; what a walk is told of a slice. -/
import Derived.Test.Qxb6001703aRows
import Derived.WalkKit
import Derived.ProofKit
import Derived.WalkSpells
import Derived.WalkLawsBesides
import Derived.Deep.OwnRows
namespace Go.Proofs.Qxb6001703a
open Go.ChangeShapes Go.WideShapes Go.ChangeAt Go.RowKit

theorem hide {p : Prop} (h : p) : Hid p := h

theorem rowIs_below {w w' : World} {B b : Nat} {t : TypeId} {n : Nat} {f : Nat → Value} (h : w.rowIs b t n f) (hb : Below B w w') (hB : b < B) : w'.rowIs b t n f :=
  h.of_block (hb.block b hB)

/-- Old cells and old marks read as before: two rules for the walk. -/
theorem bcell {B : Nat} {W w1 : World} (hb : Below B W w1) : (∀ b o, b < B → w1.cell? ⟨b, o, none⟩ = W.cell? ⟨b, o, none⟩) ∧ (∀ b o, b < B → w1.frozen? ⟨b, o, none⟩ = W.frozen? ⟨b, o, none⟩) :=
  ⟨fun b o h => hb.cell (p := ⟨b, o, none⟩) h, fun b o h => hb.frozen (p := ⟨b, o, none⟩) h⟩

theorem lt_of_cell {w : World} {a : Addr} {v : Value} (h : w.cell? a = some v) : a.block < w.heap.size := by
  by_cases hb : a.block < w.heap.size
  · exact hb
  · have e : w.heap[a.block]? = none := by simp; omega
    unfold World.cell? at h
    rw [e] at h
    split at h <;> simp_all

theorem Try.info2 : (Try.prog.info? 2).map (fun i => (i.zero, i.size, i.bytes)) = some (some (.int .i64 0), 1, 8) := by kernel_rfl
theorem Try.info3 : (Try.prog.info? 3).map (fun i => (i.zero, i.size, i.bytes)) = some (some (.int .i64 0), 1, 8) := by kernel_rfl
theorem Try.info9 : (Try.prog.info? 9).map (fun i => (i.zero, i.size, i.bytes)) = some (some (.string ⟨#[]⟩), 1, 16) := by kernel_rfl
theorem Try.info26 : (Try.prog.info? 26).map (fun i => (i.zero, i.size, i.bytes)) = some (some (.agg #[.int .u8 0, .int .i64 0, .string ⟨#[]⟩]), 3, 32) := by kernel_rfl

theorem upto_all {p : Nat → Prop} {k : Nat} (h : ∀ j, j < k → p j) (hk : p k) : ∀ j, j < k + 1 → p j := fun j hj => by
  by_cases e : j = k
  · rw [e]; exact hk
  · exact h j (by omega)

/-- A store at place k of a row that is filled up to k. -/
theorem upto_step (g z : Nat → Value) (k j : Nat) : (if j = k then g k else if j < k then g j else z j) = if j < k + 1 then g j else z j := by
  by_cases h : j = k
  · subst h; simp
  · rw [if_neg h]
    by_cases h2 : j < k
    · rw [if_pos h2, if_pos (by omega)]
    · rw [if_neg h2, if_neg (by omega)]

/-- WHAT THE WALK IS TOLD OF A SLICE OF ONE-CELL ELEMENTS THAT CAME IN: it is nil; or its n elements lie at an address, element i being 'v i'. -/
def Reads (w : World) (a : Option Addr) (n : Nat) (v : Nat → Value) : Prop :=
  (a = none ∧ n = 0) ∨ ∃ x, a = some x ∧ ∀ i, i < n → w.cell? (x.add i) = some (v i)

/-- A SLICE OF THE CALL's OWN: nil; or the whole of a row of its own, from block B on. -/
def Owns (w : World) (B : Nat) (t : TypeId) (a : Option Addr) (n : Nat) (v : Nat → Value) : Prop :=
  (a = none ∧ n = 0) ∨ ∃ g, B ≤ g ∧ a = some ⟨g, 0, none⟩ ∧ w.rowIs g t n v

theorem Reads.cut {w : World} {a : Option Addr} {n : Nat} {v : Nat → Value} (h : Reads w a n v) :
    (a = none ∧ n = 0) ∨ (∃ x, a = some x ∧ n = 0) ∨ ∃ b off, b < w.heap.size ∧ a = some ⟨b, off, none⟩ ∧ ∀ i, i < n → w.cell? ⟨b, off + i, none⟩ = some (v i) := by
  rcases h with h | ⟨x, rfl, hc⟩
  · exact .inl h
  · by_cases hn : n = 0
    · exact .inr (.inl ⟨x, rfl, hn⟩)
    · obtain ⟨b, off, spot⟩ := x
      have h0 := hc 0 (by omega)
      have hs : spot = none := by simpa [Addr.add] using World.cell?_spot h0
      subst hs
      rw [add_plain] at h0
      exact .inr (.inr ⟨b, off, lt_of_cell h0, rfl, fun i hi => by rw [← add_plain]; exact hc i hi⟩)

theorem Reads.at {w : World} {a : Option Addr} {n : Nat} {v : Nat → Value} (h : Reads w a n v) (hn : 0 < n) :
    ∃ b off, b < w.heap.size ∧ a = some ⟨b, off, none⟩ ∧ ∀ i, i < n → w.cell? ⟨b, off + i, none⟩ = some (v i) := by
  rcases h.cut with ⟨_, h⟩ | ⟨_, _, h⟩ | h
  · omega
  · omega
  · exact h

theorem Owns.reads {w : World} {B : Nat} {t : TypeId} {a : Option Addr} {n : Nat} {v : Nat → Value} (h : Owns w B t a n v) : Reads w a n v := by
  rcases h with h | ⟨g, _, rfl, hr⟩
  · exact .inl h
  · exact .inr ⟨_, rfl, fun i hi => by rw [add_plain]; simpa using hr.cell hi⟩

theorem Owns.below {w w' : World} {B C : Nat} {t : TypeId} {a : Option Addr} {n : Nat} {v : Nat → Value} (h : Owns w B t a n v) (hb : Below C w w') (hC : w.heap.size ≤ C) : Owns w' B t a n v := by
  rcases h with h | ⟨g, hg, rfl, hr⟩
  · exact .inl h
  · exact .inr ⟨g, hg, rfl, rowIs_below hr hb (Nat.lt_of_lt_of_le hr.lt hC)⟩

theorem Owns.at {w : World} {B : Nat} {t : TypeId} {a : Option Addr} {n : Nat} {v : Nat → Value} (h : Owns w B t a n v) (hn : 0 < n) : ∃ g, B ≤ g ∧ a = some ⟨g, 0, none⟩ ∧ w.rowIs g t n v := by
  rcases h with ⟨_, h⟩ | h
  · omega
  · exact h

theorem Reads.below {w w' : World} {C : Nat} {a : Option Addr} {n : Nat} {v : Nat → Value} (h : Reads w a n v) (hb : Below C w w') (hC : w.heap.size ≤ C) : Reads w' a n v := by
  rcases h with h | ⟨x, rfl, hc⟩
  · exact .inl h
  · refine .inr ⟨x, rfl, fun i hi => ?_⟩
    rw [hb.cell (Nat.lt_of_lt_of_le (lt_of_cell (hc i hi)) hC)]
    exact hc i hi

theorem Owns.mono {w : World} {B C : Nat} {t : TypeId} {a : Option Addr} {n : Nat} {v : Nat → Value} (h : Owns w B t a n v) (hC : C ≤ B) : Owns w C t a n v := by
  rcases h with h | ⟨g, hg, rfl, hr⟩
  · exact .inl h
  · exact .inr ⟨g, Nat.le_trans hC hg, rfl, hr⟩
end Go.Proofs.Qxb6001703a
