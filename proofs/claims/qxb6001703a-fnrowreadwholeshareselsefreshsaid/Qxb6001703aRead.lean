/- Contract of '(*row).read', 'ZZRowRead'. -/
import Derived.Test.Qxb6001703aVals
namespace Go.Proofs.Qxb6001703a
open Go.ChangeShapes Go.WideShapes Go.ChangeAt Go.RowKit

/-- All columns, in order. -/
def Whole (n m : Nat) (cz : Nat → Int) : Prop := m = n ∧ ∀ j, j < m → cz j = (j : Int)

theorem vflat_whole (z cz : Nat → Int) (m j : Nat) (hj : j < m * 3) (h : Whole m m cz) : vflat z j = vflat (fun i => z (cz i).toNat) j := by
  unfold vflat
  have e : (cz (j / 3)).toNat = j / 3 := by have := h.2 (j / 3) (by omega); omega
  show _ = if j % 3 = 0 then Value.int .u8 1 else if j % 3 = 1 then Value.int .i64 (z (cz (j / 3)).toNat) else .string ⟨#[]⟩
  rw [e]

set_option maxHeartbeats 1000000 in
theorem read_any (pb g n m c : Nat) (a : Option Addr) (z cz : Nat → Int) (hm : m ≤ 1048576) (hn : n ≤ 1048576) (w : World)
    (hp : w.cell? ⟨pb, 0, none⟩ = some (.slice (some ⟨g, 0, none⟩) n n)) (hg : w.rowIs g 26 (n * 3) (vflat z)) (hpb : pb < w.heap.size)
    (hc : Reads w a m (fun i => .int .i64 (cz i))) (hz : ∀ i, i < m → 0 ≤ cz i ∧ cz i < (n : Int)) :
    Calls Try.prog 30 #[.pointer (some ⟨pb, 0, none⟩), .slice a m c] w fun e w' => ∃ g', e = .returned (.slice (some ⟨g', 0, none⟩) m m) ∧ w'.rowIs g' 26 (m * 3) (vflat fun i => z (cz i).toNat) ∧ Below w.heap.size w w' ∧ ((g' = g ∧ Whole n m cz) ∨ (g' = w.heap.size ∧ ¬ Whole n m cz)) := by
  have hgl := hg.lt
  have hmk := make_vals m hm
  have hst := rowIs_vals w m
  have hhd : ((m : Int) == (n : Int)) = true → m = n := fun h => by simp at h; omega
  have hhf : ((m : Int) == (n : Int)) = false → ¬ Whole n m cz := fun h hw => by simp at h; exact h (by exact_mod_cast hw.1)
  have H1 := hide hhd
  have H2 := hide hhf
  clear hhd hhf
  go_enter Try.func30, Try.ntmps30
  go_wp2
  go_loop [5, 6] (fun t i => ∃ (k : Nat) (b : Bool), k ≤ m ∧ i = .int .i64 k ∧ t = .bool b ∧ (b = true → m = n ∧ ∀ j, j < k → cz j = (j : Int)) ∧ (b = false → ¬ Whole n m cz)) (fun _ i => m - (intOf i).toNat)
  case atStart => exact ⟨0, _, Nat.zero_le _, rfl, rfl, fun h => ⟨H1.out h, fun j hj => by omega⟩, H2.out⟩
  case round =>
    obtain ⟨k, b, hk, rfl, rfl, hb1, hb2⟩ := hrel
    cases b
    · have hnw := hb2 rfl
      clear hb1 hb2
      have HNW := hide hnw
      clear hnw
      go_wp2
      go_loopw [43] (fun i wr => ∃ k : Nat, k ≤ m ∧ i = .int .i64 k ∧ wr.rowIs w.heap.size 26 (m * 3) (fun j => if j < k * 3 then vflat (fun i => z (cz i).toNat) j else vzero j) ∧ Below w.heap.size w wr) (fun i _ => m - (intOf i).toNat)
      case atStart => exact ⟨0, Nat.zero_le _, rfl, hst.congr (fun j _ => by simp), (Below.refl _ _).alloc (Nat.le_refl _) _⟩
      case round =>
        obtain ⟨k2, hk2, rfl, hrow, hbel⟩ := hrel
        by_cases hlt : k2 < m
        · obtain ⟨b, off, hb, rfl, hcc⟩ := hc.at (by omega)
          obtain ⟨z0, z1⟩ := hz k2 hlt
          have h1 := hcc k2 hlt
          rw [← hbel.cell (p := ⟨b, off + k2, none⟩) hb] at h1
          have h2 := hp
          rw [← hbel.cell (p := ⟨pb, 0, none⟩) hpb] at h2
          have hgr := rowIs_below hg hbel hgl
          have r0 := hgr.cell (i := (cz k2).toNat * 3) (by omega)
          have r1 := hgr.cell (i := (cz k2).toNat * 3 + 1) (by omega)
          have r2 := hgr.cell (i := (cz k2).toNat * 3 + 2) (by omega)
          rw [vflat0] at r0
          rw [vflat1] at r1
          rw [vflat2] at r2
          have g0 := hrow.cell (i := k2 * 3) (by omega)
          have g1 := hrow.cell (i := k2 * 3 + 1) (by omega)
          have g2 := hrow.cell (i := k2 * 3 + 2) (by omega)
          rw [if_neg (by omega)] at g0 g1 g2
          rw [vzero0] at g0
          rw [vzero1] at g1
          rw [vzero2] at g2
          have f0 := hrow.frozen (k2 * 3)
          have f1 := hrow.frozen (k2 * 3 + 1)
          have f2 := hrow.frozen (k2 * 3 + 2)
          go_wp2
          go_roundw
          case rel => exact ⟨k2 + 1, by omega, by go_num, (((hrow.set (k2 * 3) _).set (k2 * 3 + 1) _).set (k2 * 3 + 2) _).congr (fun j _ => vflat_step (fun i => z (cz i).toNat) k2 j), ((hbel.setCell (by simp) _).setCell (by simp) _).setCell (by simp) _⟩
          case measure => simp [intOf]; omega
        · go_wp2
          go_ret
          exact ⟨_, rfl, hrow.congr (fun j hj => by rw [if_pos (by omega)]), hbel, .inr ⟨rfl, HNW.out⟩⟩
    · have hbw := hb1 rfl
      obtain ⟨rfl, hbw⟩ := hbw
      by_cases hlt : k < m
      · obtain ⟨b, off, hb, rfl, hcc⟩ := hc.at (by omega)
        have h1 := hcc k hlt
        have hne : cz k = (k : Int) ∨ ¬ cz k = (k : Int) := by omega
        clear hb1 hb2
        go_wp2
        go_round
        case rel =>
          refine ⟨k + 1, (cz k == (k : Int)), by omega, by go_num, rfl, fun h => ⟨by trivial, fun j hj => ?_⟩, fun h hw => ?_⟩
          · by_cases e : j = k
            · subst e; simpa using h
            · exact hbw j (by omega)
          · have := hw.2 k hlt
            simp [this] at h
        case measure => simp [intOf]; omega
      · have HW : Hid (Whole m m cz) := (⟨rfl, fun j hj => hbw j (by omega)⟩ : Whole m m cz)
        clear hb1 hb2
        go_wp2
        go_ret
        exact ⟨g, rfl, hg.congr (fun j hj => vflat_whole z cz m j hj HW.out), Below.refl _ _, .inl ⟨rfl, HW.out⟩⟩

theorem rowRead_any (g n m c : Nat) (a : Option Addr) (z cz : Nat → Int) (hm : m ≤ 1048576) (hn : n ≤ 1048576) (w : World)
    (hg : w.rowIs g 26 (n * 3) (vflat z)) (hc : Reads w a m (fun i => .int .i64 (cz i))) (hz : ∀ i, i < m → 0 ≤ cz i ∧ cz i < (n : Int)) :
    Calls Try.prog 15 #[.slice (some ⟨g, 0, none⟩) n n, .slice a m c] w fun e w' => ∃ g', e = .returned (.slice (some ⟨g', 0, none⟩) m m) ∧ w'.rowIs g' 26 (m * 3) (vflat fun i => z (cz i).toNat) ∧ Below w.heap.size w w' ∧ ((g' = g ∧ Whole n m cz) ∨ (w.heap.size ≤ g' ∧ ¬ Whole n m cz)) := by
  have hA : Below w.heap.size w (w.alloc (.cells #[.slice (some ⟨g, 0, none⟩) n n, .slice none 0 0] 66)) := (Below.refl _ _).alloc (Nat.le_refl _) _
  have hR := read_any w.heap.size g n m c a z cz hm hn (w.alloc (.cells #[.slice (some ⟨g, 0, none⟩) n n, .slice none 0 0] 66)) (by simp) (hg.alloc _) (by simp) (hc.below hA (Nat.le_refl _)) hz
  have HR := hide hR
  clear hR
  go_enter Try.func15, Try.ntmps15
  go_wp2_with fail
  refine HR.out.mono ?_
  rintro e w1 ⟨g', rfl, hr', hb', hs'⟩
  go_wp2_with fail
  go_ret
  refine ⟨g', rfl, hr', hA.trans (hb'.mono (by simp)), ?_⟩
  rcases hs' with h | ⟨rfl, h⟩
  · exact .inl h
  · exact .inr ⟨by simp, h⟩
end Go.Proofs.Qxb6001703a
