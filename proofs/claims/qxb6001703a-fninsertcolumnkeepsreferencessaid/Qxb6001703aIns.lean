/- 'slices.Insert' of one column. -/
import Derived.Test.Qxb6001703aCol
import Derived.Lib.Overlaps
import Derived.Lib.AppendZerosOnto
import Derived.Lib.JoinLaws
import Derived.Laws.Externs
import Derived.Laws.CopyRow
import Derived.Deep.RegionLaw
import Derived.RegionTactic
namespace Go.Proofs.Qxb6001703a
open Go.ChangeShapes Go.WideShapes Go.ChangeAt Go.RowKit
set_option linter.unusedSimpArgs false

/-! ### The built-in copy, elements of sz cells, by functions of the index -/
theorem run_copy_sz {P : Program} (w : World) (dT sT ty elem : TypeId) (g o dLen dCap : Nat) (a : Addr) (sLen sCap sz : Nat) (cur : Array Value) (t : TypeId) (cs : List Value)
    (hu : P.underlying dT = some (.slice elem)) (hs : (P.info? elem).map (·.size) = some sz)
    (hg : w.heap[g]? = some (.cells cur t (0, 0))) (hn : cs.length = Nat.min sLen dLen * sz)
    (hsrc : ∀ j v, cs[j]? = some v → w.cell? (a.add j) = some v) (hfit : o + cs.length ≤ cur.size) (h1 : ∀ v ∈ cs, v.oneCell' = true) :
    (Builtin.copy_ #[dT, sT] ty #[.slice (some ⟨g, o, none⟩) dLen dCap, .slice (some a) sLen sCap]).run P w =
      .ok (goInt (Nat.min sLen dLen : Nat)) (w.setRow g (cur.toList.take o ++ cs ++ cur.toList.drop (o + cs.length)).toArray) := by
  have hl := run_loadCells_list (P := P) w a cs hsrc
  have hst := run_storeCells_at P g o t cs 0 cur w hg (by simpa using hfit) h1
  cases hq : P.info? elem with
  | none => simp [hq] at hs
  | some i =>
    have hi : i.size = sz := by simpa [hq] using hs
    simp [Builtin.copy_, run_underlying hu, Builtin.lenOf, Builtin.firstCells, sizeOf, typeInfo, hq, hi, ← hn, hl, hst]

theorem run_copy_fn {P : Program} (w : World) (dT sT elem : TypeId) (g o dLen : Nat) (a : Addr) (sLen m sz N : Nat) (t : TypeId) (F S : Nat → Value)
    (hu : P.underlying dT = some (.slice elem)) (hs : (P.info? elem).map (·.size) = some sz) (hg : w.rowIs g t N F) (hm : Nat.min sLen dLen = m)
    (hsrc : ∀ j, j < m * sz → w.cell? (a.add j) = some (S j)) (hfit : o + m * sz ≤ N) (h1 : ∀ j, j < m * sz → (S j).oneCell' = true) :
    ∃ w' : World, (∀ ty dCap sCap, (Builtin.copy_ #[dT, sT] ty #[.slice (some ⟨g, o, none⟩) dLen dCap, .slice (some a) sLen sCap]).run P w = .ok (goInt (m : Nat)) w') ∧
      w'.rowIs g t N (fun j => if o ≤ j ∧ j < o + m * sz then S (j - o) else F j) ∧ w.grownBy w' (some g) := by
  obtain ⟨cur, hb, hN, hc⟩ := hg
  have hl : ((List.range (m * sz)).map S).length = m * sz := by simp
  have hcs : ∀ j, j < m * sz → ((List.range (m * sz)).map S)[j]? = some (S j) := fun j hj => by simp [hj]
  have hrun : ∀ ty dCap sCap, (Builtin.copy_ #[dT, sT] ty #[.slice (some ⟨g, o, none⟩) dLen dCap, .slice (some a) sLen sCap]).run P w = .ok (goInt (m : Nat)) (w.setRow g (cur.toList.take o ++ (List.range (m * sz)).map S ++ cur.toList.drop (o + ((List.range (m * sz)).map S).length)).toArray) := fun ty dCap sCap => by
    have h := run_copy_sz (P := P) w dT sT ty elem g o dLen dCap a sLen sCap sz cur t ((List.range (m * sz)).map S) hu hs hb (by rw [hl, hm])
      (fun j v hj => by obtain ⟨hlt, rfl⟩ := map_range_at hj; exact hsrc j hlt) (by rw [hl, hN]; exact hfit)
      (fun v hv => by obtain ⟨j, hj, rfl⟩ := List.mem_map.1 hv; exact h1 j (List.mem_range.1 hj))
    rw [hm] at h
    exact h
  generalize (List.range (m * sz)).map S = cs at hl hcs hrun
  have hlo : (cur.toList.take o).length = o := by simp; omega
  refine ⟨_, hrun, ⟨_, setRow_heap w g cur _ t _ hb, ?_, fun j hj => ?_⟩, ⟨rfl, rfl, rfl, by simp [World.setRow], fun k _ hk => setRow_other w g k _ (fun h => hk (by rw [h]))⟩⟩
  · simp only [List.size_toArray, List.length_append, List.length_drop, hlo, hl, Array.length_toList]; omega
  · simp only [List.getElem?_toArray, List.append_assoc]
    by_cases h0 : j < o
    · rw [if_neg (by omega), List.getElem?_append_left (by omega), List.getElem?_take, if_pos h0]
      have := hc j hj
      simpa using this
    · by_cases h2 : j < o + m * sz
      · rw [if_pos ⟨by omega, h2⟩, List.getElem?_append_right (by omega), List.getElem?_append_left (by omega), hlo]
        exact hcs _ (by omega)
      · rw [if_neg (by omega), List.getElem?_append_right (by omega), List.getElem?_append_right (by omega), List.getElem?_drop]
        have e : o + cs.length + (j - (cur.toList.take o).length - cs.length) = j := by omega
        rw [e]
        have := hc j hj
        simpa using this

/-- 'slices.overlaps' of two slices in different blocks: no. -/
theorem overlaps_no (w : World) (vb g o lb cb : Nat) (tA tB : TypeId) (NA NB : Nat) (FA FB : Nat → Value) (ha : w.rowIs vb tA NA FA) (hb : w.rowIs g tB NB FB) (hne : vb ≠ g) (hN : 0 < NB) :
    (callFunc 41 #[.slice (some ⟨vb, 0, none⟩) 1 1, .slice (some ⟨g, o, none⟩) lb cb]).run Try.prog w = .ok (.value (.bool false)) w := by
  obtain ⟨cA, hA, hA2, _⟩ := ha
  obtain ⟨cB, hB, hB2, _⟩ := hb
  have hsa : w.shape? vb = some (tA, cA.size) := by simp [World.shape?, hA]
  have hsb : w.shape? g = some (tB, cB.size) := by simp [World.shape?, hB]
  have hz : ∀ w, (Go.sizeOf 49).run Try.prog w = .ok 14 w := fun w => by
    obtain ⟨i0, hi, hz0, hz1, hz2⟩ := info_parts Try.info49
    simp [sizeOf, typeInfo, hi, hz1]
  rw [run_callFunc_extern Try.func41 (by kernel_rfl) (by kernel_rfl) (by kernel_rfl) (e := Extern.SlicesOverlaps.overlaps #[50, 50] #[4]) (by kernel_rfl),
    Lib.run_overlaps_apart w 50 4 49 Try.underlying50 14 hz ⟨vb, 0, none⟩ ⟨g, o, none⟩ 1 1 lb cb hne tA tB cA.size cB.size hsa hsb (by omega) (by simp [World.frozen?, hA]) (by simp [World.frozen?, hA])]
  rfl

/-! ### A copy whose run is known: for a plain list of operations, and as a step of a region that draws -/
theorem wp_copyRun {P : Program} (w : World) {o : Oper} {a : Act} {K : Act → World → Prop} {Q : Exit → Act → World → Prop} (d s : Operand) (t t' : TypeId)
    (ho : o.op = .call { callee := .builtin .copy, args := #[d, s], argTypes := #[t, t'] }) (v u : Value) (hd : a.eval d = v) (hs : a.eval s = u) {v' : Value} {w' : World}
    (hr : (Builtin.copy_ #[t, t'] o.type #[v, u]).run P w = .ok v' w') (h : K (a.put o.dst v') w') : o.wp P a w K Q := by
  unfold Oper.wp execOp
  simp only [ho, resolve, invoke, builtin, Sem.run_bind, Sem.run_pure, Result.andThen_ok, List.map_toArray, List.map_cons, List.map_nil, hd, hs, hr]
  exact h
theorem wpList_copyRun {P : Program} (w : World) {ops : Array Oper} {rest : List Oper} {o : Oper} {a : Act} {Q : Exit → Act → World → Prop} (hgd : o.guard = none) (d s : Operand) (t t' : TypeId)
    (ho : o.op = .call { callee := .builtin .copy, args := #[d, s], argTypes := #[t, t'] }) (v u : Value) (hd : a.eval d = v) (hs : a.eval s = u) {v' : Value} {w' : World}
    (hr : (Builtin.copy_ #[t, t'] o.type #[v, u]).run P w = .ok v' w') (h : wpList P ops Q rest (a.put o.dst v') w') : wpList P ops Q (o :: rest) a w :=
  wpList_plain hgd fun _ hK => wp_copyRun w d s t t' ho v u hd hs hr (hK _ _ h)
theorem step_copyRun {P : Program} {ops : Array Oper} {o : Oper} {a : Act} {w : World} {K : Act → World → Prop} {Q : Exit → Act → World → Prop} {E : Prop}
    (hg : o.guard = none) (d x : Operand) (dT sT : TypeId) (hop : o.op = Op.call { callee := Callee.builtin Builtin.copy, args := #[d, x], argTypes := #[dT, sT] })
    (v u : Value) (hd : a.eval d = v) (hx : a.eval x = u) {v' : Value} {w' : World} (hr : (Builtin.copy_ #[dT, sT] o.type #[v, u]).run P w = .ok v' w') (hK : K (a.put o.dst v') w') :
    if Region.wanted o (yielded ops a.tmps) = true then Oper.wp P o a w K Q else E := by
  have hw : Region.wanted o (yielded ops a.tmps) = true := by simp [Region.wanted, hg]
  rw [if_pos hw]
  exact wp_copyRun w d x dT sT hop v u hd hx hr hK

theorem grown2 {a b c : World} {g : Nat} (h : a.grownBy b (some g)) (k : b.grownBy c (some g)) : a.grownBy c (some g) :=
  ⟨k.os.trans h.os, k.tape.trans h.tape, k.output.trans h.output, Nat.le_trans h.size k.size, fun i hi hn => (k.block i (Nat.lt_of_lt_of_le hi h.size) hn).trans (h.block i hi hn)⟩

theorem Try.size49 : (Try.prog.info? 49).map (·.size) = some 14 := by
  obtain ⟨i0, hi, hz0, hz1, hz2⟩ := info_parts Try.info49
  rw [hi]; simp [hz1]

/-- What 'Insert' makes of the cells. -/
def ins (f vf : Nat → Value) (i j : Nat) : Value := if j < i * 14 then f j else if j < i * 14 + 14 then vf (j - i * 14) else f (j - 14)

theorem ins_room (F vf : Nat → Value) (i n j : Nat) (hi : i < n) (hj : j < (n + 1) * 14) :
    (if i * 14 ≤ j ∧ j < i * 14 + 1 * 14 then vf (j - i * 14) else if (i + 1) * 14 ≤ j ∧ j < (i + 1) * 14 + (n - i) * 14 then F (i * 14 + (j - (i + 1) * 14)) else F j) = ins F vf i j := by
  unfold ins
  by_cases h0 : j < i * 14
  · rw [if_neg (by omega), if_neg (by omega), if_pos h0]
  · by_cases h1 : j < i * 14 + 14
    · rw [if_pos (by omega), if_neg h0, if_pos h1]
    · rw [if_neg (by omega), if_pos (by omega), if_neg h0, if_neg h1]
      congr 1
      omega

set_option maxRecDepth 100000 in
set_option maxHeartbeats 4000000 in
theorem insert_room (g n c i vb : Nat) (F vf : Nat → Value) (w : World) (hi : i < n) (hn : n ≤ 1048576) (hc : n + 1 ≤ c) (hc2 : c ≤ 9223372036854775807) (hg : w.rowIs g 49 (c * 14) F) (hv : w.rowIs vb 49 14 vf) (hne : vb ≠ g)
    (h1 : ∀ j, j < n * 14 → (F j).oneCell' = true) (h1v : ∀ j, j < 14 → (vf j).oneCell' = true) :
    Calls Try.prog 39 #[.slice (some ⟨g, 0, none⟩) n c, .int .i64 i, .slice (some ⟨vb, 0, none⟩) 1 1] w fun e w' => e = .returned (.slice (some ⟨g, 0, none⟩) (n + 1) c) ∧
      (∃ F', w'.rowIs g 49 (c * 14) F' ∧ ∀ j, j < (n + 1) * 14 → F' j = ins F vf i j) ∧ w.grownBy w' (some g) := by
  have hov := fun (o lb cb : Nat) => overlaps_no w vb g o lb cb 49 49 14 (c * 14) vf F hv hg hne (by omega)
  have hz2 : ¬ ((i : Int) = (n : Int)) := by omega
  have hw1 : IntKind.i64.wrap ((i : Int) + 1) = (i : Int) + 1 := by rw [IntKind.wrap_i64]; omega
  have hb1 : (0 : Int) ≤ (i : Int) + 1 := by omega
  have hin : i ≤ n := by omega
  have htn : ((i : Int) + 1).toNat = i + 1 := by omega
  have hb2 : ¬ (c = i + 1) := by omega
  have hb3 : (i : Int) ≤ (n : Int) + 1 := by omega
  have hb4 : ¬ (c = i) := by omega
  have hcell : ∀ j, j < c * 14 → w.drew.cell? ⟨g, j, none⟩ = some (F j) := fun j hj => hg.cell hj
  obtain ⟨w1, hr1, hw1row, hgr1⟩ := run_copy_fn (P := Try.prog) w.drew 50 50 49 g ((i + 1) * 14) (n - i) ⟨g, i * 14, none⟩ (n + 1 - i) (n - i) 14 (c * 14) 49 F (fun j => F (i * 14 + j)) Try.underlying50 Try.size49 hg.drew
    (by simp only [Nat.min_def]; split <;> omega) (fun j hj => by rw [add_plain]; exact hcell _ (by omega)) (by omega) (fun j hj => h1 _ (by omega))
  have hv1 := hv.of_block (hgr1.block vb hv.lt (fun h => hne (Option.some.inj h)))
  obtain ⟨w2, hr2, hw2row, hgr2⟩ := run_copy_fn (P := Try.prog) w1 50 50 49 g (i * 14) (n + 1 - i) ⟨vb, 0, none⟩ 1 1 14 (c * 14) 49 _ vf Try.underlying50 Try.size49 hw1row
    (by simp only [Nat.min_def]; split <;> omega) (fun j hj => by rw [add_plain, Nat.zero_add]; exact hv1.cell (by omega)) (by omega) (fun j hj => h1v _ (by omega))
  have hgr : w.grownBy w2 (some g) := grown2 ⟨hgr1.os, hgr1.tape, hgr1.output, hgr1.size, hgr1.block⟩ hgr2
  clear hcell hv1 hgr1 hgr2
  go_enter Try.func39, Try.ntmps39
  go_wp2_with (simp only [hov])
  go_region
  all_goals go_wp2
  go_ret
  exact ⟨rfl, ⟨_, hw2row, fun j hj => ins_room F vf i n j hi hj⟩, hgr⟩

/-- 'append(s[:i], make(S, n+1-i)...)' where there is no room: a new row, its first i elements those of s. -/
theorem append_make (g n c i : Nat) (F : Nat → Value) (w : World) (hi : i < n) (hn : n ≤ 1048576) (hnc : n ≤ c) (hc : c < n + 1) (hg : w.rowIs g 49 (c * 14) F) :
    ∃ (w1 : World) (cap : Nat) (F1 : Nat → Value), (∀ ty, (Builtin.append_ #[50, 3] ty #[.slice (some ⟨g, 0, none⟩) i c, .int .i64 ((n : Int) + 1 - (i : Int))]).run Try.prog w = .ok (.slice (some ⟨w.heap.size, 0, none⟩) (n + 1) cap) w1) ∧
      w1.rowIs w.heap.size 49 (cap * 14) F1 ∧ (∀ j, j < i * 14 → F1 j = F j) ∧ n + 1 ≤ cap ∧ cap ≤ 9223372036854775807 ∧ Below w.heap.size w w1 := by
  obtain ⟨i0, hi0, hz0, hz1, hz2⟩ := info_parts Try.info49
  have hk : (n : Int) + 1 - (i : Int) = ((n + 1 - i : Nat) : Int) := by omega
  have hik : i + (n + 1 - i) = n + 1 := by omega
  have hl : ((List.range (i * 14)).map F).length = i * 14 := by simp
  have hold : (Builtin.firstCells i0.size i (.slice (some ⟨g, 0, none⟩) i c)).run Try.prog w.drew = .ok ((List.range (i * 14)).map F).toArray w.drew := by
    rw [hz1]
    have hl' := run_loadCells_list (P := Try.prog) w.drew ⟨g, 0, none⟩ ((List.range (i * 14)).map F) (fun j v hj => by
      obtain ⟨hlt, rfl⟩ := map_range_at hj
      rw [add_plain, Nat.zero_add]
      exact hg.cell (by omega))
    rw [hl] at hl'
    exact hl'
  have hrun := fun ty => Lib.run_append_grow_zeros w 50 3 ty 49 i0 _ .i64 .i64 Try.underlying50 Try.underlying3 hi0 hz0 (some ⟨g, 0, none⟩) i c ((List.range (i * 14)).map F) hold (n + 1 - i) (by omega) (by omega) (by omega) (by omega) (by rw [hz2]; omega) (by rw [hz2, hik]; exact growslice_fits hc (by omega))
  rw [hik, ← hk] at hrun
  have hge := grownCap_ge w (n + 1) c 49
  have hle := grownCap_le_maxLen w (n + 1) c 49 (by unfold maxLen; omega)
  unfold maxLen at hle
  generalize grownCap w (n + 1) c 49 = cap at hrun hge hle
  have hzs : ∀ (z : Array Value) (k : Nat), (Builtin.zeroCells z k).size = k * z.size := fun z k => by simp [Builtin.zeroCells]
  obtain ⟨zc, hzc⟩ : ∃ zc, zc = (Value.agg #[Value.string ⟨#[]⟩, Value.int .u8 0, Value.string ⟨#[]⟩, Value.string ⟨#[]⟩, Value.int .i64 0, Value.int .i64 0, Value.bool false, Value.bool false, Value.int .u8 0, Value.int .i64 0, Value.string ⟨#[]⟩, Value.bool false, Value.bool false, Value.bool false]).cells := ⟨_, rfl⟩
  have hzl : zc.size = 14 := by rw [hzc]; rfl
  rw [← hzc] at hrun
  obtain ⟨ROW, hROW⟩ : ∃ ROW, ROW = ((List.range (i * 14)).map F).toArray ++ Builtin.zeroCells zc (n + 1 - i) ++ Builtin.zeroCells zc (cap - (n + 1)) := ⟨_, rfl⟩
  rw [← hROW] at hrun
  have hRs : ROW.size = cap * 14 := by
    rw [hROW]
    simp only [Array.size_append, hzs, hzl, List.size_toArray, hl]
    omega
  have hR1 : ∀ j, j < i * 14 → ROW[j]? = some (F j) := fun j hj => by
    rw [hROW, Array.append_assoc, Array.getElem?_append_left (by simp; omega)]
    simp [hj]
  clear hROW hzc
  refine ⟨_, cap, fun j => ROW.getD j undef, hrun, ⟨ROW, (MapKept.heap_alloc w.drew _).1, hRs, fun j hj => ?_⟩, fun j hj => ?_, hge, hle, ((Below.refl _ _).drew.alloc (Nat.le_refl _) _)⟩
  · have : j < ROW.size := by omega
    simp [this]
  · show ROW.getD j undef = F j
    rw [Array.getD_eq_getD_getElem?, hR1 j hj]; rfl

theorem ins_grow (F F1 vf : Nat → Value) (i n j : Nat) (hi : i < n) (hj : j < (n + 1) * 14) (h1 : ∀ j, j < i * 14 → F1 j = F j) :
    (if (i + 1) * 14 ≤ j ∧ j < (i + 1) * 14 + (n - i) * 14 then F (i * 14 + (j - (i + 1) * 14)) else if i * 14 ≤ j ∧ j < i * 14 + 1 * 14 then vf (j - i * 14) else F1 j) = ins F vf i j := by
  unfold ins
  by_cases h0 : j < i * 14
  · rw [if_neg (by omega), if_neg (by omega), if_pos h0, h1 j h0]
  · by_cases h2 : j < i * 14 + 14
    · rw [if_neg (by omega), if_pos (by omega), if_neg h0, if_pos h2]
    · rw [if_pos (by omega), if_neg h0, if_neg h2]
      congr 1
      omega

set_option maxRecDepth 100000 in
set_option maxHeartbeats 4000000 in
theorem insert_grow (g n c i vb : Nat) (F vf : Nat → Value) (w : World) (hi : i < n) (hn : n ≤ 1048576) (hnc : n ≤ c) (hc : c < n + 1) (hg : w.rowIs g 49 (c * 14) F) (hv : w.rowIs vb 49 14 vf)
    (h1 : ∀ j, j < n * 14 → (F j).oneCell' = true) (h1v : ∀ j, j < 14 → (vf j).oneCell' = true) :
    Calls Try.prog 39 #[.slice (some ⟨g, 0, none⟩) n c, .int .i64 i, .slice (some ⟨vb, 0, none⟩) 1 1] w fun e w' => ∃ cap, e = .returned (.slice (some ⟨w.heap.size, 0, none⟩) (n + 1) cap) ∧ n + 1 ≤ cap ∧ cap ≤ 9223372036854775807 ∧
      (∃ F', w'.rowIs w.heap.size 49 (cap * 14) F' ∧ ∀ j, j < (n + 1) * 14 → F' j = ins F vf i j) ∧ Below w.heap.size w w' := by
  have hz2 : ¬ ((i : Int) = (n : Int)) := by omega
  have hw1 : IntKind.i64.wrap ((i : Int) + 1) = (i : Int) + 1 := by rw [IntKind.wrap_i64]; omega
  have hb1 : (0 : Int) ≤ (i : Int) + 1 := by omega
  have hin : i ≤ n := by omega
  have htn : ((i : Int) + 1).toNat = i + 1 := by omega
  have hb3 : (i : Int) ≤ (n : Int) + 1 := by omega
  have hb4 : ¬ (c = i) := by omega
  have hz3 : (c : Int) < (n : Int) + 1 := by omega
  obtain ⟨w1, cap, F1, hr0, hrow1, hF1, hcap1, hcap2, hB1⟩ := append_make g n c i F w hi hn hnc hc hg
  have hgl := hg.lt
  have hvl := hv.lt
  have hv1 := rowIs_below hv hB1 hvl
  obtain ⟨w2, hr2, hrow2, hgr2⟩ := run_copy_fn (P := Try.prog) w1 50 50 49 w.heap.size (i * 14) (n + 1 - i) ⟨vb, 0, none⟩ 1 1 14 (cap * 14) 49 F1 vf Try.underlying50 Try.size49 hrow1
    (by simp only [Nat.min_def]; split <;> omega) (fun j hj => by rw [add_plain, Nat.zero_add]; exact hv1.cell (by omega)) (by omega) (fun j hj => h1v _ (by omega))
  have hB2 : Below w.heap.size w w2 := hB1.grown hgr2 hB1.size (fun k hk => by cases hk; exact Nat.le_refl _)
  have hg2 := rowIs_below hg hB2 hgl
  have hcell : ∀ j, j < c * 14 → w2.drew.cell? ⟨g, j, none⟩ = some (F j) := fun j hj => hg2.cell hj
  obtain ⟨w3, hr3, hrow3, hgr3⟩ := run_copy_fn (P := Try.prog) w2.drew 50 50 49 w.heap.size ((i + 1) * 14) (n - i) ⟨g, i * 14, none⟩ (n - i) (n - i) 14 (cap * 14) 49 _ (fun j => F (i * 14 + j)) Try.underlying50 Try.size49 hrow2.drew
    (by simp only [Nat.min_def]; split <;> omega) (fun j hj => by rw [add_plain]; exact hcell _ (by omega)) (by omega) (fun j hj => h1 _ (by omega))
  have hB3 : Below w.heap.size w w3 := hB2.drew.grown hgr3 hB2.size (fun k hk => by cases hk; exact Nat.le_refl _)
  have hb5 : ¬ (cap = i) := by omega
  have hb6 : ¬ (cap = i + 1) := by omega
  clear hcell hv1 hgr2 hgr3 hg2 hB1 hB2 hrow1 hrow2
  go_enter Try.func39, Try.ntmps39
  go_wp2_with (at_builtin; refine Lib.wpList_append_run _ rfl _ _ 50 3 rfl _ _ rfl rfl _ _ (hr0 _) ?_)
  go_region
  all_goals go_wp2
  go_ret
  exact ⟨cap, rfl, hcap1, hcap2, ⟨_, hrow3, fun j hj => ins_grow F F1 vf i n j hi hj hF1⟩, hB3⟩

/-- Of what was there, only blocks of [lo, hi) may have turned. -/
structure Touch (w w' : World) (lo hi : Nat) : Prop where
  os : w'.os = w.os
  tape : w'.tape = w.tape
  output : w'.output = w.output
  size : w.heap.size ≤ w'.heap.size
  block : ∀ k, k < w.heap.size → ¬ (lo ≤ k ∧ k < hi) → w'.heap[k]? = w.heap[k]?

theorem Touch.of_grown {w w' : World} {lo hi g : Nat} (h : w.grownBy w' (some g)) (h1 : lo ≤ g) (h2 : g < hi) : Touch w w' lo hi :=
  ⟨h.os, h.tape, h.output, h.size, fun k hk hn => h.block k hk (fun e => hn (by have := Option.some.inj e; omega))⟩
theorem Touch.of_below {w w' : World} {lo hi : Nat} (h : Below w.heap.size w w') : Touch w w' lo hi :=
  ⟨h.os, h.tape, h.output, h.size, fun k hk _ => h.block k hk⟩
theorem Touch.below {w0 w w' : World} {lo hi B : Nat} (h : Touch w w' lo hi) (hb : Below B w0 w) (hB : B ≤ lo) (hB2 : B ≤ w.heap.size) : Below B w0 w' :=
  hb.trans ⟨h.os, h.tape, h.output, h.size, fun k hk => h.block k (by omega) (by omega)⟩

theorem ins_end (f vf : Nat → Value) (n : Nat) : (List.range (n * 14)).map f ++ (List.range 14).map vf = (List.range ((n + 1) * 14)).map (ins f vf n) := by
  apply List.ext_getElem?
  intro j
  by_cases h0 : j < n * 14
  · rw [List.getElem?_append_left (by simpa using h0)]
    simp [h0, ins, show j < (n + 1) * 14 by omega]
  · by_cases h1 : j < (n + 1) * 14
    · rw [List.getElem?_append_right (by simp; omega)]
      simp [h0, ins, h1, show j - n * 14 < 14 by omega, show j < n * 14 + 14 by omega]
    · rw [List.getElem?_eq_none (by simp; omega), List.getElem?_eq_none (by simp; omega)]

theorem Arr.owns {w : World} {lo hi : Nat} {e : TypeId} {sz : Nat} {a : Option Addr} {n c : Nat} {f : Nat → Value} (h : Arr w lo hi e sz a n c f) : w.ownsRow lo e sz (.slice a n c) n ((List.range (n * sz)).map f) := by
  refine ⟨by simp, ?_⟩
  rcases h with ⟨rfl, rfl, rfl⟩ | ⟨g, F, h1, h2, rfl, h4, h5, ⟨cur, hb, hN, hc⟩, h7⟩
  · exact .inl ⟨rfl, rfl⟩
  · refine .inr ⟨g, c, cur, rfl, h1, hb, h4, h5, hN, ?_⟩
    have hle : n * sz ≤ c * sz := Nat.mul_le_mul_right _ h4
    apply List.ext_getElem?
    intro j
    by_cases hj : j < n * sz
    · rw [List.getElem?_take, if_pos hj]
      have := hc j (by omega)
      rw [h7 j hj] at this
      simp [hj]
      simpa using this
    · rw [List.getElem?_eq_none (by simp; omega), List.getElem?_eq_none (by simp; omega)]

theorem ownBlock_cap (a : Option Addr) (n c c' : Nat) : (Value.slice a n c).ownBlock = (Value.slice a n c').ownBlock := by cases a <;> rfl

set_option maxRecDepth 100000 in
set_option maxHeartbeats 4000000 in
theorem insert_end (a : Option Addr) (n c vb lo hi : Nat) (f vf : Nat → Value) (w : World) (hn : n ≤ 1048576) (h : Arr w lo hi 49 14 a n c f) (hlo : lo ≤ w.heap.size) (hv : w.rowIs vb 49 14 vf) (h1v : ∀ j, j < 14 → (vf j).oneCell' = true) :
    Calls Try.prog 39 #[.slice a n c, .int .i64 n, .slice (some ⟨vb, 0, none⟩) 1 1] w fun e w' => ∃ g' c', e = .returned (.slice (some ⟨g', 0, none⟩) (n + 1) c') ∧
      w'.ownsRow lo 49 14 (.slice (some ⟨g', 0, none⟩) (n + 1) c') (n + 1) ((List.range ((n + 1) * 14)).map (ins f vf n)) ∧ w.grownBy w' (Value.slice a n c).ownBlock ∧ ((Value.slice a n c).ownBlock = some g' ∨ g' = w.heap.size) ∧ g' < w'.heap.size := by
  obtain ⟨i0, hi0, hz0, hz1, hz2⟩ := info_parts Try.info49
  have hown := hide h.owns
  have hnews := hide (show ∀ j u, ((List.range 14).map vf)[j]? = some u → w.cell? ((⟨vb, 0, none⟩ : Addr).add j) = some u from fun j u hj => by
    obtain ⟨hlt, rfl⟩ := map_range_at hj
    rw [add_plain, Nat.zero_add]
    exact hv.cell hlt)
  have hone := hide (show ∀ u ∈ (List.range 14).map vf, u.oneCell' = true from fun u hu => by
    obtain ⟨j, hj, rfl⟩ := List.mem_map.1 hu
    exact h1v j (List.mem_range.1 hj))
  obtain ⟨news, hN⟩ : ∃ news, news = (List.range 14).map vf := ⟨_, rfl⟩
  obtain ⟨xs, hX⟩ : ∃ xs, xs = (List.range (n * 14)).map f := ⟨_, rfl⟩
  have hl : news.length = 1 * 14 := by rw [hN]; rfl
  have HE := hide (show xs ++ news = (List.range ((n + 1) * 14)).map (ins f vf n) by rw [hN, hX]; exact ins_end f vf n)
  rw [← hN] at hnews hone
  rw [← hX] at hown
  have hcl := h.le
  clear hN hX h hv h1v
  go_enter Try.func39, Try.ntmps39
  go_wp2_with (at_builtin; refine wpList_append_lies _ rfl _ _ 50 rfl lo 49 i0 _ 14 120 Try.underlying50 hi0 hz0 hz1 hz2 rfl (by decide) _ n xs rfl hown.out ⟨vb, 0, none⟩ 1 1 news rfl hl hnews.out hone.out (by omega) (by unfold maxLen; omega) (by omega) hlo w.heap.size rfl ?_)
  all_goals
    intro g cap w1 ho hgrow hat hlt
    rw [HE.out] at ho
    have HO := hide ho
    have HG := hide hgrow
    have HA := hide hat
    clear ho hgrow hat
    go_wp2
    go_ret
    refine ⟨g, cap, rfl, HO.out, ?_, ?_, hlt⟩
    · first | exact HG.out | (rw [ownBlock_cap a n c n]; exact HG.out)
    · first | exact HA.out | (rw [ownBlock_cap a n c n]; exact HA.out)

/-- THE CONTRACT OF 'slices.Insert' of one column at place i. -/
theorem insert_any (a : Option Addr) (n c i vb lo hi : Nat) (f vf : Nat → Value) (w : World) (hi' : i ≤ n) (hn : n ≤ 1048576) (h : Arr w lo hi 49 14 a n c f) (hhi : hi ≤ w.heap.size) (hlo : lo ≤ hi) (hv : w.rowIs vb 49 14 vf) (hvb : hi ≤ vb)
    (h1 : ∀ j, j < n * 14 → (f j).oneCell' = true) (h1v : ∀ j, j < 14 → (vf j).oneCell' = true) :
    Calls Try.prog 39 #[.slice a n c, .int .i64 i, .slice (some ⟨vb, 0, none⟩) 1 1] w fun e w' => ∃ g' c' F', e = .returned (.slice (some ⟨g', 0, none⟩) (n + 1) c') ∧ n + 1 ≤ c' ∧ c' ≤ 9223372036854775807 ∧
      ((lo ≤ g' ∧ g' < hi) ∨ w.heap.size ≤ g') ∧ w'.rowIs g' 49 (c' * 14) F' ∧ (∀ j, j < (n + 1) * 14 → F' j = ins f vf i j) ∧ Touch w w' lo hi := by
  by_cases he : i = n
  · subst he
    refine (insert_end a i c vb lo hi f vf w hn h (by omega) hv h1v).mono ?_
    rintro e w1 ⟨g', c', rfl, ho, hg, hat, hlt⟩
    rcases arr_of_owns ho hlt 0 (Nat.zero_le _) with ⟨hno, _⟩ | ⟨g2, F', _, _, hg2, hle, hle2, hrow, hF'⟩
    · cases hno
    · have e2 : g' = g2 := by simpa using hg2
      subst e2
      refine ⟨g', c', F', rfl, hle, hle2, ?_, hrow, hF', ?_⟩
      · rcases h with ⟨rfl, _⟩ | ⟨g, F, p1, p2, rfl, _⟩
        · rcases hat with hat | hat
          · cases hat
          · exact .inr (by omega)
        · rcases hat with hat | hat
          · have : g = g' := by simpa [Value.ownBlock] using hat
            exact .inl (by omega)
          · exact .inr (by omega)
      · rcases h with ⟨rfl, _⟩ | ⟨g, F, p1, p2, rfl, _⟩
        · exact ⟨hg.os, hg.tape, hg.output, hg.size, fun k hk _ => hg.block k hk (by simp [Value.ownBlock])⟩
        · exact Touch.of_grown hg p1 p2
  · obtain ⟨g, F, p1, p2, rfl, p4, p5, p6, p7⟩ := h.at (by omega)
    have h1' : ∀ j, j < n * 14 → (F j).oneCell' = true := fun j hj => by rw [p7 j hj]; exact h1 j hj
    have hins : ∀ j, j < (n + 1) * 14 → ins F vf i j = ins f vf i j := fun j hj => by
      unfold ins
      by_cases q0 : j < i * 14
      · rw [if_pos q0, if_pos q0, p7 j (by omega)]
      · rw [if_neg q0, if_neg q0]
        by_cases q1 : j < i * 14 + 14
        · rw [if_pos q1, if_pos q1]
        · rw [if_neg q1, if_neg q1, p7 _ (by omega)]
    by_cases hroom : n + 1 ≤ c
    · refine (insert_room g n c i vb F vf w (by omega) hn hroom p5 p6 hv (by omega) h1' h1v).mono ?_
      rintro e w1 ⟨rfl, ⟨F', hrow, hF'⟩, hg⟩
      exact ⟨g, c, F', rfl, hroom, p5, .inl ⟨p1, p2⟩, hrow, fun j hj => (hF' j hj).trans (hins j hj), Touch.of_grown hg p1 p2⟩
    · refine (insert_grow g n c i vb F vf w (by omega) hn p4 (by omega) p6 hv h1' h1v).mono ?_
      rintro e w1 ⟨cap, rfl, q1, q2, ⟨F', hrow, hF'⟩, hB⟩
      exact ⟨w.heap.size, cap, F', rfl, q1, q2, .inr (Nat.le_refl _), hrow, fun j hj => (hF' j hj).trans (hins j hj), Touch.of_below hB⟩
end Go.Proofs.Qxb6001703a
