/- Slices of the call's own with spare room, elements of several cells; 'slices.Clone' at three types. -/
import Derived.Test.Qxb6001703aCopy
import Derived.Deep.AppendLies
namespace Go.Proofs.Qxb6001703a
open Go.ChangeShapes Go.WideShapes Go.ChangeAt Go.RowKit

/-- A slice of n elements (sz cells each, of type e) that is nil, or the head of a row of the call's own in a block of [lo, hi), of capacity c; cell i of its elements is 'f i'. -/
def Arr (w : World) (lo hi : Nat) (e : TypeId) (sz : Nat) (a : Option Addr) (n c : Nat) (f : Nat → Value) : Prop :=
  (a = none ∧ n = 0 ∧ c = 0) ∨
  ∃ g F, lo ≤ g ∧ g < hi ∧ a = some ⟨g, 0, none⟩ ∧ n ≤ c ∧ c ≤ 9223372036854775807 ∧ w.rowIs g e (c * sz) F ∧ ∀ i, i < n * sz → F i = f i

theorem Arr.keep {w w' : World} {lo hi : Nat} {e : TypeId} {sz : Nat} {a : Option Addr} {n c : Nat} {f : Nat → Value} (h : Arr w lo hi e sz a n c f) (hk : ∀ k, lo ≤ k → k < hi → w'.heap[k]? = w.heap[k]?) : Arr w' lo hi e sz a n c f := by
  rcases h with h | ⟨g, F, h1, h2, h3, h4, h5, h6, h7⟩
  · exact .inl h
  · exact .inr ⟨g, F, h1, h2, h3, h4, h5, h6.of_block (hk g h1 h2), h7⟩

theorem Arr.below {w w' : World} {lo hi B : Nat} {e : TypeId} {sz : Nat} {a : Option Addr} {n c : Nat} {f : Nat → Value} (h : Arr w lo hi e sz a n c f) (hb : Below B w w') (hB : hi ≤ B) : Arr w' lo hi e sz a n c f :=
  h.keep (fun k _ h2 => hb.block k (by omega))

theorem Arr.mono {w : World} {lo hi lo' hi' : Nat} {e : TypeId} {sz : Nat} {a : Option Addr} {n c : Nat} {f : Nat → Value} (h : Arr w lo hi e sz a n c f) (h1 : lo' ≤ lo) (h2 : hi ≤ hi') : Arr w lo' hi' e sz a n c f := by
  rcases h with h | ⟨g, F, p1, p2, p⟩
  · exact .inl h
  · exact .inr ⟨g, F, by omega, by omega, p⟩

theorem Arr.congr {w : World} {lo hi : Nat} {e : TypeId} {sz : Nat} {a : Option Addr} {n c : Nat} {f f' : Nat → Value} (h : Arr w lo hi e sz a n c f) (hf : ∀ i, i < n * sz → f i = f' i) : Arr w lo hi e sz a n c f' := by
  rcases h with h | ⟨g, F, h1, h2, h3, h4, h5, h6, h7⟩
  · exact .inl h
  · exact .inr ⟨g, F, h1, h2, h3, h4, h5, h6, fun i hi => (h7 i hi).trans (hf i hi)⟩

theorem Arr.at {w : World} {lo hi : Nat} {e : TypeId} {sz : Nat} {a : Option Addr} {n c : Nat} {f : Nat → Value} (h : Arr w lo hi e sz a n c f) (hn : 0 < n) :
    ∃ g F, lo ≤ g ∧ g < hi ∧ a = some ⟨g, 0, none⟩ ∧ n ≤ c ∧ c ≤ 9223372036854775807 ∧ w.rowIs g e (c * sz) F ∧ ∀ i, i < n * sz → F i = f i := by
  rcases h with ⟨_, h, _⟩ | h
  · omega
  · exact h

theorem Arr.reads {w : World} {lo hi : Nat} {e : TypeId} {a : Option Addr} {n c : Nat} {f : Nat → Value} (h : Arr w lo hi e 1 a n c f) : Reads w a n f := by
  rcases h with ⟨h1, h2, _⟩ | ⟨g, F, _, _, rfl, h4, _, h6, h7⟩
  · exact .inl ⟨h1, h2⟩
  · refine .inr ⟨_, rfl, fun i hi => ?_⟩
    rw [add_plain, h6.cell (by omega : 0 + i < c * 1), h7 (0 + i) (by omega), Nat.zero_add]

theorem Arr.le {w : World} {lo hi : Nat} {e : TypeId} {sz : Nat} {a : Option Addr} {n c : Nat} {f : Nat → Value} (h : Arr w lo hi e sz a n c f) : n ≤ c ∧ c ≤ 9223372036854775807 := by
  rcases h with ⟨_, h, h'⟩ | ⟨g, F, _, _, _, h4, h5, _⟩
  · omega
  · exact ⟨h4, h5⟩

theorem Owns.arr {w : World} {B : Nat} {t : TypeId} {a : Option Addr} {n : Nat} {v : Nat → Value} (h : Owns w B t a n v) (hn : n ≤ 1048576) : Arr w B w.heap.size t 1 a n n v := by
  rcases h with ⟨h1, h2⟩ | ⟨g, hg, rfl, hr⟩
  · exact .inl ⟨h1, h2, h2⟩
  · exact .inr ⟨g, v, hg, hr.lt, rfl, Nat.le_refl _, by omega, by simpa using hr, fun _ _ => rfl⟩

/-- What the append's law leaves, as 'Arr'. -/
theorem arr_of_owns {w : World} {base : Nat} {e : TypeId} {sz g n cap : Nat} {f : Nat → Value} (h : w.ownsRow base e sz (.slice (some ⟨g, 0, none⟩) n cap) n ((List.range (n * sz)).map f)) (hg : g < w.heap.size) (lo : Nat) (hlo : lo ≤ g) :
    Arr w lo w.heap.size e sz (some ⟨g, 0, none⟩) n cap f := by
  obtain ⟨_, h⟩ := h
  rcases h with ⟨h, _⟩ | ⟨g', cap', cur, hv, _, hh, h1, h2, h3, h4⟩
  · cases h
  · simp only [Value.slice.injEq, Option.some.injEq, Addr.mk.injEq] at hv
    obtain ⟨⟨rfl, _, _⟩, _, rfl⟩ := hv
    unfold maxLen at h2
    refine .inr ⟨g, fun i => cur.getD i undef, hlo, hg, rfl, h1, h2, ⟨cur, hh, h3, fun i hi => ?_⟩, fun i hi => ?_⟩
    · have : i < cur.size := by omega
      simp [this]
    · have e1 : (cur.toList.take (n * sz))[i]? = ((List.range (n * sz)).map f)[i]? := by rw [h4]
      rw [List.getElem?_take, if_pos hi] at e1
      have e2 : ((List.range (n * sz)).map f)[i]? = some (f i) := by simp [hi]
      rw [e2] at e1
      have e3 : cur[i]? = some (f i) := by simpa using e1
      show cur.getD i undef = f i
      rw [Array.getD_eq_getD_getElem?, e3]; rfl

theorem map_range_at {N : Nat} {f : Nat → Value} {j : Nat} {u : Value} (h : ((List.range N).map f)[j]? = some u) : j < N ∧ u = f j := by
  have hj : j < N := by
    by_cases hj : j < N
    · exact hj
    · rw [List.getElem?_eq_none (by simp; omega)] at h; cases h
  refine ⟨hj, ?_⟩
  have : ((List.range N).map f)[j]? = some (f j) := by simp [hj]
  rw [this] at h
  exact (Option.some.inj h).symm

/-- The empty slice that 'slices.Clone' appends to. -/
theorem owns_empty (w : World) (e : TypeId) (sz : Nat) : (w.alloc (.cells #[] e)).ownsRow w.heap.size e sz (.slice (some ⟨w.heap.size, 0, none⟩) 0 0) 0 [] :=
  ⟨by simp, .inr ⟨w.heap.size, 0, #[], rfl, Nat.le_refl _, (MapKept.heap_alloc w _).1, Nat.le_refl _, Nat.zero_le _, by simp, by simp⟩⟩

theorem arr_empty (w : World) (e : TypeId) (sz : Nat) (f : Nat → Value) : Arr (w.alloc (.cells #[] e)) w.heap.size (w.alloc (.cells #[] e)).heap.size e sz (some ⟨w.heap.size, 0, none⟩) 0 0 f :=
  .inr ⟨w.heap.size, f, Nat.le_refl _, by simp, rfl, Nat.le_refl _, by omega, ⟨#[], (MapKept.heap_alloc w _).1, by simp, fun i hi => by omega⟩, fun i hi => by omega⟩

theorem Try.info49 : (Try.prog.info? 49).map (fun i => (i.zero, i.size, i.bytes)) = some (some (.agg #[.string ⟨#[]⟩, .int .u8 0, .string ⟨#[]⟩, .string ⟨#[]⟩, .int .i64 0, .int .i64 0, .bool false, .bool false, .int .u8 0, .int .i64 0, .string ⟨#[]⟩, .bool false, .bool false, .bool false]), 14, 120) := by kernel_rfl
theorem Try.info60 : (Try.prog.info? 60).map (fun i => (i.zero, i.size, i.bytes)) = some (some (.agg #[.string ⟨#[]⟩, .slice none 0 0, .bool false]), 3, 48) := by kernel_rfl

/-! ### cloneCols: 'slices.Clone' at type 50 -/
theorem cloneCols_nil (n c : Nat) (w : World) :
    Calls Try.prog 36 #[.slice none n c] w fun e w' => e = .returned (.slice none 0 0) ∧ w' = w := by
  have hq := fun (w : World) (a : Option Addr) (n c n' c' : Nat) => Lib.run_eql_slice_nil (P := Try.prog) w 50 49 a n c n' c' Try.underlying50
  go_enter Try.func36, Try.ntmps36
  go_wp2
  go_ret
  exact ⟨rfl, rfl⟩

theorem cloneCols_empty (x : Addr) (c : Nat) (w : World) :
    Calls Try.prog 36 #[.slice (some x) 0 c] w fun e w' => e = .returned (.slice (some ⟨w.heap.size, 0, none⟩) 0 0) ∧ w' = w.alloc (.cells #[] 49) := by
  have hq := fun (w : World) (a : Option Addr) (n c n' c' : Nat) => Lib.run_eql_slice_nil (P := Try.prog) w 50 49 a n c n' c' Try.underlying50
  go_enter Try.func36, Try.ntmps36
  go_wp2
  go_ret
  exact ⟨rfl, rfl⟩

theorem cloneCols_full (x : Addr) (n c : Nat) (f : Nat → Value) (w : World) (hn : 0 < n) (hn2 : n ≤ 1048576) (hf : ∀ i, i < n * 14 → w.cell? (x.add i) = some (f i)) (h1 : ∀ i, i < n * 14 → (f i).oneCell' = true) :
    Calls Try.prog 36 #[.slice (some x) n c] w fun e w' => ∃ g cap, e = .returned (.slice (some ⟨g, 0, none⟩) n cap) ∧ w'.ownsRow w.heap.size 49 14 (.slice (some ⟨g, 0, none⟩) n cap) n ((List.range (n * 14)).map f) ∧ g < w'.heap.size ∧ w.heap.size ≤ g ∧ Below w.heap.size w w' := by
  have hq := fun (w : World) (a : Option Addr) (n c n' c' : Nat) => Lib.run_eql_slice_nil (P := Try.prog) w 50 49 a n c n' c' Try.underlying50
  obtain ⟨i0, hi, hz0, hz1, hz2⟩ := info_parts Try.info49
  have hA : Below w.heap.size w (w.alloc (.cells #[] 49)) := (Below.refl _ _).alloc (Nat.le_refl _) _
  have hnews : ∀ j u, ((List.range (n * 14)).map f)[j]? = some u → (w.alloc (.cells #[] 49)).cell? (x.add j) = some u := fun j u hj => by
    obtain ⟨hlt, rfl⟩ := map_range_at hj
    have h := hf j hlt
    rw [hA.cell (lt_of_cell h)]
    exact h
  have hone : ∀ u ∈ (List.range (n * 14)).map f, u.oneCell' = true := fun u hu => by
    obtain ⟨j, hj, rfl⟩ := List.mem_map.1 hu
    exact h1 j (List.mem_range.1 hj)
  obtain ⟨news, hN⟩ : ∃ news, news = (List.range (n * 14)).map f := ⟨_, rfl⟩
  have hl : news.length = n * 14 := by rw [hN]; simp
  rw [← hN] at hnews hone
  have HN := hide hN
  have HW := hide hnews
  have HO := hide hone
  clear hN hnews hone h1 hf
  go_enter Try.func36, Try.ntmps36
  go_wp2_with (at_builtin; refine wpList_append_lies _ rfl _ _ 50 rfl w.heap.size 49 i0 _ 14 120 Try.underlying50 hi hz0 hz1 hz2 rfl (by decide) _ 0 [] rfl (owns_empty w 49 14) x n c news rfl hl HW.out HO.out hn (by unfold maxLen; omega) (by omega) (by simp) (w.heap.size + 1) (by simp) ?_)
  intro g cap w1 hown hgrow hat hlt
  have hge : w.heap.size ≤ g := by
    rcases hat with h | h
    · simp [Value.ownBlock] at h; omega
    · omega
  rw [HN.out] at hown
  have HOWN := hide hown
  have hB : Below w.heap.size w w1 := hA.grown hgrow (by simp) (fun k hk => by simp [Value.ownBlock] at hk; omega)
  clear hown hgrow hat
  go_wp2
  go_ret
  exact ⟨g, cap, by simp, HOWN.out, hlt, hge, hB⟩

theorem cloneCols_any (a : Option Addr) (n c lo hi : Nat) (f : Nat → Value) (w : World) (hn : n ≤ 1048576) (h : Arr w lo hi 49 14 a n c f) (h1 : ∀ i, i < n * 14 → (f i).oneCell' = true) :
    Calls Try.prog 36 #[.slice a n c] w fun e w' => ∃ a' c', e = .returned (.slice a' n c') ∧ Arr w' w.heap.size w'.heap.size 49 14 a' n c' f ∧ Below w.heap.size w w' := by
  by_cases hp : 0 < n
  · obtain ⟨g, F, _, _, rfl, h4, _, h6, h7⟩ := h.at hp
    refine (cloneCols_full ⟨g, 0, none⟩ n c f w hp hn (fun i hi => ?_) h1).mono ?_
    · rw [add_plain, Nat.zero_add, h6.cell (Nat.lt_of_lt_of_le hi (Nat.mul_le_mul_right _ h4)), h7 i hi]
    · rintro e w1 ⟨g', cap, rfl, ho, hl, hge, hb⟩
      exact ⟨_, _, rfl, arr_of_owns ho hl _ hge, hb⟩
  · obtain rfl : n = 0 := by omega
    rcases h with ⟨rfl, _, rfl⟩ | ⟨g, F, _, _, rfl, _⟩
    · refine (cloneCols_nil 0 0 w).mono ?_
      rintro e w1 ⟨rfl, rfl⟩
      exact ⟨none, 0, rfl, .inl ⟨rfl, rfl, rfl⟩, Below.refl _ _⟩
    · refine (cloneCols_empty ⟨g, 0, none⟩ c w).mono ?_
      rintro e w1 ⟨rfl, rfl⟩
      exact ⟨_, 0, rfl, arr_empty w 49 14 f, (Below.refl _ _).alloc (Nat.le_refl _) _⟩

/-! ### cloneInts: 'slices.Clone' at type 30 -/
theorem cloneInts_nil (n c : Nat) (w : World) :
    Calls Try.prog 37 #[.slice none n c] w fun e w' => e = .returned (.slice none 0 0) ∧ w' = w := by
  have hq := fun (w : World) (a : Option Addr) (n c n' c' : Nat) => Lib.run_eql_slice_nil (P := Try.prog) w 30 3 a n c n' c' Try.underlying30
  go_enter Try.func37, Try.ntmps37
  go_wp2
  go_ret
  exact ⟨rfl, rfl⟩

theorem cloneInts_empty (x : Addr) (c : Nat) (w : World) :
    Calls Try.prog 37 #[.slice (some x) 0 c] w fun e w' => e = .returned (.slice (some ⟨w.heap.size, 0, none⟩) 0 0) ∧ w' = w.alloc (.cells #[] 3) := by
  have hq := fun (w : World) (a : Option Addr) (n c n' c' : Nat) => Lib.run_eql_slice_nil (P := Try.prog) w 30 3 a n c n' c' Try.underlying30
  go_enter Try.func37, Try.ntmps37
  go_wp2
  go_ret
  exact ⟨rfl, rfl⟩

theorem cloneInts_full (x : Addr) (n c : Nat) (f : Nat → Value) (w : World) (hn : 0 < n) (hn2 : n ≤ 1048576) (hf : ∀ i, i < n * 1 → w.cell? (x.add i) = some (f i)) (h1 : ∀ i, i < n * 1 → (f i).oneCell' = true) :
    Calls Try.prog 37 #[.slice (some x) n c] w fun e w' => ∃ g cap, e = .returned (.slice (some ⟨g, 0, none⟩) n cap) ∧ w'.ownsRow w.heap.size 3 1 (.slice (some ⟨g, 0, none⟩) n cap) n ((List.range (n * 1)).map f) ∧ g < w'.heap.size ∧ w.heap.size ≤ g ∧ Below w.heap.size w w' := by
  have hq := fun (w : World) (a : Option Addr) (n c n' c' : Nat) => Lib.run_eql_slice_nil (P := Try.prog) w 30 3 a n c n' c' Try.underlying30
  obtain ⟨i0, hi, hz0, hz1, hz2⟩ := info_parts Try.info3
  have hA : Below w.heap.size w (w.alloc (.cells #[] 3)) := (Below.refl _ _).alloc (Nat.le_refl _) _
  have hnews : ∀ j u, ((List.range (n * 1)).map f)[j]? = some u → (w.alloc (.cells #[] 3)).cell? (x.add j) = some u := fun j u hj => by
    obtain ⟨hlt, rfl⟩ := map_range_at hj
    have h := hf j hlt
    rw [hA.cell (lt_of_cell h)]
    exact h
  have hone : ∀ u ∈ (List.range (n * 1)).map f, u.oneCell' = true := fun u hu => by
    obtain ⟨j, hj, rfl⟩ := List.mem_map.1 hu
    exact h1 j (List.mem_range.1 hj)
  obtain ⟨news, hN⟩ : ∃ news, news = (List.range (n * 1)).map f := ⟨_, rfl⟩
  have hl : news.length = n * 1 := by rw [hN]; simp
  rw [← hN] at hnews hone
  have HN := hide hN
  have HW := hide hnews
  have HO := hide hone
  clear hN hnews hone h1 hf
  go_enter Try.func37, Try.ntmps37
  go_wp2_with (at_builtin; refine wpList_append_lies _ rfl _ _ 30 rfl w.heap.size 3 i0 _ 1 8 Try.underlying30 hi hz0 hz1 hz2 rfl (by decide) _ 0 [] rfl (owns_empty w 3 1) x n c news rfl hl HW.out HO.out hn (by unfold maxLen; omega) (by omega) (by simp) (w.heap.size + 1) (by simp) ?_)
  intro g cap w1 hown hgrow hat hlt
  have hge : w.heap.size ≤ g := by
    rcases hat with h | h
    · simp [Value.ownBlock] at h; omega
    · omega
  rw [HN.out] at hown
  have HOWN := hide hown
  have hB : Below w.heap.size w w1 := hA.grown hgrow (by simp) (fun k hk => by simp [Value.ownBlock] at hk; omega)
  clear hown hgrow hat
  go_wp2
  go_ret
  exact ⟨g, cap, by simp, HOWN.out, hlt, hge, hB⟩

theorem cloneInts_any (a : Option Addr) (n c lo hi : Nat) (f : Nat → Value) (w : World) (hn : n ≤ 1048576) (h : Arr w lo hi 3 1 a n c f) (h1 : ∀ i, i < n * 1 → (f i).oneCell' = true) :
    Calls Try.prog 37 #[.slice a n c] w fun e w' => ∃ a' c', e = .returned (.slice a' n c') ∧ Arr w' w.heap.size w'.heap.size 3 1 a' n c' f ∧ Below w.heap.size w w' := by
  by_cases hp : 0 < n
  · obtain ⟨g, F, _, _, rfl, h4, _, h6, h7⟩ := h.at hp
    refine (cloneInts_full ⟨g, 0, none⟩ n c f w hp hn (fun i hi => ?_) h1).mono ?_
    · rw [add_plain, Nat.zero_add, h6.cell (Nat.lt_of_lt_of_le hi (Nat.mul_le_mul_right _ h4)), h7 i hi]
    · rintro e w1 ⟨g', cap, rfl, ho, hl, hge, hb⟩
      exact ⟨_, _, rfl, arr_of_owns ho hl _ hge, hb⟩
  · obtain rfl : n = 0 := by omega
    rcases h with ⟨rfl, _, rfl⟩ | ⟨g, F, _, _, rfl, _⟩
    · refine (cloneInts_nil 0 0 w).mono ?_
      rintro e w1 ⟨rfl, rfl⟩
      exact ⟨none, 0, rfl, .inl ⟨rfl, rfl, rfl⟩, Below.refl _ _⟩
    · refine (cloneInts_empty ⟨g, 0, none⟩ c w).mono ?_
      rintro e w1 ⟨rfl, rfl⟩
      exact ⟨_, 0, rfl, arr_empty w 3 1 f, (Below.refl _ _).alloc (Nat.le_refl _) _⟩

/-! ### cloneIxs: 'slices.Clone' at type 51 -/
theorem cloneIxs_nil (n c : Nat) (w : World) :
    Calls Try.prog 38 #[.slice none n c] w fun e w' => e = .returned (.slice none 0 0) ∧ w' = w := by
  have hq := fun (w : World) (a : Option Addr) (n c n' c' : Nat) => Lib.run_eql_slice_nil (P := Try.prog) w 51 60 a n c n' c' Try.underlying51
  go_enter Try.func38, Try.ntmps38
  go_wp2
  go_ret
  exact ⟨rfl, rfl⟩

theorem cloneIxs_empty (x : Addr) (c : Nat) (w : World) :
    Calls Try.prog 38 #[.slice (some x) 0 c] w fun e w' => e = .returned (.slice (some ⟨w.heap.size, 0, none⟩) 0 0) ∧ w' = w.alloc (.cells #[] 60) := by
  have hq := fun (w : World) (a : Option Addr) (n c n' c' : Nat) => Lib.run_eql_slice_nil (P := Try.prog) w 51 60 a n c n' c' Try.underlying51
  go_enter Try.func38, Try.ntmps38
  go_wp2
  go_ret
  exact ⟨rfl, rfl⟩

theorem cloneIxs_full (x : Addr) (n c : Nat) (f : Nat → Value) (w : World) (hn : 0 < n) (hn2 : n ≤ 1048576) (hf : ∀ i, i < n * 3 → w.cell? (x.add i) = some (f i)) (h1 : ∀ i, i < n * 3 → (f i).oneCell' = true) :
    Calls Try.prog 38 #[.slice (some x) n c] w fun e w' => ∃ g cap, e = .returned (.slice (some ⟨g, 0, none⟩) n cap) ∧ w'.ownsRow w.heap.size 60 3 (.slice (some ⟨g, 0, none⟩) n cap) n ((List.range (n * 3)).map f) ∧ g < w'.heap.size ∧ w.heap.size ≤ g ∧ Below w.heap.size w w' := by
  have hq := fun (w : World) (a : Option Addr) (n c n' c' : Nat) => Lib.run_eql_slice_nil (P := Try.prog) w 51 60 a n c n' c' Try.underlying51
  obtain ⟨i0, hi, hz0, hz1, hz2⟩ := info_parts Try.info60
  have hA : Below w.heap.size w (w.alloc (.cells #[] 60)) := (Below.refl _ _).alloc (Nat.le_refl _) _
  have hnews : ∀ j u, ((List.range (n * 3)).map f)[j]? = some u → (w.alloc (.cells #[] 60)).cell? (x.add j) = some u := fun j u hj => by
    obtain ⟨hlt, rfl⟩ := map_range_at hj
    have h := hf j hlt
    rw [hA.cell (lt_of_cell h)]
    exact h
  have hone : ∀ u ∈ (List.range (n * 3)).map f, u.oneCell' = true := fun u hu => by
    obtain ⟨j, hj, rfl⟩ := List.mem_map.1 hu
    exact h1 j (List.mem_range.1 hj)
  obtain ⟨news, hN⟩ : ∃ news, news = (List.range (n * 3)).map f := ⟨_, rfl⟩
  have hl : news.length = n * 3 := by rw [hN]; simp
  rw [← hN] at hnews hone
  have HN := hide hN
  have HW := hide hnews
  have HO := hide hone
  clear hN hnews hone h1 hf
  go_enter Try.func38, Try.ntmps38
  go_wp2_with (at_builtin; refine wpList_append_lies _ rfl _ _ 51 rfl w.heap.size 60 i0 _ 3 48 Try.underlying51 hi hz0 hz1 hz2 rfl (by decide) _ 0 [] rfl (owns_empty w 60 3) x n c news rfl hl HW.out HO.out hn (by unfold maxLen; omega) (by omega) (by simp) (w.heap.size + 1) (by simp) ?_)
  intro g cap w1 hown hgrow hat hlt
  have hge : w.heap.size ≤ g := by
    rcases hat with h | h
    · simp [Value.ownBlock] at h; omega
    · omega
  rw [HN.out] at hown
  have HOWN := hide hown
  have hB : Below w.heap.size w w1 := hA.grown hgrow (by simp) (fun k hk => by simp [Value.ownBlock] at hk; omega)
  clear hown hgrow hat
  go_wp2
  go_ret
  exact ⟨g, cap, by simp, HOWN.out, hlt, hge, hB⟩

theorem cloneIxs_any (a : Option Addr) (n c lo hi : Nat) (f : Nat → Value) (w : World) (hn : n ≤ 1048576) (h : Arr w lo hi 60 3 a n c f) (h1 : ∀ i, i < n * 3 → (f i).oneCell' = true) :
    Calls Try.prog 38 #[.slice a n c] w fun e w' => ∃ a' c', e = .returned (.slice a' n c') ∧ Arr w' w.heap.size w'.heap.size 60 3 a' n c' f ∧ Below w.heap.size w w' := by
  by_cases hp : 0 < n
  · obtain ⟨g, F, _, _, rfl, h4, _, h6, h7⟩ := h.at hp
    refine (cloneIxs_full ⟨g, 0, none⟩ n c f w hp hn (fun i hi => ?_) h1).mono ?_
    · rw [add_plain, Nat.zero_add, h6.cell (Nat.lt_of_lt_of_le hi (Nat.mul_le_mul_right _ h4)), h7 i hi]
    · rintro e w1 ⟨g', cap, rfl, ho, hl, hge, hb⟩
      exact ⟨_, _, rfl, arr_of_owns ho hl _ hge, hb⟩
  · obtain rfl : n = 0 := by omega
    rcases h with ⟨rfl, _, rfl⟩ | ⟨g, F, _, _, rfl, _⟩
    · refine (cloneIxs_nil 0 0 w).mono ?_
      rintro e w1 ⟨rfl, rfl⟩
      exact ⟨none, 0, rfl, .inl ⟨rfl, rfl, rfl⟩, Below.refl _ _⟩
    · refine (cloneIxs_empty ⟨g, 0, none⟩ c w).mono ?_
      rintro e w1 ⟨rfl, rfl⟩
      exact ⟨_, 0, rfl, arr_empty w 60 3 f, (Below.refl _ _).alloc (Nat.le_refl _) _⟩
end Go.Proofs.Qxb6001703a
