import Derived.Test.YbulkckvyRow
import Derived.Deep.DrawnRows
set_option linter.unusedVariables false
namespace Go.Proofs.Ybulkckvy.InsS
open Go.RowKit
attribute [local go_sem ↓] Go.wp_at_zero Go.wp_at_succ

theorem info : (Yba.prog.info? 9).map (fun i => (i.zero, i.size, i.bytes)) = some (some (.string ⟨#[]⟩), 1, 16) := by kernel_rfl

set_option maxRecDepth 100000 in
set_option maxHeartbeats 1000000 in
/-- At the end. -/
theorem ins_end (base n vb : Nat) (v : Value) (xs ys : List Value) (w : World) (how : w.ownsRow base 9 1 v n xs) (hys : ys.length = 1 * 1) (hvs : ∀ j u, ys[j]? = some u → w.cell? ((⟨vb, 0, none⟩ : Addr).add j) = some u)
    (h1 : ∀ u ∈ ys, u.oneCell' = true) (hn : n ≤ 1000000) (hbase : base ≤ w.heap.size) :
    Calls Yba.prog 22 #[v, .int .i64 (n : Int), .slice (some ⟨vb, 0, none⟩) 1 1] w (InsPost w base 9 1 v n (xs ++ ys)) := by
  obtain ⟨i0, hi0, hz0, hzs, hzb⟩ := info_parts info
  have how' := how
  obtain ⟨hxl, hv⟩ := how'
  have HO := Hid.intro how
  rcases hv with ⟨rfl, rfl⟩ | ⟨g, cap, cur, rfl, hg1, hg2, hg3, hg4, hg5, hg6⟩
  · clear how
    go_enter Yba.func22, Yba.ntmps22
    go_wp2_with (at_builtin; refine wpList_append_own_at _ rfl _ _ 42 rfl base 9 i0 (.string ⟨#[]⟩) 1 16 Yba.underlying42 hi0 hz0 hzs hzb rfl (by decide) _ _ _ rfl HO.out ⟨vb, 0, none⟩ 1 1 ys rfl hys hvs h1 (by unfold maxLen; omega) (by omega) hbase ?_; intro v' w1 hown1 hgrow hnil hat)
    go_ret
    exact InsPost.of_append rfl hown1 hgrow hat
  · unfold maxLen at hg4
    clear how hg2 hg5 hg6
    go_enter Yba.func22, Yba.ntmps22
    go_wp2_with (at_builtin; refine wpList_append_own_at _ rfl _ _ 42 rfl base 9 i0 (.string ⟨#[]⟩) 1 16 Yba.underlying42 hi0 hz0 hzs hzb rfl (by decide) _ _ _ rfl HO.out ⟨vb, 0, none⟩ 1 1 ys rfl hys hvs h1 (by unfold maxLen; omega) (by omega) hbase ?_; intro v' w1 hown1 hgrow hnil hat)
    all_goals
      go_ret
      exact InsPost.of_append rfl hown1 hgrow hat

set_option maxRecDepth 100000 in
set_option maxHeartbeats 2000000 in
/-- In the midst, with room. -/
theorem ins_shift (base n i vb g cap : Nat) (xs ys : List Value) (w : World) (how : w.ownsRow base 9 1 (.slice (some ⟨g, 0, none⟩) n cap) n xs) (hys : ys.length = 1) (hvb : w.heap[vb]? = some (.cells ys.toArray 9 (0, 0))) (hne : vb ≠ g)
    (h1 : ∀ u ∈ ys, u.oneCell' = true) (h1x : ∀ u ∈ xs, u.oneCell' = true) (hn : n ≤ 1000000) (hi : i < n) (hroom : n + 1 ≤ cap) :
    Calls Yba.prog 22 #[.slice (some ⟨g, 0, none⟩) n cap, .int .i64 (i : Int), .slice (some ⟨vb, 0, none⟩) 1 1] w (InsPost w base 9 1 (.slice (some ⟨g, 0, none⟩) n cap) n (xs.take (i) ++ ys ++ xs.drop (i))) := by
  obtain ⟨i0, hi0, hz0, hzs, hzb⟩ := info_parts info
  obtain ⟨hxl, hv⟩ := how
  rcases hv with ⟨hv, _⟩ | ⟨g', cap', cur, hv, hg1, hg2, hg3, hg4, hg5, hg6⟩
  · cases hv
  injection hv with e1 _ e3
  injection e1 with e1
  injection e1 with e1
  subst e1; subst e3
  unfold maxLen at hg4
  have hov : ∀ lb cb, (callFunc 36 #[.slice (some ⟨vb, 0, none⟩) 1 1, .slice (some ⟨g, (i + 1), none⟩) lb cb]).run Yba.prog w = .ok (.value (.bool false)) w := fun lb cb => by
    rw [run_callFunc_extern Yba.func36 (by kernel_rfl) (by kernel_rfl) (by kernel_rfl) (e := Extern.SlicesOverlaps.overlaps #[42, 42] #[4]) (by kernel_rfl),
      Lib.run_overlaps_apart w 42 4 9 Yba.underlying42 1 (fun w => by simp [sizeOf, typeInfo, hi0, hzs]) ⟨vb, 0, none⟩ ⟨g, (i + 1), none⟩ 1 1 lb cb hne 9 9 ys.toArray.size cur.size (by simp [World.shape?, hvb]) (by simp [World.shape?, hg2]) (by omega) (hp_frozen hvb _) (hp_frozen hvb _)]
    rfl
  have hb2 : ¬ (cap = i + 1) := by omega
  have hb4 : ¬ (cap = i) := by omega
  have hz2 : ¬ ((i : Int) = (n : Int)) := by omega
  have hin : (i : Int) ≤ (n : Int) := by omega
  have hw1 : IntKind.i64.wrap ((i : Int) + 1) = (i : Int) + 1 := by rw [IntKind.wrap_i64]; omega
  have hb1 : (0 : Int) ≤ (i : Int) + 1 := by omega
  have htn : ((i : Int) + 1).toNat = i + 1 := by omega
  have hb3 : (i : Int) ≤ (n : Int) + 1 := by omega
  have hdl : (xs.drop (i)).length = (n - i) * 1 := by rw [List.length_drop, hxl]; omega
  have hcp1 : ∀ ty dc sc, (Builtin.copy_ #[42, 42] ty #[.slice (some ⟨g, (i + 1), none⟩) (n - i) dc, .slice (some ⟨g, i, none⟩) (n + 1 - i) sc]).run Yba.prog w.drew = .ok (goInt ((n - i : Nat) : Int)) (w.drew.setCells g ((i + 1)) (xs.drop (i))) := fun ty dc sc =>
    run_copy_blk w.drew 42 ty 9 i0 1 Yba.underlying42 hi0 hzs g _ _ dc ⟨g, i, none⟩ _ sc cur 9 (xs.drop (i)) (n - i) (by simp only [Nat.min_def]; split <;> omega) hg2 hdl
      (fun j u hj => by rw [Addr.add_lit]; exact take_cells hg2 hg6 _ u (by rwa [List.getElem?_drop] at hj))
      (by rw [hdl, hg5]; omega) (fun u hu => h1x u (List.mem_of_mem_drop hu))
  obtain ⟨W1, hW1⟩ : ∃ W1, W1 = w.drew.setCells g ((i + 1)) (xs.drop (i)) := ⟨_, rfl⟩
  have hW1g : W1.heap[g]? = some (.cells (putAt cur ((i + 1)) (xs.drop (i))) 9 (0, 0)) := by
    rw [hW1]; exact hp_sets_same _ _ _ _ _ _ _ hg2 (by rw [hdl, hg5]; omega)
  have hps : (putAt cur ((i + 1)) (xs.drop (i))).size = cap * 1 := by rw [putAt_size _ _ _ (by rw [hdl, hg5]; omega), hg5]
  have hW1v : W1.heap[vb]? = some (.cells ys.toArray 9 (0, 0)) := by rw [hW1, hp_sets_ne _ _ _ _ _ hne]; exact hvb
  have hcp2 : ∀ ty dc, (Builtin.copy_ #[42, 42] ty #[.slice (some ⟨g, i, none⟩) (n + 1 - i) dc, .slice (some ⟨vb, 0, none⟩) 1 1]).run Yba.prog W1 = .ok (goInt ((1 : Nat) : Int)) (W1.setCells g (i) ys) := fun ty dc =>
    run_copy_blk W1 42 ty 9 i0 1 Yba.underlying42 hi0 hzs g _ _ dc ⟨vb, 0, none⟩ 1 1 _ 9 ys 1 (by simp only [Nat.min_def]; split <;> omega) hW1g (by rw [hys])
      (fun j u hj => by rw [Addr.add_lit, Nat.zero_add, hp_cell hW1v]; simpa using hj)
      (by rw [hys, hps]; omega) h1
  have hfin : InsPost w base 9 1 (.slice (some ⟨g, 0, none⟩) n cap) n (xs.take (i) ++ ys ++ xs.drop (i)) (.returned (.slice (some ⟨g, 0, none⟩) (n + 1) cap)) (W1.setCells g (i) ys) := by
    refine ⟨_, g, rfl, ⟨?_, .inr ⟨g, cap, _, rfl, hg1, hp_sets_same _ _ _ _ _ _ _ hW1g (by rw [hys, hps]; omega), by omega, by unfold maxLen; omega, by rw [putAt_size _ _ _ (by rw [hys, hps]; omega), hps], ?_⟩⟩, ?_, rfl, .inl rfl⟩
    · simp only [List.length_append, List.length_take, hdl, hys, hxl]; omega
    · have hh := shift_cells cur xs ys n i cap 1 hxl hg5 hg6 hys hi hroom
      simp only [Nat.mul_one] at hh ⊢
      exact hh
    · refine grown_trans ?_ (sets_grown g ys _ W1)
      rw [hW1]
      exact grown_trans (grown_drew (grown_refl w _)) (sets_grown g _ _ w.drew)
  obtain ⟨zs, hzs'⟩ : ∃ zs, zs = xs.take (i) ++ ys ++ xs.drop (i) := ⟨_, rfl⟩
  rw [← hzs'] at hfin ⊢
  have HF := Hid.intro hfin
  rw [← hW1] at hcp1
  clear hfin hzs' hW1g hps hW1v hg6 hg2 hvb hW1
  go_enter Yba.func22, Yba.ntmps22
  go_wp2_with (simp only [hov])
  go_region_law (refine step_copy_run rfl _ _ 42 42 rfl _ _ (by simp [Act.eval, Act.put]) (by simp [Act.eval, Act.put]) (hcp1 _ _ _) ?_)
  go_wp2_with (at_builtin; refine wpList_copy_run _ rfl _ _ 42 42 rfl _ _ rfl rfl (hcp2 _ _) ?_)
  go_ret
  exact HF.out

set_option maxRecDepth 100000 in
set_option maxHeartbeats 2000000 in
/-- In the midst, without room. -/
theorem ins_grow (base n i vb g cap : Nat) (xs ys : List Value) (w : World) (how : w.ownsRow base 9 1 (.slice (some ⟨g, 0, none⟩) n cap) n xs) (hys : ys.length = 1) (hvb : w.heap[vb]? = some (.cells ys.toArray 9 (0, 0)))
    (h1 : ∀ u ∈ ys, u.oneCell' = true) (h1x : ∀ u ∈ xs, u.oneCell' = true) (hn : n ≤ 1000000) (hi : i < n) (hroom : cap < n + 1) (hbase : base ≤ w.heap.size) :
    Calls Yba.prog 22 #[.slice (some ⟨g, 0, none⟩) n cap, .int .i64 (i : Int), .slice (some ⟨vb, 0, none⟩) 1 1] w (InsPost w base 9 1 (.slice (some ⟨g, 0, none⟩) n cap) n (xs.take (i) ++ ys ++ xs.drop (i))) := by
  obtain ⟨i0, hi0, hz0, hzs, hzb⟩ := info_parts info
  obtain ⟨hxl, hv⟩ := how
  rcases hv with ⟨hv, _⟩ | ⟨g', cap', cur, hv, hg1, hg2, hg3, hg4, hg5, hg6⟩
  · cases hv
  injection hv with e1 _ e3
  injection e1 with e1
  injection e1 with e1
  subst e1; subst e3
  unfold maxLen at hg4
  have hgw : g < w.heap.size := hp_lt hg2
  have hvw : vb < w.heap.size := hp_lt hvb
  have hkk : (n : Int) + 1 - (i : Int) = ((n + 1 - i : Nat) : Int) := by omega
  have hik : i + (n + 1 - i) = n + 1 := by omega
  have hold : (Builtin.firstCells i0.size i (.slice (some ⟨g, 0, none⟩) i cap)).run Yba.prog w.drew = .ok (xs.take (i)).toArray w.drew := by
    rw [hzs]
    exact run_firstCells_some w.drew 1 i ⟨g, 0, none⟩ i cap (xs.take (i)) (by rw [List.length_take, hxl]; omega) (fun j u hj => by
      rw [Addr.add_lit, Nat.zero_add]
      rw [List.getElem?_take] at hj
      split at hj
      · exact take_cells hg2 hg6 j u hj
      · cases hj)
  have hrz : ∀ ty, (Builtin.append_ #[42, 3] ty #[.slice (some ⟨g, 0, none⟩) i cap, .int .i64 ((n : Int) + 1 - (i : Int))]).run Yba.prog w =
      .ok (.slice (some ⟨w.heap.size, 0, none⟩) (n + 1) (grownCap w (n + 1) cap 9)) (w.drew.alloc (.cells ((xs.take (i)).toArray ++ Builtin.zeroCells (Value.cells (.string ⟨#[]⟩)) (n + 1 - i) ++ Builtin.zeroCells (Value.cells (.string ⟨#[]⟩)) (grownCap w (n + 1) cap 9 - (n + 1))) 9)) := fun ty => by
    have h := Lib.run_append_grow_zeros w 42 3 ty 9 i0 _ .i64 .i64 Yba.underlying42 Yba.underlying3 hi0 hz0 (some ⟨g, 0, none⟩) i cap (xs.take (i)) hold (n + 1 - i) (by omega) (by omega) (by omega) (by omega) (by rw [hzb]; omega) (by rw [hzb, hik]; exact growslice_fits hroom (by omega))
    rw [hik] at h
    rw [hkk]
    exact h
  have hGn : n + 1 ≤ grownCap w (n + 1) cap 9 := grownCap_ge w _ _ _
  have hG63 : grownCap w (n + 1) cap 9 ≤ 9223372036854775807 := by
    have := grownCap_le_maxLen w (n + 1) cap 9 (by unfold maxLen; omega)
    unfold maxLen at this
    omega
  generalize grownCap w (n + 1) cap 9 = G at hrz hGn hG63
  obtain ⟨ROW, hROW⟩ : ∃ ROW : Array Value, ROW = (xs.take (i)).toArray ++ Builtin.zeroCells (Value.cells (.string ⟨#[]⟩)) (n + 1 - i) ++ Builtin.zeroCells (Value.cells (.string ⟨#[]⟩)) (G - (n + 1)) := ⟨_, rfl⟩
  rw [← hROW] at hrz
  have hzc : (Value.cells (.string ⟨#[]⟩)).size = 1 := rfl
  have hRl : ROW.size = G * 1 := by
    rw [hROW, Array.size_append, Array.size_append, zeroCells_size, zeroCells_size, hzc]
    simp only [List.size_toArray, List.length_take, hxl]
    omega
  have hRt : ROW.toList.take (i) = xs.take (i) := by
    rw [hROW, Array.toList_append, Array.toList_append, List.append_assoc, List.take_append_of_le_length (by simp only [List.length_take, hxl]; omega)]
    rw [List.take_take, Nat.min_self]
  obtain ⟨W1, hW1⟩ : ∃ W1, W1 = w.drew.alloc (.cells ROW 9) := ⟨_, rfl⟩
  rw [← hW1] at hrz
  have hW1n : W1.heap[w.heap.size]? = some (.cells ROW 9 (0, 0)) := by rw [hW1]; exact hp_alloc_new w.drew _
  have hW1v : W1.heap[vb]? = some (.cells ys.toArray 9 (0, 0)) := by rw [hW1, hp_alloc_lt w.drew _ _ hvw]; exact hvb
  have hW1g : W1.heap[g]? = some (.cells cur 9 (0, 0)) := by rw [hW1, hp_alloc_lt w.drew _ _ hgw]; exact hg2
  have hdl : (xs.drop (i)).length = (n - i) * 1 := by rw [List.length_drop, hxl]; omega
  have hcpA : ∀ ty dc, (Builtin.copy_ #[42, 42] ty #[.slice (some ⟨w.heap.size, i, none⟩) (n + 1 - i) dc, .slice (some ⟨vb, 0, none⟩) 1 1]).run Yba.prog W1 = .ok (goInt ((1 : Nat) : Int)) (W1.setCells w.heap.size (i) ys) := fun ty dc =>
    run_copy_blk W1 42 ty 9 i0 1 Yba.underlying42 hi0 hzs w.heap.size _ _ dc ⟨vb, 0, none⟩ 1 1 ROW 9 ys 1 (by simp only [Nat.min_def]; split <;> omega) hW1n (by rw [hys])
      (fun j u hj => by rw [Addr.add_lit, Nat.zero_add, hp_cell hW1v]; simpa using hj)
      (by rw [hys, hRl]; omega) h1
  obtain ⟨W2, hW2⟩ : ∃ W2, W2 = W1.setCells w.heap.size (i) ys := ⟨_, rfl⟩
  rw [← hW2] at hcpA
  have hps1 : (putAt ROW (i) ys).size = G * 1 := by rw [putAt_size _ _ _ (by rw [hys, hRl]; omega), hRl]
  have hW2n : W2.heap[w.heap.size]? = some (.cells (putAt ROW (i) ys) 9 (0, 0)) := by rw [hW2]; exact hp_sets_same _ _ _ _ _ _ _ hW1n (by rw [hys, hRl]; omega)
  have hW2g : W2.heap[g]? = some (.cells cur 9 (0, 0)) := by rw [hW2, hp_sets_ne _ _ _ _ _ (by omega)]; exact hW1g
  have hcpB : ∀ ty dc sc, (Builtin.copy_ #[42, 42] ty #[.slice (some ⟨w.heap.size, (i + 1), none⟩) (n - i) dc, .slice (some ⟨g, i, none⟩) (n - i) sc]).run Yba.prog W2.drew = .ok (goInt ((n - i : Nat) : Int)) (W2.drew.setCells w.heap.size ((i + 1)) (xs.drop (i))) := fun ty dc sc =>
    run_copy_blk W2.drew 42 ty 9 i0 1 Yba.underlying42 hi0 hzs w.heap.size _ _ dc ⟨g, i, none⟩ _ sc (putAt ROW (i) ys) 9 (xs.drop (i)) (n - i) (by simp only [Nat.min_def]; split <;> omega) hW2n hdl
      (fun j u hj => by rw [Addr.add_lit]; exact take_cells (w := W2.drew) hW2g hg6 _ u (by rwa [List.getElem?_drop] at hj))
      (by rw [hdl, hps1]; omega) (fun u hu => h1x u (List.mem_of_mem_drop hu))
  have hfin : InsPost w base 9 1 (.slice (some ⟨g, 0, none⟩) n cap) n (xs.take (i) ++ ys ++ xs.drop (i)) (.returned (.slice (some ⟨w.heap.size, 0, none⟩) (n + 1) G)) (W2.drew.setCells w.heap.size ((i + 1)) (xs.drop (i))) := by
    refine ⟨_, w.heap.size, rfl, ⟨?_, .inr ⟨w.heap.size, G, _, rfl, hbase, hp_sets_same _ _ _ W2.drew _ _ _ hW2n (by rw [hdl, hps1]; omega), by omega, by unfold maxLen; omega, by rw [putAt_size _ _ _ (by rw [hdl, hps1]; omega), hps1], ?_⟩⟩, ?_, rfl, .inr (Nat.le_refl _)⟩
    · simp only [List.length_append, List.length_take, hdl, hys, hxl]; omega
    · have hh := grow_cells ROW xs ys n i 1 hxl (by rw [hRl]; omega) (by simpa using hRt) hys hi
      simp only [Nat.mul_one] at hh ⊢
      exact hh
    · refine grown_sets_new ?_ _ _ _ (Nat.le_refl _)
      refine grown_drew ?_
      rw [hW2]
      refine grown_sets_new ?_ _ _ _ (Nat.le_refl _)
      rw [hW1]
      exact grown_alloc (grown_drew (grown_refl w _)) _
  obtain ⟨zs, hzs'⟩ : ∃ zs, zs = xs.take (i) ++ ys ++ xs.drop (i) := ⟨_, rfl⟩
  rw [← hzs'] at hfin ⊢
  have HF := Hid.intro hfin
  have hz3 : (cap : Int) < (n : Int) + 1 := by omega
  have hz2 : ¬ ((i : Int) = (n : Int)) := by omega
  have hGi : ¬ (G = i) := by omega
  have hGim : ¬ (G = i + 1) := by omega
  have hci : ¬ (cap = i) := by omega
  have hw1 : IntKind.i64.wrap ((i : Int) + 1) = (i : Int) + 1 := by rw [IntKind.wrap_i64]; omega
  have hb1 : (0 : Int) ≤ (i : Int) + 1 := by omega
  have htn : ((i : Int) + 1).toNat = i + 1 := by omega
  have hb3 : (i : Int) ≤ (n : Int) := by omega
  clear hfin hzs' hW2n hW2g hps1 hW1n hW1v hW1g hRt hRl hROW hold hkk hik hg2 hg6 hvb hW1 hW2
  go_enter Yba.func22, Yba.ntmps22
  go_wp2_with (first
    | (at_builtin; refine Lib.wpList_append_run _ rfl _ _ _ _ rfl _ _ rfl rfl _ _ (hrz _) ?_)
    | (at_builtin; refine wpList_copy_run _ rfl _ _ 42 42 rfl _ _ rfl rfl (hcpA _ _) ?_))
  go_region_law (refine step_copy_run rfl _ _ 42 42 rfl _ _ (by simp [Act.eval, Act.put]) (by simp [Act.eval, Act.put]) (hcpB _ _ _) ?_)
  go_wp2_with fail
  go_ret
  exact HF.out

/-- slices.Insert(s, i, x), whatever the capacity. -/
theorem ins_any (base n i vb : Nat) (v : Value) (xs ys : List Value) (w : World) (how : w.ownsRow base 9 1 v n xs) (hys : ys.length = 1) (hvb : w.heap[vb]? = some (.cells ys.toArray 9 (0, 0))) (hne : v.ownBlock ≠ some vb)
    (h1 : ∀ u ∈ ys, u.oneCell' = true) (h1x : ∀ u ∈ xs, u.oneCell' = true) (hn : n ≤ 1000000) (hi : i ≤ n) (hbase : base ≤ w.heap.size) :
    Calls Yba.prog 22 #[v, .int .i64 (i : Int), .slice (some ⟨vb, 0, none⟩) 1 1] w (InsPost w base 9 1 v n (xs.take (i) ++ ys ++ xs.drop (i))) := by
  by_cases hin : i = n
  · subst hin
    have hxl := how.1
    have e1 : xs.take (i) ++ ys ++ xs.drop (i) = xs ++ ys := by
      rw [List.take_of_length_le (by omega), List.drop_of_length_le (by omega), List.append_nil]
    rw [e1]
    exact ins_end base i vb v xs ys w how (by omega) (fun j u hj => by rw [Addr.add_lit, Nat.zero_add, hp_cell hvb]; simpa using hj) h1 hn hbase
  · have how' := how
    obtain ⟨hxl, hv⟩ := how'
    rcases hv with ⟨_, hv⟩ | ⟨g, cap, cur, rfl, _⟩
    · omega
    · by_cases hroom : n + 1 ≤ cap
      · exact ins_shift base n i vb g cap xs ys w how hys hvb (fun e => hne (by rw [e]; rfl)) h1 h1x hn (by omega) hroom
      · exact ins_grow base n i vb g cap xs ys w how hys hvb h1 h1x hn (by omega) (by omega) hbase
end Go.Proofs.Ybulkckvy.InsS
