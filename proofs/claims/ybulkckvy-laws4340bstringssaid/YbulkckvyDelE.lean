import Derived.Test.YbulkckvyInsE
set_option linter.unusedVariables false
namespace Go.Proofs.Ybulkckvy.InsE
open Go.RowKit
attribute [local go_sem ↓] Go.wp_at_zero Go.wp_at_succ

set_option maxRecDepth 100000 in
set_option maxHeartbeats 2000000 in
/-- slices.Delete(s, i, j), i < j. -/
theorem del_any (base n i j g cap : Nat) (xs : List Value) (w : World) (how : w.ownsRow base 81 3 (.slice (some ⟨g, 0, none⟩) n cap) n xs)
    (h1x : ∀ u ∈ xs, u.oneCell' = true) (hn : n ≤ 1000000) (hij : i < j) (hj : j ≤ n) :
    Calls Yba.prog 41 #[.slice (some ⟨g, 0, none⟩) n cap, .int .i64 (i : Int), .int .i64 (j : Int)] w fun e w' => e = .returned (.slice (some ⟨g, 0, none⟩) (i + (n - j)) cap) ∧
      w'.ownsRow base 81 3 (.slice (some ⟨g, 0, none⟩) (i + (n - j)) cap) (i + (n - j)) (xs.take (i * 3) ++ xs.drop (j * 3)) ∧ w.grownBy w' (some g) := by
  obtain ⟨i0, hi0, hz0, hzs, hzb⟩ := info_parts info
  obtain ⟨hxl, hv⟩ := how
  rcases hv with ⟨hv, _⟩ | ⟨g', cap', cur, hv, hg1, hg2, hg3, hg4, hg5, hg6⟩
  · cases hv
  injection hv with e1 _ e3
  injection e1 with e1
  injection e1 with e1
  subst e1; subst e3
  unfold maxLen at hg4
  have hdl : (xs.drop (j * 3)).length = (n - j) * 3 := by rw [List.length_drop, hxl]; omega
  have hzc : (Value.cells (.agg #[.string ⟨#[]⟩, .slice none 0 0, .bool false])).size = 3 := rfl
  obtain ⟨AD, hAD, hsrc⟩ : ∃ AD, (if cap = j then some (⟨g, 0, none⟩ : Addr) else some ⟨g, j * 3, none⟩) = some AD ∧ ∀ t u, (xs.drop (j * 3))[t]? = some u → w.drew.cell? (AD.add t) = some u := by
    by_cases hcj : cap = j
    · refine ⟨⟨g, 0, none⟩, by rw [if_pos hcj], fun t u ht => ?_⟩
      have : (xs.drop (j * 3)).length = 0 := by rw [hdl]; omega
      rw [List.eq_nil_of_length_eq_zero this] at ht; cases ht
    · refine ⟨⟨g, j * 3, none⟩, by rw [if_neg hcj], fun t u ht => ?_⟩
      rw [Addr.add_lit]; exact take_cells (w := w.drew) hg2 hg6 _ u (by rwa [List.getElem?_drop] at ht)
  have happ : ∀ ty sc, (Builtin.append_ #[40, 40] ty #[.slice (some ⟨g, 0, none⟩) i cap, .slice (some AD) (n - j) sc]).run Yba.prog w.drew = .ok (.slice (some ⟨g, 0, none⟩) (i + (n - j)) cap) (w.drew.setCells g (i * 3) (xs.drop (j * 3))) := fun ty sc => by
    have h := run_append_room_cells (P := Yba.prog) w.drew 40 ty 81 i0 Yba.underlying40 hi0 g 0 i cap AD (n - j) sc (xs.drop (j * 3)) (by rw [hzs]; exact hdl) hsrc (fun u hu => h1x u (List.mem_of_mem_drop hu)) (by omega)
      (fun t ht => by rw [hp_cell (w := w.drew) hg2, Array.getElem?_eq_getElem (by rw [hzs]; omega)]; rfl) (fun t ht => hp_frozen (w := w.drew) hg2 _)
    rw [hzs, Nat.zero_add] at h
    exact h
  obtain ⟨W1, hW1⟩ : ∃ W1, W1 = w.drew.setCells g (i * 3) (xs.drop (j * 3)) := ⟨_, rfl⟩
  rw [← hW1] at happ
  have hW1g : W1.heap[g]? = some (.cells (putAt cur (i * 3) (xs.drop (j * 3))) 81 (0, 0)) := by
    rw [hW1]; exact hp_sets_same _ _ _ w.drew _ _ _ hg2 (by rw [hdl, hg5]; omega)
  have hps : (putAt cur (i * 3) (xs.drop (j * 3))).size = cap * 3 := by rw [putAt_size _ _ _ (by rw [hdl, hg5]; omega), hg5]
  have hzl : (Builtin.zeroCells (Value.cells (.agg #[.string ⟨#[]⟩, .slice none 0 0, .bool false])) (n - (i + (n - j)))).toList.length = (n - (i + (n - j))) * 3 := by rw [Array.length_toList, zeroCells_size, hzc]
  have hclr : ∀ ty c, (Builtin.clear_ #[40] ty #[.slice (some ⟨g, (i + (n - j)) * 3, none⟩) (n - (i + (n - j))) c]).run Yba.prog W1 = .ok (.tuple #[]) (W1.setCells g ((i + (n - j)) * 3) (Builtin.zeroCells (Value.cells (.agg #[.string ⟨#[]⟩, .slice none 0 0, .bool false])) (n - (i + (n - j)))).toList) := fun ty c =>
    run_clear_blk W1 40 ty 81 i0 _ Yba.underlying40 hi0 hz0 g _ _ c _ 81 hW1g (by rw [hzc, hps]; omega) (zeroCells_one _ _ (by decide)) (by omega)
  obtain ⟨W2, hW2⟩ : ∃ W2, W2 = W1.setCells g ((i + (n - j)) * 3) (Builtin.zeroCells (Value.cells (.agg #[.string ⟨#[]⟩, .slice none 0 0, .bool false])) (n - (i + (n - j)))).toList := ⟨_, rfl⟩
  rw [← hW2] at hclr
  have hfin : W2.ownsRow base 81 3 (.slice (some ⟨g, 0, none⟩) (i + (n - j)) cap) (i + (n - j)) (xs.take (i * 3) ++ xs.drop (j * 3)) ∧ w.grownBy W2 (some g) := by
    refine ⟨⟨by simp only [List.length_append, List.length_take, hdl, hxl]; omega, .inr ⟨g, cap, _, rfl, hg1, by rw [hW2]; exact hp_sets_same _ _ _ W1 _ _ _ hW1g (by rw [hzl, hps]; omega), by omega, by unfold maxLen; omega, by rw [putAt_size _ _ _ (by rw [hzl, hps]; omega), hps], ?_⟩⟩, ?_⟩
    · exact close_cells cur xs (Builtin.zeroCells (Value.cells (.agg #[.string ⟨#[]⟩, .slice none 0 0, .bool false])) (n - (i + (n - j)))).toList n i j (i + (n - j)) cap 3 hxl hg5 hg6 (by omega) hj hg3 rfl
    · rw [hW2]
      refine grown_trans ?_ (sets_grown g _ _ W1)
      rw [hW1]
      exact grown_trans (grown_drew (grown_refl w _)) (sets_grown g _ _ w.drew)
  have HF := Hid.intro hfin
  have hne : ((i : Int) == (j : Int)) = false := beq_eq_false_iff_ne.2 (by omega)
  have hc1 : ¬ (cap = i + (n - j)) := by omega
  have hi1 : (i : Int) ≤ (j : Int) := by omega
  have hj1 : (j : Int) ≤ (n : Int) := by omega
  have hc3 : (n : Int) ≤ (cap : Int) := by omega
  have hi2 : (i : Int) ≤ (cap : Int) := by omega
  obtain ⟨zs, hzs'⟩ : ∃ zs, zs = xs.take (i * 3) ++ xs.drop (j * 3) := ⟨_, rfl⟩
  rw [← hzs'] at HF ⊢
  clear hfin hzs' hps hW1g hW1 hW2 hzl hsrc hg2 hg6
  go_enter Yba.func41, Yba.ntmps41
  go_wp2_with fail
  go_region_law (refine step_append_run rfl _ _ 40 40 rfl (.slice (some ⟨g, 0, none⟩) i cap) (.slice (some AD) (n - j) (cap - j)) (by simp [Act.eval, Act.put]) (by simp [Act.eval, Act.put]) (happ _ _) ?_)
  all_goals
    go_wp2_with (at_builtin; refine wpList_clear_run _ rfl _ 40 rfl _ rfl (hclr _ _) ?_)
    go_ret
    exact ⟨rfl, HF.out⟩
end Go.Proofs.Ybulkckvy.InsE
