import Derived.Test.YbulkckvyDelE
set_option linter.unusedVariables false
namespace Go.Proofs.Ybulkckvy
open Go.RowKit

def nodeC (v p q c s : Value) : Array Value := #[v, p, q, c, s]

theorem make65 (m : Nat) (hm : m ≤ 65) : ∃ C : Array Value, C.size = 65 * 3 ∧ ∀ w, (Instr.makeSlice 40 (.int .i64 (m : Int)) (.int .i64 65)).run Yba.prog w = .ok (.slice (some ⟨w.heap.size, 0, none⟩) m 65) (w.alloc (.cells C 81)) := by
  obtain ⟨i, hi, hz0, hs, hby⟩ := info_parts InsE.info
  refine ⟨madeCells (Value.agg #[.string ⟨#[]⟩, .slice none 0 0, .bool false]).cells ((65 : Int).toNat * i.size), ?_, fun w => ?_⟩
  · rw [hs]; simp [madeCells]
  · have := run_make (P := Yba.prog) w 40 81 i _ Yba.underlying40 hi hz0 .i64 .i64 m 65 (by omega) (by omega) (by rw [hby]; omega) (by omega)
    simpa using this

/-- What newLeaf leaves. -/
def LeafPost (w : World) (base : Nat) (ks : List ByteArray) (e : Ending) (w' : World) : Prop :=
  e = .returned (.pointer (some ⟨w.heap.size + 1, 0, none⟩)) ∧ w'.heap[w.heap.size + 1]? = some (.cells #[.slice (some ⟨w.heap.size, 0, none⟩) ks.length 65, .pointer none, .pointer none, .slice none 0 0, .slice none 0 0] 44 (0, 0)) ∧
    Ents w' base (.slice (some ⟨w.heap.size, 0, none⟩) ks.length 65) ks ∧ Ext w w' ∧ w'.heap.size = w.heap.size + 2

theorem entsC_one : ∀ (ks : List ByteArray), ∀ u ∈ entsC ks, u.oneCell' = true
  | [], u, h => by simp [entsC] at h
  | k :: ks, u, h => by
    simp only [entsC, List.mem_cons] at h
    rcases h with rfl | rfl | rfl | h
    · rfl
    · rfl
    · rfl
    · exact entsC_one ks u h

set_option maxRecDepth 100000 in
theorem newLeaf_some (base : Nat) (a : Addr) (c : Nat) (ks : List ByteArray) (w : World) (hk : ks.length ≤ 65) (hb : base ≤ w.heap.size) (hsrc : ∀ j u, (entsC ks)[j]? = some u → w.cell? (a.add j) = some u) :
    Calls Yba.prog 27 #[.slice (some a) ks.length c] w (LeafPost w base ks) := by
  obtain ⟨i0, hi0, hz0, hzs, hzb⟩ := info_parts InsE.info
  obtain ⟨C, hC, hmk⟩ := make65 ks.length hk
  obtain ⟨W1, hW1⟩ : ∃ W1, W1 = (w.alloc (.cells C 81)).alloc (.cells #[.slice (some ⟨w.heap.size, 0, none⟩) ks.length 65, .pointer none, .pointer none, .slice none 0 0, .slice none 0 0] 44) := ⟨_, rfl⟩
  have hs1 : W1.heap.size = w.heap.size + 2 := by rw [hW1, hp_alloc_size, hp_alloc_size]
  have hx1 : Ext w W1 := by rw [hW1]; exact ((Ext.refl w).alloc _).alloc _
  have hn1 : W1.heap[w.heap.size + 1]? = some (.cells #[.slice (some ⟨w.heap.size, 0, none⟩) ks.length 65, .pointer none, .pointer none, .slice none 0 0, .slice none 0 0] 44 (0, 0)) := by
    have := hp_alloc_new (w.alloc (.cells C 81)) (.cells #[.slice (some ⟨w.heap.size, 0, none⟩) ks.length 65, .pointer none, .pointer none, .slice none 0 0, .slice none 0 0] 44)
    rw [hp_alloc_size] at this
    rw [hW1]; exact this
  have hr1 : W1.heap[w.heap.size]? = some (.cells C 81 (0, 0)) := by rw [hW1, hp_alloc_lt _ _ _ (by rw [hp_alloc_size]; omega), hp_alloc_new]
  have hl := entsC_length ks
  have hcp : ∀ ty, (Builtin.copy_ #[40, 40] ty #[.slice (some ⟨w.heap.size, 0, none⟩) ks.length 65, .slice (some a) ks.length c]).run Yba.prog W1 = .ok (goInt (ks.length : Int)) (W1.setCells w.heap.size 0 (entsC ks)) := fun ty =>
    run_copy_blk W1 40 ty 81 i0 3 Yba.underlying40 hi0 hzs w.heap.size 0 _ 65 a _ c C 81 (entsC ks) ks.length (Nat.min_self _) hr1 hl
      (fun j u hj => by have h := hsrc j u hj; rw [hp_cell_eq (w := w) (hx1.block (hp_cell_lt h))]; exact h) (by omega) (entsC_one ks)
  have hfin : LeafPost w base ks (.returned (.pointer (some ⟨w.heap.size + 1, 0, none⟩))) (W1.setCells w.heap.size 0 (entsC ks)) := by
    refine ⟨rfl, by rw [hp_sets_ne _ _ _ _ _ (by omega)]; exact hn1, ⟨hl, .inr ⟨w.heap.size, 65, _, rfl, hb, hp_sets_same _ _ _ _ _ _ _ hr1 (by omega), hk, by unfold maxLen; omega, by rw [putAt_size _ _ _ (by omega), hC], ?_⟩⟩, ?_, by rw [hp_sets_size]; exact hs1⟩
    · simp only [putAt, List.take_zero, List.nil_append]
      rw [← hl]; simp
    · have g := grown_sets_new (r := none) (show w.grownBy W1 none from ⟨hx1.os, hx1.tape, hx1.output, hx1.size, fun k hk _ => hx1.block hk⟩) w.heap.size 0 (entsC ks) (Nat.le_refl _)
      exact ⟨g.os, g.tape, g.output, g.size, fun k hk => g.block k hk (by simp)⟩
  have HF := Hid.intro hfin
  have c0 : W1.cell? ⟨w.heap.size + 1, 0, none⟩ = some (.slice (some ⟨w.heap.size, 0, none⟩) ks.length 65) := by rw [hp_cell hn1]; rfl
  subst hW1
  clear hfin hn1 hr1 hx1 hs1 hl hsrc
  go_enter Yba.func27, Yba.ntmps27
  go_wp2_with (at_builtin; refine wpList_copy_run _ rfl _ _ 40 40 rfl _ _ rfl rfl (hcp _) ?_)
  go_ret
  exact HF.out

set_option maxRecDepth 100000 in
theorem newLeaf_nil (base : Nat) (w : World) (hb : base ≤ w.heap.size) :
    Calls Yba.prog 27 #[.slice none 0 0] w (LeafPost w base []) := by
  obtain ⟨i0, hi0, hz0, hzs, hzb⟩ := info_parts InsE.info
  obtain ⟨C, hC, hmk0⟩ := make65 0 (by omega)
  have hmk : ∀ w, (Instr.makeSlice 40 (.int .i64 0) (.int .i64 65)).run Yba.prog w = .ok (.slice (some ⟨w.heap.size, 0, none⟩) 0 65) (w.alloc (.cells C 81)) := hmk0
  clear hmk0
  obtain ⟨W1, hW1⟩ : ∃ W1, W1 = (w.alloc (.cells C 81)).alloc (.cells #[.slice (some ⟨w.heap.size, 0, none⟩) 0 65, .pointer none, .pointer none, .slice none 0 0, .slice none 0 0] 44) := ⟨_, rfl⟩
  have hs1 : W1.heap.size = w.heap.size + 2 := by rw [hW1, hp_alloc_size, hp_alloc_size]
  have hx1 : Ext w W1 := by rw [hW1]; exact ((Ext.refl w).alloc _).alloc _
  have hn1 : W1.heap[w.heap.size + 1]? = some (.cells #[.slice (some ⟨w.heap.size, 0, none⟩) 0 65, .pointer none, .pointer none, .slice none 0 0, .slice none 0 0] 44 (0, 0)) := by
    have := hp_alloc_new (w.alloc (.cells C 81)) (.cells #[.slice (some ⟨w.heap.size, 0, none⟩) 0 65, .pointer none, .pointer none, .slice none 0 0, .slice none 0 0] 44)
    rw [hp_alloc_size] at this
    rw [hW1]; exact this
  have hr1 : W1.heap[w.heap.size]? = some (.cells C 81 (0, 0)) := by rw [hW1, hp_alloc_lt _ _ _ (by rw [hp_alloc_size]; omega), hp_alloc_new]
  have hcp : ∀ ty, (Builtin.copy_ #[40, 40] ty #[.slice (some ⟨w.heap.size, 0, none⟩) 0 65, .slice none 0 0]).run Yba.prog W1 = .ok (goInt 0) W1 := fun ty =>
    run_copy_nil Yba.prog W1 40 40 ty 81 ⟨w.heap.size, 0, none⟩ 0 65 Yba.underlying40 (by rw [hi0]; rfl)
  have hfin : LeafPost w base [] (.returned (.pointer (some ⟨w.heap.size + 1, 0, none⟩))) W1 :=
    ⟨rfl, hn1, ⟨rfl, .inr ⟨w.heap.size, 65, C, rfl, hb, hr1, by simp, by unfold maxLen; omega, hC, by simp [entsC]⟩⟩, hx1, hs1⟩
  have HF := Hid.intro hfin
  have c0 : W1.cell? ⟨w.heap.size + 1, 0, none⟩ = some (.slice (some ⟨w.heap.size, 0, none⟩) 0 65) := by rw [hp_cell hn1]; rfl
  subst hW1
  clear hfin hn1 hr1 hx1 hs1
  go_enter Yba.func27, Yba.ntmps27
  go_wp2_with (at_builtin; refine wpList_copy_run _ rfl _ _ 40 40 rfl _ _ rfl rfl (hcp _) ?_)
  go_ret
  exact HF.out
end Go.Proofs.Ybulkckvy
