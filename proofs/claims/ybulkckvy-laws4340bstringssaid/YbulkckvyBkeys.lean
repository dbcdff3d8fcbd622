import Derived.Test.YbulkckvyEq
import Derived.Test.YbulkckvyTreeOps
set_option linter.unusedVariables false
set_option linter.unusedSimpArgs false
namespace Go.Proofs.Ybulkckvy
open Go.RowKit
attribute [local go_sem ↓] Go.wp_at_zero Go.wp_at_succ

theorem Fr.ext {w w' : World} (h : Fr [] w w') : Ext w w' := h.below (Nat.le_refl _) (by simp)
/-- append of one string. -/
theorem app_str {w W : World} (hx : Ext w W) (ty : TypeId) (v : Value) (xs : List ByteArray) (s : ByteArray) (hown : Strs W w.heap.size v xs) (hn : xs.length ≤ 100000) :
    ∃ v' w', (Builtin.append_ #[42, 42] ty #[v, .slice (some ⟨W.heap.size, 0, none⟩) 1 1]).run Yba.prog (W.alloc (.cells #[.string s] 9)) = .ok v' w' ∧ Strs w' w.heap.size v' (xs ++ [s]) ∧ Ext w w' := by
  obtain ⟨i0, hi0, hz0, hzs, hzb⟩ := info_parts InsS.info
  have hx' := hx.alloc (.cells #[.string s] 9)
  have how : Strs (W.alloc (.cells #[.string s] 9)) w.heap.size v xs := owns_ext hown ((Ext.refl W).alloc _)
  obtain ⟨v', w4, hr, hown', hgrow, hnil, hat⟩ := run_append_own_at (P := Yba.prog) (W.alloc (.cells #[.string s] 9)) w.heap.size 42 ty 9 i0 (.string ⟨#[]⟩) 1 16 Yba.underlying42 hi0 hz0 hzs hzb rfl (by decide) v xs.length (xs.map Value.string) how ⟨W.heap.size, 0, none⟩ 1 1 [.string s] rfl
    (fun j u hu => by
      cases j with
      | zero => rw [Addr.add_lit, hp_cell (hp_alloc_new W _)]; simpa using hu
      | succ j => simp at hu) (by simp [Value.oneCell']) (by unfold maxLen; omega) (by omega) hx'.le
  refine ⟨v', w4, hr, by unfold Strs; simpa using hown', ?_⟩
  have h1 : Fr [] w (W.alloc (.cells #[.string s] 9)) := Fr.of_ext hx' []
  have h2 : Fr v.ownBlock.toList (W.alloc (.cells #[.string s] 9)) w4 := Fr.of_grown hgrow _ (fun g hg => .inl (by simp [hg]))
  refine (h1.trans' h2 (fun x hxm => .inr ?_)).ext
  have hv := Option.mem_toList.1 hxm
  rcases hown.2 with ⟨q, _⟩ | ⟨g, cap, cur, q, hg, _⟩
  · rw [q] at hv; cases hv
  · rw [q] at hv
    have : g = x := by injection hv
    omega
end Go.Proofs.Ybulkckvy
