import Derived.Test.YbulkckvySeek4
set_option linter.unusedVariables false
set_option linter.unusedSimpArgs false
namespace Go.Proofs.Ybulkckvy
open Go.RowKit
attribute [local go_sem ↓] Go.wp_at_zero Go.wp_at_succ

/-- An index in the block xb over a tree: K its keys, F the tree's blocks. -/
structure IdxAt (w : World) (base xb : Nat) (K : List ByteArray) (F : List Nat) : Prop where
  ex : ∃ root ls ss a0 a1 a2 a3, w.heap[xb]? = some (.cells #[a0, a1, a2, a3, .bool true, .bool true, .pointer (some ⟨root, 0, none⟩)] 48 (0, 0)) ∧ TreeAt w base root ls ss F ∧ keysOf ls = K
/-- The blocks of a tree are of four types. -/
theorem TreeAt.types {w : World} {base root : Nat} {ls : List Leaf} {ss : List ByteArray} {F : List Nat} (h : TreeAt w base root ls ss F) : ∀ x ∈ F, ∃ c t, w.heap[x]? = some (.cells c t (0, 0)) ∧ (t = 44 ∨ t = 39 ∨ t = 9 ∨ t = 81) := by
  rcases h.mem with ⟨l, rfl, rfl, rfl, hL, rfl⟩ | ⟨hs, vc, vs, hI, rfl⟩
  · intro x hx
    rcases List.mem_cons.1 hx with e | e
    · exact ⟨_, _, e ▸ hL.node, .inl rfl⟩
    · obtain ⟨c, hc⟩ := own_ty hL.ents (Option.mem_toList.1 e)
      exact ⟨c, _, hc, .inr (.inr (.inr rfl))⟩
  · intro x hx
    rcases mem_footI.1 hx with e | e | e | e
    · exact ⟨_, _, e ▸ hI.node, .inl rfl⟩
    · obtain ⟨c, hc⟩ := own_ty hI.ch e; exact ⟨c, _, hc, .inr (.inl rfl)⟩
    · obtain ⟨c, hc⟩ := own_ty hI.se e; exact ⟨c, _, hc, .inr (.inr (.inl rfl))⟩
    · simp only [footL, List.mem_append] at e
      rcases e with e | e
      · obtain ⟨c, hc⟩ := (seg_ty hI.seg).1 x e; exact ⟨c, _, hc, .inl rfl⟩
      · obtain ⟨c, hc⟩ := (seg_ty hI.seg).2 x e; exact ⟨c, _, hc, .inr (.inr (.inr rfl))⟩
theorem TreeAt.out {w : World} {base root : Nat} {ls : List Leaf} {ss : List ByteArray} {F : List Nat} (h : TreeAt w base root ls ss F) {x t : Nat} {c : Array Value} (hx : w.heap[x]? = some (.cells c t (0, 0))) (ht : t ≠ 44 ∧ t ≠ 39 ∧ t ≠ 9 ∧ t ≠ 81) : x ∉ F := fun hm => by
  obtain ⟨c', t', hc', ht'⟩ := h.types x hm
  rw [hx] at hc'
  injection hc' with hc'
  injection hc' with _ e _
  rcases ht' with q | q | q | q
  · exact ht.1 (e.trans q)
  · exact ht.2.1 (e.trans q)
  · exact ht.2.2.1 (e.trans q)
  · exact ht.2.2.2 (e.trans q)
end Go.Proofs.Ybulkckvy
