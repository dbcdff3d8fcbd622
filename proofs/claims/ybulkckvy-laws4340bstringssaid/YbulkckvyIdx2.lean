import Derived.Test.YbulkckvyIdx
set_option linter.unusedVariables false
set_option linter.unusedSimpArgs false
namespace Go.Proofs.Ybulkckvy
open Go.RowKit
attribute [local go_sem ↓] Go.wp_at_zero Go.wp_at_succ

theorem TreeAt.rootOk {w : World} {base root : Nat} {ls : List Leaf} {ss : List ByteArray} {F : List Nat} (h : TreeAt w base root ls ss F) : w.cell? ⟨root, 3, none⟩ = some (.slice none 0 0) ∨ ∃ g n c, w.cell? ⟨root, 3, none⟩ = some (.slice (some ⟨g, 0, none⟩) n c) ∧ 2 ≤ n := by
  rcases h.mem with ⟨l, rfl, rfl, rfl, hL, rfl⟩ | ⟨hs, vc, vs, hI, rfl⟩
  · exact .inl hL.cell3
  · have hlen := h.good.len
    rw [kss_len] at hlen
    obtain ⟨g, c, hv, _⟩ := hI.ch.form (by simp; omega)
    exact .inr ⟨g, _, c, by rw [hI.toG.cell3, hv], by simp; omega⟩
theorem OneLeft.tree {w w' : World} {F : List Nat} {base root : Nat} {K : List ByteArray} (hb : base ≤ w.heap.size) (h : OneLeft w F base root K w') : ∃ (l : Leaf) (g cc : Nat), w'.cell? ⟨root, 3, none⟩ = some (.slice (some ⟨g, 0, none⟩) 1 cc) ∧ w'.cell? ⟨g, 0, none⟩ = some (.pointer (some ⟨l.b, 0, none⟩)) ∧ TreeAt w' base l.b [l] [] l.foot ∧ keysOf [l] = K ∧ Fr F w w' ∧ Grows F l.foot w := by
  obtain ⟨l, g, cc, h1, h2, hL, hk, hr, hle, hF, hG⟩ := h
  have := hF.size
  refine ⟨l, g, cc, h1, h2, ⟨⟨rfl, ?_, fun h2 => by simp [kssOf] at h2, fun c hc => ?_⟩, .inl ⟨l, rfl, rfl, rfl, hL, rfl⟩, by omega⟩, by simp [keysOf, kssOf, hk], hF, hG⟩
  · have : seqT (kssOf [l]) [] = l.ks.map kI := by simp [seqT, kssOf, tailI]
    rw [this, map_rising, hk]; exact hr
  · have e : c = l.ks := by simpa [kssOf] using hc
    rw [e]; exact hle
end Go.Proofs.Ybulkckvy
