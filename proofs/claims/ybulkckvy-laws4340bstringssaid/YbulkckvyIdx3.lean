import Derived.Test.YbulkckvyIdx2
set_option linter.unusedVariables false
set_option linter.unusedSimpArgs false
namespace Go.Proofs.Ybulkckvy
open Go.RowKit
attribute [local go_sem ↓] Go.wp_at_zero Go.wp_at_succ

/-- Behind node.delete, ahead of the root's shrink. -/
def DelMid (w : World) (base xb root : Nat) (K : List ByteArray) (F : List Nat) (k : ByteArray) (v6 : Value) (w2 : World) : Prop :=
  v6 = .bool (foundB k K) ∧ ((∃ ls' ss' F', TreeAt w2 base root ls' ss' F' ∧ keysOf ls' = (if foundB k K then delK k K else K) ∧ Fr F w w2 ∧ Grows F F' w) ∨ (foundB k K = true ∧ OneLeft w F base root (delK k K) w2))
theorem DelTree.mid {w w2 : World} {base xb root : Nat} {ls : List Leaf} {ss : List ByteArray} {F : List Nat} {k : ByteArray} {e : Ending} (h : TreeAt w base root ls ss F) (hd : DelTree w base root (keysOf ls) F k e w2) : e = .returned (.bool (foundB k (keysOf ls))) ∧ DelMid w base xb root (keysOf ls) F k (.bool (foundB k (keysOf ls))) w2 := by
  rcases hd with ⟨hf, he, hx⟩ | ⟨hf, he, hT⟩
  · refine ⟨by rw [hf]; exact he, rfl, .inl ⟨ls, ss, F, h.grow hx, by rw [hf]; rfl, Fr.of_ext hx _, fun x hx => .inl hx⟩⟩
  · refine ⟨by rw [hf]; exact he, rfl, ?_⟩
    rcases hT with ⟨ls', ss', F', q1, q2, q3, q4⟩ | hO
    · exact .inl ⟨ls', ss', F', q1, by rw [hf]; exact q2, q3, q4⟩
    · exact .inr ⟨hf, hO⟩
end Go.Proofs.Ybulkckvy
