import Derived.Test.YbulkckvyIdx3
set_option linter.unusedVariables false
set_option linter.unusedSimpArgs false
namespace Go.Proofs.Ybulkckvy
open Go.RowKit
attribute [local go_sem ↓] Go.wp_at_zero Go.wp_at_succ

def cur0 : Obj := .cells #[.pointer none, .pointer none, .int .i64 0] 55
/-- The index's block and the result's cell (in the block rb), with the root root. -/
structure Live (xb rb root : Nat) (a0 a1 a2 a3 : Value) (w : World) : Prop where
  x : w.heap[xb]? = some (.cells #[a0, a1, a2, a3, .bool true, .bool true, .pointer (some ⟨root, 0, none⟩)] 48 (0, 0))
  r : w.heap[rb]? = some (.cells #[.pointer none, .pointer none, .int .i64 0] 55 (0, 0))
theorem Live.c6 {xb rb root : Nat} {a0 a1 a2 a3 : Value} {w : World} (h : Live xb rb root a0 a1 a2 a3 w) : w.cell? ⟨xb, 6, none⟩ = some (.pointer (some ⟨root, 0, none⟩)) ∧ w.frozen? ⟨xb, 6, none⟩ = false := ⟨by rw [hp_cell h.x]; rfl, hp_frozen h.x _⟩
theorem Live.fr {xb rb root : Nat} {a0 a1 a2 a3 : Value} {w w' : World} {F : List Nat} (h : Live xb rb root a0 a1 a2 a3 w) (hF : Fr F w w') (h1 : xb ∉ F) (h2 : rb ∉ F) : Live xb rb root a0 a1 a2 a3 w' := ⟨hF.some h.x h1, hF.some h.r h2⟩
theorem Live.set {xb rb root : Nat} {a0 a1 a2 a3 : Value} {w : World} (h : Live xb rb root a0 a1 a2 a3 w) (c : Nat) : Live xb rb c a0 a1 a2 a3 (w.setCell ⟨xb, 6, none⟩ (.pointer (some ⟨c, 0, none⟩))) :=
  ⟨by rw [hp_set_same _ _ _ _ _ _ _ h.x]; rfl, by rw [hp_set_ne _ _ _ _ (ty_ne h.r h.x (by decide))]; exact h.r⟩
end Go.Proofs.Ybulkckvy
