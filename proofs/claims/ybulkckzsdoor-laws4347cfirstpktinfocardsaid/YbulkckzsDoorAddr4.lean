import Derived.Test.YbulkckzsDoorAddr
set_option linter.unusedVariables false
set_option linter.unusedSimpArgs false
namespace Go.Proofs.YbulkckzsDoor
open Go.RowKit
attribute [local go_sem ↓] Go.wp_at_zero Go.wp_at_succ

def lo4 (y0 y1 y2 y3 : Nat) : Int := bits .or .u64 (bits .or .u64 (bits .or .u64 (bits .or .u64 281470681743360 ((y0 : Int) * 16777216)) ((y1 : Int) * 65536)) ((y2 : Int) * 256)) (y3 : Int)
set_option maxRecDepth 100000 in
set_option maxHeartbeats 1000000 in
theorem from4 (y0 y1 y2 y3 : Nat) (z : Option Addr) (w : World) (h : y0 < 256 ∧ y1 < 256 ∧ y2 < 256 ∧ y3 < 256) (hz : w.cell? ⟨2, 0, none⟩ = some (.pointer z)) :
    Calls Ybad.prog 12 #[.agg #[bv y0, bv y1, bv y2, bv y3]] w fun e w' => e = .returned (av 0 (lo4 y0 y1 y2 y3) z) ∧ Ext w w' := by
  obtain ⟨h0, h1, h2, h3⟩ := h
  unfold av bv
  have hz' : ∀ o o', ((w.alloc o).alloc o').cell? ⟨2, 0, none⟩ = some (.pointer z) := fun o o' => ext_cell (((Ext.refl w).alloc o).alloc o') hz
  go_enter Ybad.func12, Ybad.ntmps12
  go_wp2_with fail
  (try simp only [Exit.inBlock, Exit.then])
  refine bodyPost_ret (v := .agg #[.int .u64 0, .int .u64 (lo4 y0 y1 y2 y3), .pointer z]) (by simp [results, Ybad.results12, go_sem, lo4]; try rfl) rfl ?_
  exact ⟨rfl, ((Ext.refl w).alloc _).alloc _⟩
end Go.Proofs.YbulkckzsDoor
