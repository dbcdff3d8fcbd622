import Derived.Test.YbulkckzsDoorProg
import Derived.Test.YbulkckzsDoorHeap
import Derived.Deep.DeepCutAuto
import Derived.Deep.DrawnRows
import Derived.Laws.Bits64b
set_option linter.unusedVariables false
set_option linter.unusedSimpArgs false
namespace Go.Proofs.YbulkckzsDoor
open Go.RowKit

theorem align_bits : ∀ n : Fin 101, bits .and .i64 (((n : Nat) : Int) + 8 - 1) (bits .xor .i64 (-1) 7) = ((((n : Nat) + 7) / 8 * 8 : Nat) : Int) := by decide +kernel
theorem align_any (n : Nat) (hn : n ≤ 100) (w : World) : Calls Ybad.prog 22 #[.int .i64 (n : Int)] w fun e w' => e = .returned (.int .i64 (((n + 7) / 8 * 8 : Nat) : Int)) ∧ w' = w := by
  have hb := align_bits ⟨n, by omega⟩
  generalize hm : (((n + 7) / 8 * 8 : Nat) : Int) = m
  have hb' : bits .and .i64 ((n : Int) + 8 - 1) (bits .xor .i64 (-1) 7) = m := hb.trans hm
  clear hb hm
  go_enter Ybad.func22, Ybad.ntmps22
  go_wp2_with fail
  go_ret
  exact ⟨rfl, rfl⟩
theorem align16 (w : World) : Calls Ybad.prog 22 #[.int .i64 16] w fun e w' => e = .returned (.int .i64 16) ∧ w' = w := align_any 16 (by omega) w
theorem cmsgLen0 (w : World) : Calls Ybad.prog 20 #[.int .i64 0] w fun e w' => e = .returned (.int .i64 16) ∧ w' = w := by
  go_enter Ybad.func20, Ybad.ntmps20
  go_wp2_with (go_at_call 22; refine (align16 _).mono ?_; rintro e w' ⟨rfl, rfl⟩)
  go_ret
  exact ⟨rfl, rfl⟩
end Go.Proofs.YbulkckzsDoor
