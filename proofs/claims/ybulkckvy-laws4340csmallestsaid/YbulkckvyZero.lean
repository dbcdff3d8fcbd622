import Derived.Test.YbulkckvyProg
import Derived.KernelRfl
import Derived.WalkKit
namespace Go.Proofs.Ybulkckvy

theorem zero74 : Yba.zeroCells74.size = 1000 := by kernel_rfl
def isF : Option Value → Bool
  | some (.bool false) => true
  | _ => false
theorem isF_eq : ∀ o, isF o = true → o = some (.bool false)
  | some (.bool false), _ => rfl
theorem zero74get (n : Nat) (hn : n < 1000) : Yba.zeroCells74[n]? = some (.bool false) := by
  have h : (List.range 1000).all (fun n => isF Yba.zeroCells74[n]?) = true := by kernel_rfl
  exact isF_eq _ (List.all_eq_true.1 h n (List.mem_range.2 hn))

end Go.Proofs.Ybulkckvy
