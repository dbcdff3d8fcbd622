import Derived.Test.YbulkckzsDoorHdr
import Derived.Laws.StructEq
import Derived.Laws.Pointers
import Derived.LaidEqlPtr
set_option linter.unusedVariables false
set_option linter.unusedSimpArgs false
namespace Go.Proofs.YbulkckzsDoor
open Go.RowKit

theorem st31 : Ybad.prog.stoodInHeld 31 = false := by kernel_rfl
theorem st26 : Ybad.prog.stoodInHeld 26 = false := by kernel_rfl
theorem st29 : Ybad.prog.stoodInHeld 29 = false := by kernel_rfl
theorem fo31 : Ybad.prog.underlying 31 = some (.struct (Ybad.prog.fieldsOf 31)) := by unfold Program.fieldsOf; rw [Ybad.underlying31]
theorem fo26 : Ybad.prog.underlying 26 = some (.struct (Ybad.prog.fieldsOf 26)) := by unfold Program.fieldsOf; rw [Ybad.underlying26]
theorem fo29 : Ybad.prog.underlying 29 = some (.struct (Ybad.prog.fieldsOf 29)) := by unfold Program.fieldsOf; rw [Ybad.underlying29]
theorem fl31 : Ybad.prog.fieldsOf 31 = #[{ name := "addr", type := 26, offset := 0, embedded := false, tag := "", pkgPath := "net/netip", byteOffset := 0 }, { name := "z", type := 29, offset := 2, embedded := false, tag := "", pkgPath := "net/netip", byteOffset := 16 }] := by unfold Program.fieldsOf; rw [Ybad.underlying31]
theorem fl26 : Ybad.prog.fieldsOf 26 = #[{ name := "hi", type := 24, offset := 0, embedded := false, tag := "", pkgPath := "net/netip", byteOffset := 0 }, { name := "lo", type := 24, offset := 1, embedded := false, tag := "", pkgPath := "net/netip", byteOffset := 8 }] := by unfold Program.fieldsOf; rw [Ybad.underlying26]
theorem fl29 : Ybad.prog.fieldsOf 29 = #[{ name := "value", type := 27, offset := 0, embedded := false, tag := "", pkgPath := "unique", byteOffset := 0 }] := by unfold Program.fieldsOf; rw [Ybad.underlying29]
theorem pe27 : ∃ te j, Ybad.prog.underlying 27 = some (.pointer te) ∧ Ybad.prog.info? te = some j := by
  have h : (Ybad.prog.info? (Ybad.prog.pointee 27)).isSome = true := by kernel_rfl
  obtain ⟨j, hj⟩ := Option.isSome_iff_exists.1 h
  exact ⟨_, j, by unfold Program.pointee; rw [Ybad.underlying27], hj⟩
theorem ptr_same (z : Option Addr) (d : Nat) (W : World) : (Op.equalIn (d + 1) 27 (.pointer z) (.pointer z)).run Ybad.prog W = .ok true W := by
  obtain ⟨te, j, h1, h2⟩ := pe27
  cases z with
  | none => simp [Op.equalIn, run_underlying h1]
  | some a => simp [Op.equalIn, run_underlying h1, sizeOf, typeInfo, h2, run_sameAddr_same]
set_option maxRecDepth 100000 in
theorem addr_eql (h l : Int) (z : Option Addr) (W : World) : (binOp .eql 31 (.agg #[.int .u64 h, .int .u64 l, .pointer z]) (.agg #[.int .u64 h, .int .u64 l, .pointer z])).run Ybad.prog W = .ok (.bool true) W := by
  have h26 : (Op.equalIn 9999 26 (.agg #[.int .u64 h, .int .u64 l]) (.agg #[.int .u64 h, .int .u64 l])).run Ybad.prog W = .ok true W := by
    rw [run_equalIn_agg W 9998 26 _ _ fo26 st26, fl26]
    simp [go_sem, Ybad.underlying24]
  have h29 : (Op.equalIn 9999 29 (.agg #[.pointer z]) (.agg #[.pointer z])).run Ybad.prog W = .ok true W := by
    rw [run_equalIn_agg W 9998 29 _ _ fo29 st29, fl29]
    simp [go_sem, ptr_same z 9997 W]
  rw [run_eql_struct, run_equalIn_agg W 9999 31 _ _ fo31 st31, fl31]
  simp [go_sem, h26, h29, ptr_same z 9997 W]
end Go.Proofs.YbulkckzsDoor
