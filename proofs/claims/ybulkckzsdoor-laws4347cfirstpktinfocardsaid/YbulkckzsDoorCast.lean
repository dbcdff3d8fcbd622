import Derived.Test.YbulkckzsDoorView
import Derived.Laws.LoneSync
set_option linter.unusedVariables false
set_option linter.unusedSimpArgs false
namespace Go.Proofs.YbulkckzsDoor
open Go.RowKit

theorem sl5 : sameLayout Ybad.prog Ybad.prog.depth 5 56 = false := by kernel_rfl
theorem depth_succ : ∃ d, Ybad.prog.depth = d + 1 := ⟨_, rfl⟩
theorem row5 (d count off : Nat) : rowAt Ybad.prog (sameLayout Ybad.prog Ybad.prog.depth · 56) (d + 1) 5 count off 1 = false := by
  simp [rowAt, ce5, sl5, Ybad.underlying5]
theorem lies5 (count off : Nat) : liesAt Ybad.prog Ybad.prog.depth 5 count off 56 1 = false := by
  obtain ⟨d, hd⟩ := depth_succ
  have h : ∀ e, liesAt Ybad.prog (e + 1) 5 count off 56 1 = false := fun e => by
    simp only [liesAt]
    rw [hd, Ybad.underlying56]
    have := row5 d count off
    rw [hd] at this
    simp [this]
  rw [hd]; exact h d
theorem hs5 : Ybad.prog.holdsStoodIn Ybad.prog.depth 5 = false := by kernel_rfl
theorem i56 : (Ybad.prog.info? 56).map (fun i => decide (i.size = 0)) = some false := by kernel_rfl
theorem i5 : (Ybad.prog.info? 5).map (fun i => decide (i.size = 0)) = some false := by kernel_rfl
theorem cast1 {w : World} {g o : Nat} {v : Value} (h : w.cell? ⟨g, o, none⟩ = some v) : (convert 85 100 (.pointer (some ⟨g, o, none⟩))).run Ybad.prog w = .ok (.pointer (some ⟨g, o, none⟩)) w :=
  run_convert_to_unsafe Ybad.underlying85 Ybad.underlying100 i5 h
theorem cast2 {w : World} {g o : Nat} {C : Array Value} (h : w.heap[g]? = some (.cells C 5 (0, 0))) : (convert 100 97 (.pointer (some ⟨g, o, none⟩))).run Ybad.prog w = .ok (.pointer (some ⟨w.heap.size, 0, none⟩)) (w.alloc (.view ⟨g, o, none⟩ 56)) := by
  have hsh : w.shape? g = some (5, C.size) := by simp [World.shape?, h]
  obtain ⟨i, hi, hz0⟩ := Option.map_eq_some_iff.1 i56
  have hz : i.size ≠ 0 := by simpa using hz0
  simp [convert, Conv.unsafePointer, Conv.seenAt, viewAt, variablesAt, sizeOf, typeInfo, run_underlying Ybad.underlying100, run_underlying Ybad.underlying97, hi, hz, hsh, lies5, hs5, Result.andThen]
end Go.Proofs.YbulkckzsDoor
