import Derived.Test.YbulkckzsDoorCast
import Derived.BigQuiet
set_option linter.unusedVariables false
set_option linter.unusedSimpArgs false
namespace Go.Proofs.YbulkckzsDoor
open Go.RowKit
attribute [local go_sem ↓] Go.wp_at_zero Go.wp_at_succ

/-- Where the data begin. -/
def dataP (g o c : Nat) : Option Addr := if c = 16 then some ⟨g, o, none⟩ else some ⟨g, o + 16, none⟩
set_option maxRecDepth 100000 in
set_option maxHeartbeats 1000000 in
theorem header_any (g o n c a l t : Nat) (C : Array Value) (w : World) (hg : w.heap[g]? = some (.cells C 5 (0, 0))) (hH : HdrAt C o a l t) (ha : 16 ≤ a) (hb : a ≤ 100) (han : a ≤ n) (hnc : n ≤ c) (hnm : n ≤ 1000000) :
    Calls Ybad.prog 21 #[.slice (some ⟨g, o, none⟩) n c] w fun e w' => e = .returned (.tuple #[.pointer (some ⟨w.heap.size, 0, none⟩), .slice (dataP g o c) (a - 16) (c - 16), .nilIface]) ∧ ∃ q, w' = (w.alloc (.view ⟨g, o, none⟩ 56)).drewN q := by
  have xA := (Ext.refl w).alloc (.view ⟨g, o, none⟩ 56)
  have hv := hp_alloc_new w (.view ⟨g, o, none⟩ 56)
  have c0 : w.cell? ⟨g, o, none⟩ = some (bv a) := by rw [hp_cell hg]; exact hH.c0
  have k1 := cast1 c0
  have k2 := cast2 (o := o) hg
  have vc := view_cell (k := 0) hv
  have fl : (w.alloc (.view ⟨g, o, none⟩ 56)).farLoad Ybad.prog ⟨w.heap.size, 0, none⟩ (Mode.plain == Mode.atomic) = _ := load_len hv (xA.some hg) hH (by omega)
  have vcq : ∀ q, ((w.alloc (.view ⟨g, o, none⟩ 56)).drewN q).cell? ⟨w.heap.size, 0, none⟩ = none := fun q => vc
  have flq : ∀ q, ((w.alloc (.view ⟨g, o, none⟩ 56)).drewN q).farLoad Ybad.prog ⟨w.heap.size, 0, none⟩ (Mode.plain == Mode.atomic) = .ok (.int .u64 (a : Int), [⟨g, o, none⟩, ⟨g, o + 1, none⟩, ⟨g, o + 2, none⟩, ⟨g, o + 3, none⟩, ⟨g, o + 4, none⟩, ⟨g, o + 5, none⟩, ⟨g, o + 6, none⟩, ⟨g, o + 7, none⟩]) := fun q => load_len (w := (w.alloc (.view ⟨g, o, none⟩ 56)).drewN q) hv (xA.some hg) hH (by omega)
  have n16 : ¬ (a : Int) < 16 := by omega
  have nn : ¬ (n : Int) < (a : Int) := by omega
  have hn0 : (0 : Int) < (n : Int) := by omega
  clear hg hH xA hv
  by_cases h16 : c = 16
  · subst h16
    have hd : dataP g o 16 = some ⟨g, o, none⟩ := rfl
    rw [hd]
    clear hd
    go_enter Ybad.func21, Ybad.ntmps21
    go_wp2_with fail
    go_quiet ((go_at_call 22; exact Calls.quiet_of_same (align16 _)))
    go_wp2_with fail
    (try simp only [Exit.inBlock, Exit.then])
    refine bodyPost_ret (v := .tuple #[.pointer (some ⟨w.heap.size, 0, none⟩), .slice (some ⟨g, o, none⟩) (a - 16) (16 - 16), .nilIface]) (by simp [results, Ybad.results21, go_sem]) rfl ?_
    exact ⟨rfl, nq, rfl⟩
  · have hd : dataP g o c = some ⟨g, o + 16, none⟩ := by simp [dataP, h16]
    rw [hd]
    clear hd
    go_enter Ybad.func21, Ybad.ntmps21
    go_wp2_with fail
    go_quiet ((go_at_call 22; exact Calls.quiet_of_same (align16 _)))
    go_wp2_with fail
    (try simp only [Exit.inBlock, Exit.then])
    refine bodyPost_ret (v := .tuple #[.pointer (some ⟨w.heap.size, 0, none⟩), .slice (some ⟨g, o + 16, none⟩) (a - 16) (c - 16), .nilIface]) (by simp [results, Ybad.results21, go_sem, h16]) rfl ?_
    exact ⟨rfl, nq, rfl⟩
end Go.Proofs.YbulkckzsDoor
