import Derived.Test.YbulkckzsDoorAl
set_option linter.unusedVariables false
set_option linter.unusedSimpArgs false
namespace Go.Proofs.YbulkckzsDoor
open Go.RowKit

theorem pc0 : plainCell Ybad.prog Ybad.prog.depth 56 0 = some (.int .u64 0) := by kernel_rfl
theorem pc1 : plainCell Ybad.prog Ybad.prog.depth 56 1 = some (.int .i32 0) := by kernel_rfl
theorem pc2 : plainCell Ybad.prog Ybad.prog.depth 56 2 = some (.int .i32 0) := by kernel_rfl
theorem bc0 : byteOfCell Ybad.prog Ybad.prog.depth 56 0 = some 0 := by kernel_rfl
theorem bc1 : byteOfCell Ybad.prog Ybad.prog.depth 56 1 = some 8 := by kernel_rfl
theorem bc2 : byteOfCell Ybad.prog Ybad.prog.depth 56 2 = some 12 := by kernel_rfl
theorem bc5 : byteOfCell Ybad.prog Ybad.prog.depth 5 0 = some 0 := by kernel_rfl
theorem ce5 : Ybad.prog.cellsOf 5 = 1 := by kernel_rfl
theorem by5 : Ybad.prog.bytesOf 5 = 1 := by kernel_rfl
theorem ch5 : cellHolding Ybad.prog Ybad.prog.depth 5 0 = some (0, 0) := by kernel_rfl
/-- A byte. -/
def bv (n : Nat) : Value := .int .u8 (n : Int)
theorem bv_bytes (n : Nat) (h : n < 256) : (bv n).bytes? = some [UInt8.ofNat n] := by
  have e : ((n : Int) % (2 ^ IntKind.u8.bits : Int)).toNat = n := by simp [IntKind.bits]; omega
  simp only [bv, Value.bytes?, e]
  simp [IntKind.bits, leBytes]
  rw [Nat.mod_eq_of_lt h]
theorem seen_step (c : Array Value) (f x stop n : Nat) (hx : x < stop) (hc : c[x]? = some (bv n)) (hn : n < 256) :
    seenCells Ybad.prog c 5 (f + 1) x stop = (seenCells Ybad.prog c 5 f (x + 1) stop).map ((x, x, [UInt8.ofNat n]) :: ·) := by
  rw [seenCells, if_neg (by omega)]
  simp only [by5, ce5, Nat.mod_one, ch5, Nat.div_one, Option.map_some, Nat.mul_one, Nat.add_zero, hc, bv_bytes n hn]
  rfl
theorem seen_end (c : Array Value) (f x stop : Nat) (hx : stop ≤ x) : seenCells Ybad.prog c 5 (f + 1) x stop = .ok [] := by
  rw [seenCells, if_pos (by omega)]
/-- The header's bytes from o on: a length, a level, a type, each below 256. -/
structure HdrAt (C : Array Value) (o a l t : Nat) : Prop where
  c0 : C[o]? = some (bv a)
  z : ∀ j, 0 < j → j < 8 → C[o + j]? = some (bv 0)
  c8 : C[o + 8]? = some (bv l)
  z8 : ∀ j, 8 < j → j < 12 → C[o + j]? = some (bv 0)
  c12 : C[o + 12]? = some (bv t)
  z12 : ∀ j, 12 < j → j < 16 → C[o + j]? = some (bv 0)
theorem seen8 {C : Array Value} {o a l t : Nat} (h : HdrAt C o a l t) (ha : a < 256) :
    seenCells Ybad.prog C 5 9 o (o + 8) = .ok [(o, o, [UInt8.ofNat a]), (o + 1, o + 1, [0]), (o + 2, o + 2, [0]), (o + 3, o + 3, [0]), (o + 4, o + 4, [0]), (o + 5, o + 5, [0]), (o + 6, o + 6, [0]), (o + 7, o + 7, [0])] := by
  rw [seen_step C 8 o (o + 8) a (by omega) h.c0 ha, seen_step C 7 (o + 1) (o + 8) 0 (by omega) (h.z 1 (by omega) (by omega)) (by omega), seen_step C 6 (o + 2) (o + 8) 0 (by omega) (h.z 2 (by omega) (by omega)) (by omega), seen_step C 5 (o + 3) (o + 8) 0 (by omega) (h.z 3 (by omega) (by omega)) (by omega),
    seen_step C 4 (o + 4) (o + 8) 0 (by omega) (h.z 4 (by omega) (by omega)) (by omega), seen_step C 3 (o + 5) (o + 8) 0 (by omega) (h.z 5 (by omega) (by omega)) (by omega), seen_step C 2 (o + 6) (o + 8) 0 (by omega) (h.z 6 (by omega) (by omega)) (by omega), seen_step C 1 (o + 7) (o + 8) 0 (by omega) (h.z 7 (by omega) (by omega)) (by omega), seen_end C 0 (o + 8) (o + 8) (by omega)]
  rfl
theorem load_len {w : World} {vb g o a l t : Nat} {C : Array Value} (hv : w.heap[vb]? = some (.view ⟨g, o, none⟩ 56)) (hg : w.heap[g]? = some (.cells C 5 (0, 0))) (h : HdrAt C o a l t) (ha : a < 256) :
    w.farLoad Ybad.prog ⟨vb, 0, none⟩ false = .ok (.int .u64 (a : Int), [⟨g, o, none⟩, ⟨g, o + 1, none⟩, ⟨g, o + 2, none⟩, ⟨g, o + 3, none⟩, ⟨g, o + 4, none⟩, ⟨g, o + 5, none⟩, ⟨g, o + 6, none⟩, ⟨g, o + 7, none⟩]) := by
  simp only [World.farLoad, hv, World.viewLoad, World.seen]
  simp [pc0, bc0, hg, ce5, by5, bc5, Value.bytes?, IntKind.bits, leBytes, Nat.mod_one, Nat.div_one, seen8 h ha, bind, Except.bind, pure, Except.pure, Value.ofBytes, ofLeBytes, IntKind.wrap, IntKind.signed]
  omega
theorem seen4 {C : Array Value} {x a : Nat} (h0 : C[x]? = some (bv a)) (h1 : C[x + 1]? = some (bv 0)) (h2 : C[x + 2]? = some (bv 0)) (h3 : C[x + 3]? = some (bv 0)) (ha : a < 256) :
    seenCells Ybad.prog C 5 5 x (x + 4) = .ok [(x, x, [UInt8.ofNat a]), (x + 1, x + 1, [0]), (x + 2, x + 2, [0]), (x + 3, x + 3, [0])] := by
  rw [seen_step C 4 x (x + 4) a (by omega) h0 ha, seen_step C 3 (x + 1) (x + 4) 0 (by omega) h1 (by omega), seen_step C 2 (x + 2) (x + 4) 0 (by omega) h2 (by omega), seen_step C 1 (x + 3) (x + 4) 0 (by omega) h3 (by omega), seen_end C 0 (x + 4) (x + 4) (by omega)]
  rfl
theorem load_level {w : World} {vb g o a l t : Nat} {C : Array Value} (hv : w.heap[vb]? = some (.view ⟨g, o, none⟩ 56)) (hg : w.heap[g]? = some (.cells C 5 (0, 0))) (h : HdrAt C o a l t) (hl : l < 128) :
    w.farLoad Ybad.prog ⟨vb, 1, none⟩ false = .ok (.int .i32 (l : Int), [⟨g, o + 8, none⟩, ⟨g, o + 8 + 1, none⟩, ⟨g, o + 8 + 2, none⟩, ⟨g, o + 8 + 3, none⟩]) := by
  have hs := seen4 (x := o + 8) h.c8 (h.z8 9 (by omega) (by omega)) (h.z8 10 (by omega) (by omega)) (h.z8 11 (by omega) (by omega)) (by omega)
  simp only [World.farLoad, hv, World.viewLoad, World.seen]
  simp [pc1, bc1, hg, ce5, by5, bc5, Value.bytes?, IntKind.bits, leBytes, Nat.mod_one, Nat.div_one, hs, bind, Except.bind, pure, Except.pure, Value.ofBytes, ofLeBytes, IntKind.wrap, IntKind.signed]
  omega
theorem load_type {w : World} {vb g o a l t : Nat} {C : Array Value} (hv : w.heap[vb]? = some (.view ⟨g, o, none⟩ 56)) (hg : w.heap[g]? = some (.cells C 5 (0, 0))) (h : HdrAt C o a l t) (ht : t < 128) :
    w.farLoad Ybad.prog ⟨vb, 2, none⟩ false = .ok (.int .i32 (t : Int), [⟨g, o + 12, none⟩, ⟨g, o + 12 + 1, none⟩, ⟨g, o + 12 + 2, none⟩, ⟨g, o + 12 + 3, none⟩]) := by
  have hs := seen4 (x := o + 12) h.c12 (h.z12 13 (by omega) (by omega)) (h.z12 14 (by omega) (by omega)) (h.z12 15 (by omega) (by omega)) (by omega)
  simp only [World.farLoad, hv, World.viewLoad, World.seen]
  simp [pc2, bc2, hg, ce5, by5, bc5, Value.bytes?, IntKind.bits, leBytes, Nat.mod_one, Nat.div_one, hs, bind, Except.bind, pure, Except.pure, Value.ofBytes, ofLeBytes, IntKind.wrap, IntKind.signed]
  omega
theorem view_cell {w : World} {vb k : Nat} {a : Addr} {u : TypeId} (hv : w.heap[vb]? = some (.view a u)) : w.cell? ⟨vb, k, none⟩ = none := by
  simp [World.cell?, hv]
end Go.Proofs.YbulkckzsDoor
