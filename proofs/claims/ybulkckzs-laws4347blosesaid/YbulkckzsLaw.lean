import Derived.Test.YbulkckzsLose
set_option linter.unusedVariables false
set_option linter.unusedSimpArgs false
namespace Go.Proofs.Ybulkckzs
open Go.RowKit Go.Maps

theorem addN_lt (d : Int) : addN d < 1000000000 := by unfold addN; omega
theorem after_add (a s : Int) : afterB (addN a) (addX a) (addN s) (addX s) = decide (s < a) := by
  unfold afterB addN addX
  rw [Bool.eq_iff_iff]
  simp only [Bool.or_eq_true, decide_eq_true_eq, Bool.and_eq_true]
  omega
theorem made2 (w : World) (o : Obj) : MapAt ((w.alloc o).alloc (.map #[] 0)) (w.heap.size + 1) 0 (.map []) := by
  have := MapAt.made (w.alloc o)
  rwa [hp_alloc_size] at this
theorem made3 (w : World) (o o' : Obj) : MapAt (((w.alloc o).alloc o').alloc (.map #[] 0)) (w.heap.size + 1 + 1) 0 (.map []) := by
  have := MapAt.made ((w.alloc o).alloc o')
  rwa [hp_alloc_size, hp_alloc_size] at this
/-- The pairs that came in. -/
def PairsAt (w : World) (a : Option Addr) (len : Nat) (I : Nat → Nat) (V : Nat → Bool) : Prop :=
  (∀ j, I j ≤ 65535) ∧ (0 < len → ∃ b off, a = some ⟨b, off, none⟩ ∧ b < w.heap.size ∧ ∀ j, j < len → w.cell? ⟨b, off + j * 2, none⟩ = some (.int .u16 (I j : Int)) ∧ w.cell? ⟨b, off + j * 2 + 1, none⟩ = some (.bool (V j)))
/-- The map exp and the decoder. -/
structure LInv (w : World) (hv : Int) (n : Nat) (D : DataW Unit) (wr : World) : Prop where
  ex : MapAt wr (w.heap.size + 1) n D
  dec : ∃ C, wr.heap[w.heap.size]? = some (.cells C 56 (0, 0)) ∧ C[3]? = some (.int .i64 hv)
  bel : Below w.heap.size w wr
theorem LInv.ext {w wr w' : World} {hv : Int} {n : Nat} {D : DataW Unit} (h : LInv w hv n D wr) (hx : Ext wr w') : LInv w hv n D w' := by
  obtain ⟨C, h1, h2⟩ := h.dec
  exact ⟨h.ex.ext hx, ⟨C, hx.some h1, h2⟩, h.bel.trans (hx.below h.bel.size)⟩
theorem LInv.cell {w wr : World} {hv : Int} {n : Nat} {D : DataW Unit} (h : LInv w hv n D wr) : wr.cell? ⟨w.heap.size, 3, none⟩ = some (.int .i64 hv) := by
  obtain ⟨C, h1, h2⟩ := h.dec
  rw [hp_cell h1]; exact h2
theorem LInv.fr {w wr w' : World} {hv : Int} {n : Nat} {D : DataW Unit} {bs : List Nat} (h : LInv w hv n D wr) (hF : Fr bs wr w') (hb : ∀ x ∈ bs, w.heap.size + 1 < x) : LInv w hv n D w' := by
  obtain ⟨C, h1, h2⟩ := h.dec
  exact ⟨h.ex.fr hF (fun hm => by have := hb _ hm; omega), ⟨C, hF.some h1 (fun hm => by have := hb _ hm; omega), h2⟩, h.bel.trans (hF.below h.bel.size (fun x hm => by have := hb x hm; omega))⟩
theorem LInv.put {w wr w' : World} {hv : Int} {n n' : Nat} {D D' : DataW Unit} (h : LInv w hv n D wr) (hM : MapAt w' (w.heap.size + 1) n' D') (hF : Fr [w.heap.size + 1] wr w') : LInv w hv n' D' w' := by
  obtain ⟨C, h1, h2⟩ := h.dec
  exact ⟨hM, ⟨C, hF.some h1 (by simp), h2⟩, h.bel.trans (hF.below h.bel.size (fun x hm => by simp at hm; omega))⟩
/-- Both maps. -/
structure LTwo (w : World) (hv : Int) (n : Nat) (D : DataW Unit) (wr : World) : Prop where
  inv : LInv w hv n D wr
  lost : MapAt wr (w.heap.size + 1 + 1) n D
theorem LTwo.step {w wr : World} {hv : Int} {n : Nat} {D : DataW Unit} (h : LTwo w hv n D wr) (id : Nat) (v : Bool) (hid : id ≤ 65535) (hn : n < 10000) :
    ∃ w2 w3, (Instr.mapUpdate 49 (.map (some (w.heap.size + 1 + 1))) (.int .u16 (id : Int)) (.bool v)).run Yba.prog (wr.alloc (.cells #[.int .u16 (id : Int), .bool v] 58)) = .ok () w2 ∧
      (Instr.mapUpdate 49 (.map (some (w.heap.size + 1))) (.int .u16 (id : Int)) (.bool v)).run Yba.prog w2 = .ok () w3 ∧ LTwo w hv (n + 1) (D.put (idk id) (.lit (.bool v))) w3 ∧
      w2.cell? ⟨wr.heap.size, 0, none⟩ = some (.int .u16 (id : Int)) ∧ w2.cell? ⟨wr.heap.size, 1, none⟩ = some (.bool v) := by
  have xA := (Ext.refl wr).alloc (.cells #[.int .u16 (id : Int), .bool v] 58)
  obtain ⟨w2, r2, m2, f2⟩ := (h.lost.ext xA).upd hid (by omega) v
  have i2 := (h.inv.ext xA).fr f2 (by simp)
  obtain ⟨w3, r3, m3, f3⟩ := i2.ex.upd hid (by omega) v
  have hb := hp_alloc_new wr (.cells #[.int .u16 (id : Int), .bool v] 58)
  have hb2 := f2.some hb (by simpa using Ne.symm ((h.lost.ext xA).ne hb))
  exact ⟨w2, w3, r2, r3, ⟨i2.put m3 f3, m2.fr f3 (by simp)⟩, by rw [hp_cell hb2]; rfl, by rw [hp_cell hb2]; rfl⟩
/-- Behind the pairs. -/
def LCut (w : World) (hv : Int) (hm : Bool) (v15 : Value) (wr : World) : Prop :=
  ∃ n D, n ≤ 1024 ∧ LInv w hv n D wr ∧ (if hm then v15 = .map (some (w.heap.size + 1 + 1)) ∧ MapAt wr (w.heap.size + 1 + 1) n D else v15 = .map none ∧ n = 0 ∧ D = .map [])
end Go.Proofs.Ybulkckzs
