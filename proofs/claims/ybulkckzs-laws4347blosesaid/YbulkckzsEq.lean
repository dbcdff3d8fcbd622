import Derived.Test.YbulkckzsTail
import Derived.Laws.StructEq
import Derived.LaidEqlPtr
import Derived.Laws.Pointers
set_option linter.unusedVariables false
set_option linter.unusedSimpArgs false
namespace Go.Proofs.Ybulkckzs
open Go.RowKit Go.Maps

theorem st46 : Yba.prog.stoodInHeld 46 = false := by kernel_rfl
theorem eg46 : Yba.prog.eqGuardType Yba.prog.depth 46 = false := by kernel_rfl
theorem fo46 : Yba.prog.fieldsOf 46 = #[{ name := "wall", type := 43, offset := 0, embedded := false, tag := "", pkgPath := "time", byteOffset := 0 }, { name := "ext", type := 2, offset := 1, embedded := false, tag := "", pkgPath := "time", byteOffset := 8 }, { name := "loc", type := 44, offset := 2, embedded := false, tag := "", pkgPath := "time", byteOffset := 16 }] := by
  unfold Program.fieldsOf; rw [Yba.underlying46]
set_option maxRecDepth 100000 in
theorem time_neq (n : Nat) (x : Int) (W : World) : (binOp .neq 46 (.agg #[.int .u64 (n : Int), .int .i64 x, .pointer none]) (.agg #[.int .u64 (n : Int), .int .i64 x, .pointer none])).run Yba.prog W = .ok (.bool false) W := by
  rw [run_neq_struct, run_equalIn_agg W 9999 46 _ _ (by rw [fo46]; exact Yba.underlying46) st46, fo46]
  have hp : (Op.equalIn 9999 44 (.pointer none) (.pointer none)).run Yba.prog W = .ok true W := run_equalIn_pointer_nil W 9998 44 none (by unfold Program.pointee; rw [Yba.underlying44])
  simp [go_sem, Yba.underlying43, Yba.underlying2, Yba.underlying44, hp]
theorem lpre_mk {w wc w1 w2 : World} {hv : Int} {hm : Bool} {n : Nat} {D : DataW Unit} {v15 : Value} {s t : Int} (hI : LInv w hv n D wc) (hV : if hm then v15 = .map (some (w.heap.size + 1 + 1)) ∧ MapAt wc (w.heap.size + 1 + 1) n D else v15 = .map none ∧ n = 0 ∧ D = .map [])
    (hx1 : Ext wc w1) (hx2 : Ext (w1.alloc (.cells #[.int .u64 (addN s : Int), .int .i64 (addX s), .pointer none] 46)) w2) (C : Array Value) (h7 : C[7]? = some (.int .u64 (addN s : Int))) (h8 : C[8]? = some (.int .i64 (addX s))) (h9 : C[9]? = some (.pointer none)) (h10 : C[10]? = some v15) :
    LPre w hv hm n D v15 (w2.heap.size + 1) w1.heap.size w2.heap.size s t ((w2.alloc (.cells #[.int .u64 (addN t : Int), .int .i64 (addX t), .pointer none] 46)).alloc (.cells C 54)) := by
  have x1 : Ext wc w2 := (hx1.alloc _).trans hx2
  have x2 : Ext w2 ((w2.alloc (.cells #[.int .u64 (addN t : Int), .int .i64 (addX t), .pointer none] 46)).alloc (.cells C 54)) := ((Ext.refl w2).alloc _).alloc _
  have e := hp_alloc_new (w2.alloc (.cells #[.int .u64 (addN t : Int), .int .i64 (addX t), .pointer none] 46)) (.cells C 54)
  rw [hp_alloc_size] at e
  refine ⟨hI.ext (x1.trans x2), ⟨C, e, h7, h8, h9, h10⟩, ?_, x2.some (hx2.some (hp_alloc_new w1 _)), ((Ext.refl _).alloc _).some (hp_alloc_new w2 _), ?_⟩
  · cases hm with
    | true => exact ⟨hV.1, hV.2.ext (x1.trans x2)⟩
    | false => exact hV
  · obtain ⟨es, clock, hb, _⟩ := hI.ex.ext x1
    have := (Array.getElem?_eq_some_iff.1 hb).1
    omega
theorem tcell3 {W : World} {b : Nat} {d : Int} (h : W.heap[b]? = some (.cells (tcells d) 46 (0, 0))) : W.cell? ⟨b, 0, none⟩ = some (.int .u64 (addN d : Int)) ∧ W.cell? ⟨b, 1, none⟩ = some (.int .i64 (addX d)) ∧ W.cell? ⟨b, 2, none⟩ = some (.pointer none) :=
  ⟨by rw [hp_cell h]; rfl, by rw [hp_cell h]; rfl, by rw [hp_cell h]; rfl⟩
theorem seen3 {w1 w2 : World} {s : Int} (hx2 : Ext (w1.alloc (.cells #[.int .u64 (addN s : Int), .int .i64 (addX s), .pointer none] 46)) w2) (o : Obj) : (w2.alloc o).cell? ⟨w1.heap.size, 0, none⟩ = some (.int .u64 (addN s : Int)) ∧ (w2.alloc o).cell? ⟨w1.heap.size, 1, none⟩ = some (.int .i64 (addX s)) ∧ (w2.alloc o).cell? ⟨w1.heap.size, 2, none⟩ = some (.pointer none) := by
  have h := (hx2.alloc o).some (hp_alloc_new w1 _)
  exact ⟨by rw [hp_cell h]; rfl, by rw [hp_cell h]; rfl, by rw [hp_cell h]; rfl⟩
/-- Ahead of the comparisons. -/
def LEnd (w : World) (db wb : Nat) (W : World) : Prop :=
  ∃ B n D n' x', DomAt W db (.map (some B)) n' x' ∧ W.heap[wb]? = some (.cells #[.int .u64 (n' : Int), .int .i64 x', .pointer none] 46 (0, 0)) ∧ MapAt W B n D ∧ MapAt W (w.heap.size + 1) n D ∧ Below w.heap.size w W
theorem LTail.first {w w6 : World} {hv : Int} {n N : Nat} {D D' : DataW Unit} {db B sb ab : Nat} {s t : Int} {n' : Nat} {x' : Int} (h : LTail w hv n N D D' db B sb ab s t n' x' w6) {id : Nat} (hid : id ≤ 65535) (hn : n < 10000) :
    ∃ w7, (Instr.mapUpdate 49 (.map (some (w.heap.size + 1))) (.int .u16 (id : Int)) (.bool true)).run Yba.prog (w6.alloc (.cells #[.int .u64 (addN s : Int), .int .i64 (addX s), .pointer none] 46)) = .ok () w7 ∧ LTail w hv (n + 1) N (D.put (idk id) (.lit (.bool true))) D' db B sb ab s t n' x' w7 ∧
      w7.heap[w6.heap.size]? = some (.cells #[.int .u64 (addN s : Int), .int .i64 (addX s), .pointer none] 46 (0, 0)) := by
  have xA := (Ext.refl w6).alloc (.cells #[.int .u64 (addN s : Int), .int .i64 (addX s), .pointer none] 46)
  have hb := hp_alloc_new w6 (.cells #[.int .u64 (addN s : Int), .int .i64 (addX s), .pointer none] 46)
  obtain ⟨w7, hr, hT, hf⟩ := (h.ext xA).exp hid hn
  exact ⟨w7, hr, hT, hf.some hb (by simpa using Ne.symm ((h.inv.ex.ext xA).ne hb))⟩
theorem LTail.turn {w w7 : World} {hv : Int} {n : Nat} {D : DataW Unit} {db B sb ab wb : Nat} {s t : Int} {c : Array Value} (h : LTail w hv n n D D db B sb ab s t (addN t) (addX t) w7) (hwb : w7.heap[wb]? = some (.cells c 46 (0, 0))) (hc : c.size = 3) (hle : w.heap.size ≤ wb) :
    LEnd w db wb (((w7.setCell ⟨wb, 0, none⟩ (.int .u64 (addN t : Int))).setCell ⟨wb, 1, none⟩ (.int .i64 (addX t))).setCell ⟨wb, 2, none⟩ (.pointer none)) := by
  have hf : Fr [wb] w7 (((w7.setCell ⟨wb, 0, none⟩ (.int .u64 (addN t : Int))).setCell ⟨wb, 1, none⟩ (.int .i64 (addX t))).setCell ⟨wb, 2, none⟩ (.pointer none)) :=
    (((Fr.refl _ w7).set _ _ (.inl (by simp))).set _ _ (.inl (by simp))).set _ _ (.inl (by simp))
  obtain ⟨C, hC, _⟩ := h.dom.ex
  have hne : db ≠ wb := fun e => by
    rw [e, hwb] at hC
    injection hC with hC
    injection hC with _ e2 _
    exact absurd e2 (by decide)
  refine ⟨B, n, D, addN t, addX t, h.dom.fr hf (by simpa using hne), ?_, h.lost.fr hf (by simpa using h.lost.ne hwb), h.inv.ex.fr hf (by simpa using h.inv.ex.ne hwb), h.inv.bel.trans (hf.below h.inv.bel.size (by simpa using hle))⟩
  rw [hp_set_same _ _ _ _ _ _ _ (hp_set_same _ _ _ _ _ _ _ (hp_set_same _ _ _ _ _ _ _ hwb))]
  obtain ⟨l⟩ := c
  match l, hc with
  | [x, y, z], _ => rfl
theorem LTail.stay {w w7 : World} {hv : Int} {n : Nat} {D : DataW Unit} {db B sb ab wb : Nat} {s t : Int} (h : LTail w hv n n D D db B sb ab s t (addN s) (addX s) w7) (hwb : w7.heap[wb]? = some (.cells #[.int .u64 (addN s : Int), .int .i64 (addX s), .pointer none] 46 (0, 0))) : LEnd w db wb w7 :=
  ⟨B, n, D, addN s, addX s, h.dom, hwb, h.lost, h.inv.ex, h.inv.bel⟩
/-- What the last comparisons read. -/
structure LFin (w : World) (db B n : Nat) (D : DataW Unit) (W : World) : Prop where
  c10 : W.cell? ⟨db, 10, none⟩ = some (.map (some B))
  lost : MapAt W B n D
  ex : MapAt W (w.heap.size + 1) n D
  bel : Below w.heap.size w W
theorem LFin.ext {w W W' : World} {db B n : Nat} {D : DataW Unit} (h : LFin w db B n D W) (hx : Ext W W') : LFin w db B n D W' := ⟨ext_cell hx h.c10, h.lost.ext hx, h.ex.ext hx, h.bel.trans (hx.below h.bel.size)⟩
theorem LFin.looks {w W : World} {db B n : Nat} {D : DataW Unit} (h : LFin w db B n D W) {id : Nat} (hid : id ≤ 65535) :
    (∀ q, (Instr.lookup 49 (.map (some B)) (.int .u16 (id : Int)) false).run Yba.prog (W.drewN q) = .ok (.bool (lookB D id)) (W.drewN q)) ∧ (∀ q, (Instr.lookup 49 (.map (some (w.heap.size + 1))) (.int .u16 (id : Int)) false).run Yba.prog (W.drewN q) = .ok (.bool (lookB D id)) (W.drewN q)) :=
  ⟨fun q => (h.lost.drew q).look hid, fun q => (h.ex.drew q).look hid⟩
theorem LFin.lens {w W : World} {db B n : Nat} {D : DataW Unit} (h : LFin w db B n D W) :
    (∀ ty q, (Builtin.len_ #[49] ty #[.map (some B)]).run Yba.prog (W.drewN q) = .ok (.int .i64 (Maps.size D)) (W.drewN q)) ∧ (∀ ty q, (Builtin.len_ #[49] ty #[.map (some (w.heap.size + 1))]).run Yba.prog (W.drewN q) = .ok (.int .i64 (Maps.size D)) (W.drewN q)) :=
  ⟨fun ty q => (h.lost.drew q).len ty, fun ty q => (h.ex.drew q).len ty⟩
end Go.Proofs.Ybulkckzs
