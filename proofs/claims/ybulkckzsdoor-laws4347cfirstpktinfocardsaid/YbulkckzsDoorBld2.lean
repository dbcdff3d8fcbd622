import Derived.Test.YbulkckzsDoorBld
set_option linter.unusedVariables false
set_option linter.unusedSimpArgs false
namespace Go.Proofs.YbulkckzsDoor
open Go.RowKit
attribute [local go_sem ↓] Go.wp_at_zero Go.wp_at_succ

theorem make20 : ∃ C : Array Value, C.size = 20 ∧ ∀ w, (Instr.makeSlice 23 (.int .i64 0) (.int .i64 20)).run Ybad.prog w = .ok (.slice (some ⟨w.heap.size, 0, none⟩) 0 20) (w.alloc (.cells C 5)) := by
  obtain ⟨i, hi, hz0, hs, hby⟩ := info_parts info5
  refine ⟨madeCells (Value.int .u8 0).cells ((20 : Int).toNat * i.size), ?_, fun w => ?_⟩
  · rw [hs]; simp [madeCells, Value.cells]
  · have := run_make (P := Ybad.prog) w 23 5 i _ Ybad.underlying23 hi hz0 .i64 .i64 0 20 (by omega) (by omega) (by rw [hby]; omega) (by omega)
    simpa using this
theorem Gr.new {v v' : Value} {w0 w w' : World} (h : Gr v w v' w') (hv : ∀ g, v.ownBlock = some g → w0.heap.size ≤ g) (hx : Ext w0 w) : Ext w0 w' ∧ ∀ g, v'.ownBlock = some g → w0.heap.size ≤ g := by
  have hs := hx.le
  refine ⟨((Fr.of_ext hx []).trans' h.fr (fun x hxm => .inr (hv x (Option.mem_toList.1 hxm)))).ext, fun g hg => ?_⟩
  rcases h.at_ g hg with q | q
  · exact hv g q
  · omega
/-- The data of an IPv6 pktinfo message. -/
theorem data0 {W : World} {mb : Nat} {m : Msg} (h : W.heap[mb]? = some (.cells (mcells m) 45 (0, 0))) (C : Array Value) (hC : C.size = 20) :
    ∃ v1 W2 gd c W3, (Builtin.append_ #[23, 23] 23 #[.slice (some ⟨W.heap.size, 0, none⟩) 0 20, .slice (some ⟨mb, 2, none⟩) 16 16]).run Ybad.prog (W.alloc (.cells C 5)) = .ok v1 W2 ∧
      (Builtin.append_ #[23, 23] 23 #[v1, .slice (some ⟨W2.heap.size, 0, none⟩) 4 4]).run Ybad.prog (W2.alloc (.cells #[.int .u8 (m.e : Int), .int .u8 0, .int .u8 0, .int .u8 0] 5)) = .ok (.slice (some ⟨gd, 0, none⟩) 20 c) W3 ∧
      DataAt W3 gd 0 (ad16 m.a ++ [m.e, 0, 0, 0]) ∧ Ext W W3 ∧ W.heap.size ≤ gd ∧ Ext W W2 ∧ W2.cell? ⟨mb, 1, none⟩ = some (.int .u8 (m.e : Int)) := by
  have x1 := (Ext.refl W).alloc (.cells C 5)
  have hb0 : Bytes (W.alloc (.cells C 5)) W.heap.size (.slice (some ⟨W.heap.size, 0, none⟩) 0 20) [] := ⟨rfl, .inr ⟨W.heap.size, 20, C, rfl, Nat.le_refl _, hp_alloc_new W _, by simp, by unfold maxLen; omega, by omega, by simp⟩⟩
  have hd := msg_data (x1.some h) 16 (by omega)
  rw [List.take_of_length_le (by simp [ad16])] at hd
  obtain ⟨v1, W2, r1, b1, g1⟩ := app_bytes 23 _ [] (ad16 m.a) ⟨mb, 2, none⟩ 16 hb0 hd.cells (by simp) (by simp [ad16]) x1.le
  obtain ⟨x2, n1⟩ := g1.new (fun g hg => by have : W.heap.size = g := by injection hg
                                            omega) x1
  have x2a := x2.alloc (.cells #[.int .u8 (m.e : Int), .int .u8 0, .int .u8 0, .int .u8 0] 5)
  obtain ⟨v2, W3, r2, b2, g2⟩ := app_bytes 23 v1 ([] ++ ad16 m.a) [m.e, 0, 0, 0] ⟨W2.heap.size, 0, none⟩ 4 (b1.ext ((Ext.refl W2).alloc _)) (get4 m.e _ _ (hp_alloc_new W2 _)) (by simp [ad16]) (by simp) (x2a.le)
  obtain ⟨x3, n2⟩ := g2.new n1 x2a
  obtain ⟨gd, c, rfl, hda⟩ := b2.data (by simp [ad16])
  exact ⟨v1, W2, gd, c, W3, r1, r2, by simpa using hda, x3, n2 gd rfl, x2, by rw [hp_cell (x2.some h)]; rfl⟩
/-- The messages that came in. -/
def MsgsAt (w : World) (a : Option Addr) (len : Nat) (M : Nat → Msg) : Prop :=
  (∀ j, (M j).ok) ∧ (0 < len → ∃ b off, a = some ⟨b, off, none⟩ ∧ b < w.heap.size ∧ ∀ j, j < len → ∀ i, i < 18 → w.cell? ⟨b, off + j * 18 + i, none⟩ = (mcells (M j))[i]?)
def msL (M : Nat → Msg) (q : Nat) : List Msg := (List.range q).map M
theorem msL_succ (M : Nat → Msg) (q : Nat) : msL M (q + 1) = msL M q ++ [M q] := by simp [msL, List.range_succ]
theorem wantO_snoc (z6 z4 : Option Addr) (A : List Msg) (m : Msg) : wantO z6 z4 (A ++ [m]) = (wantO z6 z4 A).or (hitV z6 z4 m) := by
  simp only [wantO, List.findSome?_append]
  cases List.findSome? (hitV z6 z4) A <;> simp
/-- The loop's relation. -/
structure BL (w : World) (z6 z4 : Option Addr) (M : Nat → Msg) (q : Nat) (v4 v6 : Value) (wr : World) : Prop where
  ex : ∃ h l z, BI w v4 (encs (msL M q)) h l z wr ∧ av h l z = wantV z6 z4 (msL M q) ∧ v6 = .bool (wantO z6 z4 (msL M q)).isSome
end Go.Proofs.YbulkckzsDoor
