import Derived.WalkKit
import Derived.ArgAppend
import Derived.Deep.RegionLaw
import Derived.BigQuiet
import Derived.WalkSpells
import Derived.WalkLawsBesides
import Derived.Deep.LoopGhost
import Derived.Outline
set_option linter.unusedVariables false
/-! Small laws on blocks: what a new block, a store, a draw leave of 'w.heap[k]?'. No Go in sight. -/
namespace Go.Proofs.YbulkckzsDoor
open Go.RowKit

theorem Hid.intro {p : Prop} (h : p) : Hid p := h
theorem hp_alloc_lt (w : World) (o : Obj) (k : Nat) (h : k < w.heap.size) : (w.alloc o).heap[k]? = w.heap[k]? := Below.heap_alloc w o k h
theorem hp_alloc_new (w : World) (o : Obj) : (w.alloc o).heap[w.heap.size]? = some o := by
  show (w.heap.push o)[w.heap.size]? = _
  simp
theorem hp_alloc_size (w : World) (o : Obj) : (w.alloc o).heap.size = w.heap.size + 1 := by
  show (w.heap.push o).size = _
  simp
theorem hp_set_ne (w : World) (a : Addr) (u : Value) (k : Nat) (h : k ≠ a.block) : (w.setCell a u).heap[k]? = w.heap[k]? := Below.heap_setCell w a u k h
theorem hp_set_same (w : World) (b o : Nat) (u : Value) (c : Array Value) (e : TypeId) (fr : Nat × Nat) (h : w.heap[b]? = some (.cells c e fr)) :
    (w.setCell ⟨b, o, none⟩ u).heap[b]? = some (.cells (c.setIfInBounds o u) e fr) := by
  simp only [World.setCell, Array.getElem?_modify]
  simp [h]
theorem hp_set_size (w : World) (a : Addr) (u : Value) : (w.setCell a u).heap.size = w.heap.size := by simp [World.setCell]
theorem hp_cell {w : World} {b : Nat} {c : Array Value} {e : TypeId} {fr : Nat × Nat} (h : w.heap[b]? = some (.cells c e fr)) (o : Nat) : w.cell? ⟨b, o, none⟩ = c[o]? := by
  simp [World.cell?, h]
theorem hp_frozen {w : World} {b : Nat} {c : Array Value} {e : TypeId} (h : w.heap[b]? = some (.cells c e (0, 0))) (o : Nat) : w.frozen? ⟨b, o, none⟩ = false := by
  simp [World.frozen?, h]
theorem hp_lt {w : World} {b : Nat} {o : Obj} (h : w.heap[b]? = some o) : b < w.heap.size := by
  rcases Nat.lt_or_ge b w.heap.size with h' | h'
  · exact h'
  · rw [Array.getElem?_eq_none h'] at h; cases h
theorem hp_cell_lt {w : World} {a : Addr} {v : Value} (h : w.cell? a = some v) : a.block < w.heap.size := by
  unfold World.cell? at h
  rcases Nat.lt_or_ge a.block w.heap.size with h' | h'
  · exact h'
  · rw [Array.getElem?_eq_none h'] at h; cases h
theorem hp_cell_eq {w w' : World} {a : Addr} (h : w'.heap[a.block]? = w.heap[a.block]?) : w'.cell? a = w.cell? a := by
  unfold World.cell?; rw [h]
theorem hp_frozen_eq {w w' : World} {a : Addr} (h : w'.heap[a.block]? = w.heap[a.block]?) : w'.frozen? a = w.frozen? a := by
  unfold World.frozen?; rw [h]

theorem hp_cell_set_ne (w : World) (a b : Addr) (v : Value) (h : b.block ≠ a.block) : (w.setCell a v).cell? b = w.cell? b := hp_cell_eq (hp_set_ne w a v b.block h)
theorem hp_frozen_set (w : World) (a b : Addr) (v : Value) : (w.setCell a v).frozen? b = w.frozen? b := by
  by_cases h : b.block = a.block
  · simp only [World.frozen?, World.setCell, Array.getElem?_modify, h]
    cases w.heap[a.block]? with
    | none => rfl
    | some o => cases o <;> rfl
  · exact hp_frozen_eq (hp_set_ne w a v b.block h)
/-- append WHERE THERE IS ROOM, at a plain region's list. -/
theorem wpList_append_room {P : Program} (w : World) {ops : Array Oper} {rest : List Oper} {o : Oper} {a : Act} {Q : Exit → Act → World → Prop}
    (hg : o.guard = none) (s x : Operand) (t : TypeId) (hop : o.op = Op.call { callee := Callee.builtin Builtin.append, args := #[s, x], argTypes := #[t, t] })
    (e : TypeId) (i : TypeInfo) (size : Nat) (h1 : P.underlying t = some (.slice e)) (h2 : P.info? e = some i) (h4 : i.size = size)
    (b off n cap : Nat) (hs : a.eval s = .slice (some ⟨b, off, none⟩) n cap)
    (ad : Addr) (m c : Nat) (news : List Value) (hx : a.eval x = .slice (some ad) m c) (hn : news.length = m * size) (hc : ∀ j u, news[j]? = some u → w.cell? (ad.add j) = some u) (h1c : ∀ u ∈ news, u.oneCell' = true)
    (hroom : n + m ≤ cap) (hspare : ∀ j, j < news.length → (w.cell? ⟨b, off + n * size + j, none⟩).isSome = true ∧ w.frozen? ⟨b, off + n * size + j, none⟩ = false)
    (hK : wpList P ops Q rest (a.put o.dst (.slice (some ⟨b, off, none⟩) (n + m) cap)) (w.setCells b (off + n * size) news)) :
    wpList P ops Q (o :: rest) a w := by
  refine wpList_plain hg fun K hK' => ?_
  subst h4
  have hrun := run_append_room_cells (P := P) w t o.type e i h1 h2 b off n cap ad m c news hn hc h1c hroom (fun j hj => (hspare j hj).1) (fun j hj => (hspare j hj).2)
  unfold Oper.wp
  simp [execOp, hop, resolve, invoke, builtin, hs, hx, hrun, Result.andThen]
  exact hK' _ _ hK

/-- append OF ONE ELEMENT OF ONE CELL WHERE THERE IS ROOM, at a plain region's list. The element lies at 'ad'. -/
theorem wpList_append1 {P : Program} (w : World) {ops : Array Oper} {rest : List Oper} {o : Oper} {a : Act} {Q : Exit → Act → World → Prop}
    (hg : o.guard = none) (s x : Operand) (t : TypeId) (hop : o.op = Op.call { callee := Callee.builtin Builtin.append, args := #[s, x], argTypes := #[t, t] })
    (e : TypeId) (i : TypeInfo) (h1 : P.underlying t = some (.slice e)) (h2 : P.info? e = some i) (h4 : i.size = 1)
    (b off n cap : Nat) (hs : a.eval s = .slice (some ⟨b, off, none⟩) n cap)
    (ad : Addr) (c : Nat) (v : Value) (hx : a.eval x = .slice (some ad) 1 c) (hc : w.cell? (ad.add 0) = some v) (h1c : v.oneCell' = true)
    (hroom : n + 1 ≤ cap) (hspare : (w.cell? ⟨b, off + n, none⟩).isSome = true ∧ w.frozen? ⟨b, off + n, none⟩ = false)
    (hK : wpList P ops Q rest (a.put o.dst (.slice (some ⟨b, off, none⟩) (n + 1) cap)) (w.setCell ⟨b, off + n, none⟩ v)) :
    wpList P ops Q (o :: rest) a w := by
  refine wpList_append_room w hg s x t hop e i 1 h1 h2 h4 b off n cap hs ad 1 c [v] hx rfl ?_ (by simpa using h1c) hroom ?_ (by simpa [World.setCells] using hK)
  · intro j u hj
    match j, hj with
    | 0, hj => simp at hj; subst hj; exact hc
  · intro j hj
    match j, hj with
    | 0, _ => simpa using hspare

/-- The same as one step of a region that draws. -/
theorem step_append1 {P : Program} {ops : Array Oper} {o : Oper} {a : Act} {w : World} {K : Act → World → Prop} {Q : Exit → Act → World → Prop} {E : Prop}
    (hg : o.guard = none) (s x : Operand) (t : TypeId) (hop : o.op = Op.call { callee := Callee.builtin Builtin.append, args := #[s, x], argTypes := #[t, t] })
    (e : TypeId) (i : TypeInfo) (h1 : P.underlying t = some (.slice e)) (h2 : P.info? e = some i) (h4 : i.size = 1)
    (b off n cap : Nat) (hs : a.eval s = .slice (some ⟨b, off, none⟩) n cap)
    (ad : Addr) (c : Nat) (v : Value) (hx : a.eval x = .slice (some ad) 1 c) (hc : w.cell? (ad.add 0) = some v) (h1c : v.oneCell' = true)
    (hroom : n + 1 ≤ cap) (hspare : (w.cell? ⟨b, off + n, none⟩).isSome = true ∧ w.frozen? ⟨b, off + n, none⟩ = false)
    (hK : K (a.put o.dst (.slice (some ⟨b, off, none⟩) (n + 1) cap)) (w.setCell ⟨b, off + n, none⟩ v)) :
    if Region.wanted o (yielded ops a.tmps) = true then Oper.wp P o a w K Q else E := by
  refine step_append_room hg s x t hop e i 1 h1 h2 h4 b off n cap hs ad 1 c [v] hx rfl ?_ (by simpa using h1c) hroom ?_ (by simpa [World.setCells] using hK)
  · intro j u hj
    match j, hj with
    | 0, hj => simp at hj; subst hj; exact hc
  · intro j hj
    match j, hj with
    | 0, _ => simpa using hspare
def Ext (w w' : World) : Prop := Below w.heap.size w w'
theorem Ext.refl (w : World) : Ext w w := Below.refl _ _
theorem Ext.trans {a b c : World} (h : Ext a b) (k : Ext b c) : Ext a c := Below.trans h (Below.mono k h.size)
theorem Ext.alloc {a b : World} (h : Ext a b) (o : Obj) : Ext a (b.alloc o) := Below.alloc h h.size o
theorem Ext.drewN {a b : World} (h : Ext a b) (n : Nat) : Ext a (b.drewN n) := below_drewN h n
theorem Ext.drew {a b : World} (h : Ext a b) : Ext a b.drew := Below.drew h
theorem Ext.set {a b : World} (h : Ext a b) (p : Addr) (v : Value) (hp : a.heap.size ≤ p.block) : Ext a (b.setCell p v) := Below.setCell h hp v
theorem Ext.below {a b : World} {B : Nat} (h : Ext a b) (hB : B ≤ a.heap.size) : Below B a b := Below.mono h hB
theorem Ext.block {a b : World} (h : Ext a b) {k : Nat} (hk : k < a.heap.size) : b.heap[k]? = a.heap[k]? := Below.block h k hk
theorem Ext.some {a b : World} (h : Ext a b) {k : Nat} {o : Obj} (hk : a.heap[k]? = some o) : b.heap[k]? = some o := (h.block (hp_lt hk)).trans hk
theorem Ext.le {a b : World} (h : Ext a b) : a.heap.size ≤ b.heap.size := Below.size h
structure Fr (bs : List Nat) (w w' : World) : Prop where
  os : w'.os = w.os
  tape : w'.tape = w.tape
  output : w'.output = w.output
  size : w.heap.size ≤ w'.heap.size
  block : ∀ k, k < w.heap.size → k ∉ bs → w'.heap[k]? = w.heap[k]?
theorem Fr.refl (bs : List Nat) (w : World) : Fr bs w w := ⟨rfl, rfl, rfl, Nat.le_refl _, fun _ _ _ => rfl⟩
theorem Fr.trans {bs : List Nat} {a b c : World} (h : Fr bs a b) (k : Fr bs b c) : Fr bs a c :=
  ⟨k.os.trans h.os, k.tape.trans h.tape, k.output.trans h.output, Nat.le_trans h.size k.size, fun i hi hn => (k.block i (Nat.lt_of_lt_of_le hi h.size) hn).trans (h.block i hi hn)⟩
/-- The second frame may let go of blocks that are new to the first. -/
theorem Fr.trans' {bs cs : List Nat} {a b c : World} (h : Fr bs a b) (k : Fr cs b c) (hc : ∀ x ∈ cs, x ∈ bs ∨ a.heap.size ≤ x) : Fr bs a c :=
  ⟨k.os.trans h.os, k.tape.trans h.tape, k.output.trans h.output, Nat.le_trans h.size k.size, fun i hi hn => (k.block i (Nat.lt_of_lt_of_le hi h.size) (fun hm => by
    rcases hc i hm with hc | hc
    · exact hn hc
    · omega)).trans (h.block i hi hn)⟩
theorem Fr.mono {bs cs : List Nat} {a b : World} (h : Fr bs a b) (hs : ∀ x ∈ bs, x ∈ cs) : Fr cs a b := ⟨h.os, h.tape, h.output, h.size, fun i hi hn => h.block i hi (fun hm => hn (hs i hm))⟩
theorem Fr.of_ext {a b : World} (h : Ext a b) (bs : List Nat) : Fr bs a b := ⟨h.os, h.tape, h.output, h.size, fun i hi _ => h.block hi⟩
theorem Fr.of_grown {a b : World} {r : Option Nat} (h : a.grownBy b r) (bs : List Nat) (hr : ∀ g, r = some g → g ∈ bs ∨ a.heap.size ≤ g) : Fr bs a b :=
  ⟨h.os, h.tape, h.output, h.size, fun i hi hn => h.block i hi (fun e => by
    rcases hr i e.symm with h | h
    · exact hn h
    · omega)⟩
theorem Fr.set {bs : List Nat} {a b : World} (h : Fr bs a b) (p : Addr) (v : Value) (hp : p.block ∈ bs ∨ a.heap.size ≤ p.block) : Fr bs a (b.setCell p v) :=
  ⟨h.os, h.tape, h.output, by rw [hp_set_size]; exact h.size, fun i hi hn => by
    rw [hp_set_ne _ _ _ _ (fun e => by rcases hp with hp | hp; · exact hn (e ▸ hp)
                                       · omega)]
    exact h.block i hi hn⟩
theorem Fr.alloc {bs : List Nat} {a b : World} (h : Fr bs a b) (o : Obj) : Fr bs a (b.alloc o) :=
  ⟨h.os, h.tape, h.output, by rw [hp_alloc_size]; have := h.size; omega, fun i hi hn => by rw [hp_alloc_lt _ _ _ (Nat.lt_of_lt_of_le hi h.size)]; exact h.block i hi hn⟩
theorem Fr.drew {bs : List Nat} {a b : World} (h : Fr bs a b) : Fr bs a b.drew := ⟨h.os, h.tape, h.output, h.size, h.block⟩
theorem Fr.drewN {bs : List Nat} {a b : World} (h : Fr bs a b) (n : Nat) : Fr bs a (b.drewN n) := ⟨h.os, h.tape, h.output, h.size, h.block⟩
theorem Fr.below {bs : List Nat} {a b : World} (h : Fr bs a b) {B : Nat} (hB : B ≤ a.heap.size) (hb : ∀ x ∈ bs, B ≤ x) : Below B a b :=
  ⟨h.os, h.tape, h.output, h.size, fun k hk => h.block k (by omega) (fun hm => by have := hb k hm; omega)⟩
theorem Fr.some {bs : List Nat} {a b : World} (h : Fr bs a b) {k : Nat} {o : Obj} (hk : a.heap[k]? = some o) (hn : k ∉ bs) : b.heap[k]? = some o := (h.block k (hp_lt hk) hn).trans hk

theorem ext_cell {a b : World} (hx : Ext a b) {p : Addr} {v : Value} (h : a.cell? p = some v) : b.cell? p = some v := by
  rw [hp_cell_eq (w := a) (hx.block (hp_cell_lt h))]; exact h
theorem Fr.ext {w w' : World} (h : Fr [] w w') : Ext w w' := h.below (Nat.le_refl _) (by simp)
theorem Fr.one (w : World) (p : Addr) (v : Value) : Fr [p.block] w (w.setCell p v) := (Fr.refl _ w).set _ _ (.inl (by simp))
end Go.Proofs.YbulkckzsDoor
