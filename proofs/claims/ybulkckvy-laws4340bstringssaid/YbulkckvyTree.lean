import Derived.Test.YbulkckvyNew
import Derived.Test.YbulkckvyDelS
import Derived.Test.YbulkckvyDelN
import Derived.Test.YbulkckvyChild
/-! The tree in memory: leaves in a chain; what a frame says. -/
set_option linter.unusedVariables false
namespace Go.Proofs.Ybulkckvy
open Go.RowKit

/-- Of what was there, only the blocks bs may have turned. -/
structure Fr (bs : List Nat) (w w' : World) : Prop where
  os : w'.os = w.os
  tape : w'.tape = w.tape
  output : w'.output = w.output
  size : w.heap.size ≤ w'.heap.size
  block : ∀ k, k < w.heap.size → k ∉ bs → w'.heap[k]? = w.heap[k]?
theorem Fr.refl (bs : List Nat) (w : World) : Fr bs w w := ⟨rfl, rfl, rfl, Nat.le_refl _, fun _ _ _ => rfl⟩
theorem Fr.trans {bs : List Nat} {a b c : World} (h : Fr bs a b) (k : Fr bs b c) : Fr bs a c :=
  ⟨k.os.trans h.os, k.tape.trans h.tape, k.output.trans h.output, Nat.le_trans h.size k.size, fun i hi hn => (k.block i (Nat.lt_of_lt_of_le hi h.size) hn).trans (h.block i hi hn)⟩
/-- The second frame may let go of blocks that are new to the first. -/
theorem Fr.trans' {bs cs : List Nat} {a b c : World} (h : Fr bs a b) (k : Fr cs b c) (hc : ∀ x ∈ cs, x ∈ bs ∨ a.heap.size ≤ x) : Fr bs a c :=
  ⟨k.os.trans h.os, k.tape.trans h.tape, k.output.trans h.output, Nat.le_trans h.size k.size, fun i hi hn => (k.block i (Nat.lt_of_lt_of_le hi h.size) (fun hm => by
    rcases hc i hm with hc | hc
    · exact hn hc
    · omega)).trans (h.block i hi hn)⟩
theorem Fr.mono {bs cs : List Nat} {a b : World} (h : Fr bs a b) (hs : ∀ x ∈ bs, x ∈ cs) : Fr cs a b := ⟨h.os, h.tape, h.output, h.size, fun i hi hn => h.block i hi (fun hm => hn (hs i hm))⟩
theorem Fr.of_ext {a b : World} (h : Ext a b) (bs : List Nat) : Fr bs a b := ⟨h.os, h.tape, h.output, h.size, fun i hi _ => h.block hi⟩
theorem Fr.of_grown {a b : World} {r : Option Nat} (h : a.grownBy b r) (bs : List Nat) (hr : ∀ g, r = some g → g ∈ bs ∨ a.heap.size ≤ g) : Fr bs a b :=
  ⟨h.os, h.tape, h.output, h.size, fun i hi hn => h.block i hi (fun e => by
    rcases hr i e.symm with h | h
    · exact hn h
    · omega)⟩
theorem Fr.set {bs : List Nat} {a b : World} (h : Fr bs a b) (p : Addr) (v : Value) (hp : p.block ∈ bs ∨ a.heap.size ≤ p.block) : Fr bs a (b.setCell p v) :=
  ⟨h.os, h.tape, h.output, by rw [hp_set_size]; exact h.size, fun i hi hn => by
    rw [hp_set_ne _ _ _ _ (fun e => by rcases hp with hp | hp; · exact hn (e ▸ hp)
                                       · omega)]
    exact h.block i hi hn⟩
theorem Fr.alloc {bs : List Nat} {a b : World} (h : Fr bs a b) (o : Obj) : Fr bs a (b.alloc o) :=
  ⟨h.os, h.tape, h.output, by rw [hp_alloc_size]; have := h.size; omega, fun i hi hn => by rw [hp_alloc_lt _ _ _ (Nat.lt_of_lt_of_le hi h.size)]; exact h.block i hi hn⟩
theorem Fr.drew {bs : List Nat} {a b : World} (h : Fr bs a b) : Fr bs a b.drew := ⟨h.os, h.tape, h.output, h.size, h.block⟩
theorem Fr.drewN {bs : List Nat} {a b : World} (h : Fr bs a b) (n : Nat) : Fr bs a (b.drewN n) := ⟨h.os, h.tape, h.output, h.size, h.block⟩
theorem Fr.below {bs : List Nat} {a b : World} (h : Fr bs a b) {B : Nat} (hB : B ≤ a.heap.size) (hb : ∀ x ∈ bs, B ≤ x) : Below B a b :=
  ⟨h.os, h.tape, h.output, h.size, fun k hk => h.block k (by omega) (fun hm => by have := hb k hm; omega)⟩
theorem Fr.some {bs : List Nat} {a b : World} (h : Fr bs a b) {k : Nat} {o : Obj} (hk : a.heap[k]? = some o) (hn : k ∉ bs) : b.heap[k]? = some o := (h.block k (hp_lt hk) hn).trans hk
theorem owns_fr {w w' : World} {base : Nat} {e : TypeId} {size : Nat} {v : Value} {n : Nat} {xs : List Value} {bs : List Nat} (h : w.ownsRow base e size v n xs) (hf : Fr bs w w') (hn : ∀ g, v.ownBlock = some g → g ∉ bs) : w'.ownsRow base e size v n xs :=
  owns_block h (fun g o hg ho => hf.some ho (hn g hg))
theorem own_ty {w : World} {base : Nat} {e : TypeId} {size : Nat} {v : Value} {n : Nat} {xs : List Value} (h : w.ownsRow base e size v n xs) {g : Nat} (hg : v.ownBlock = some g) : ∃ c, w.heap[g]? = some (.cells c e (0, 0)) := by
  obtain ⟨_, h2⟩ := h
  rcases h2 with ⟨rfl, _⟩ | ⟨g', cap, cur, rfl, _, h3, _⟩
  · cases hg
  · injection hg with hg; subst hg; exact ⟨_, h3⟩

/-- A leaf: its block, the slice of its entries, its keys. -/
structure Leaf where
  b : Nat
  v : Value
  ks : List ByteArray

def toP (p : Option Nat) : Value := .pointer (p.map fun b => ⟨b, 0, none⟩)
structure LeafAt (w : World) (base : Nat) (l : Leaf) (p n : Option Nat) : Prop where
  node : w.heap[l.b]? = some (.cells #[l.v, toP p, toP n, .slice none 0 0, .slice none 0 0] 44 (0, 0))
  ents : Ents w base l.v l.ks
  low : base ≤ l.b
theorem LeafAt.row_ne {w : World} {base : Nat} {l : Leaf} {p n : Option Nat} (h : LeafAt w base l p n) {g b : Nat} {c : Array Value} (hg : l.v.ownBlock = some g) (hb : w.heap[b]? = some (.cells c 44 (0, 0))) : g ≠ b := fun e => by
  obtain ⟨c', h'⟩ := own_ty h.ents hg
  subst e
  rw [hb] at h'
  injection h' with h'
  injection h' with _ h' _
  cases h'
theorem LeafAt.carry {w w' : World} {base : Nat} {l : Leaf} {p n : Option Nat} {bs : List Nat} (h : LeafAt w base l p n) (hf : Fr bs w w') (h1 : l.b ∉ bs) (h2 : ∀ g, l.v.ownBlock = some g → g ∉ bs) : LeafAt w' base l p n :=
  ⟨hf.some h.node h1, owns_fr h.ents hf h2, h.low⟩

def nextB (ls : List Leaf) (n : Option Nat) : Option Nat := match ls with
  | [] => n
  | l :: _ => some l.b
def lastB : List Leaf → Option Nat → Option Nat
  | [], p => p
  | l :: ls, _ => lastB ls (some l.b)
/-- A run of leaves, linked both ways; p ahead of it, n behind it. -/
def Seg (w : World) (base : Nat) : Option Nat → List Leaf → Option Nat → Prop
  | _, [], _ => True
  | p, l :: ls, n => LeafAt w base l p (nextB ls n) ∧ Seg w base (some l.b) ls n
theorem nextB_append (A B : List Leaf) (n : Option Nat) : nextB (A ++ B) n = nextB A (nextB B n) := by cases A <;> rfl
theorem seg_append {w : World} {base : Nat} (B : List Leaf) (n : Option Nat) : ∀ (A : List Leaf) (p : Option Nat), Seg w base p (A ++ B) n ↔ Seg w base p A (nextB B n) ∧ Seg w base (lastB A p) B n
  | [], p => by simp [Seg, lastB]
  | l :: A, p => by
    simp only [List.cons_append, Seg, lastB, nextB_append]
    rw [seg_append B n A (some l.b)]
    constructor
    · rintro ⟨h1, h2, h3⟩; exact ⟨⟨h1, h2⟩, h3⟩
    · rintro ⟨⟨h1, h2⟩, h3⟩; exact ⟨h1, h2, h3⟩
theorem seg_carry {w w' : World} {base : Nat} {bs : List Nat} (hf : Fr bs w w') : ∀ (ls : List Leaf) (p n : Option Nat), Seg w base p ls n → (∀ l ∈ ls, l.b ∉ bs ∧ ∀ g, l.v.ownBlock = some g → g ∉ bs) → Seg w' base p ls n
  | [], _, _, _, _ => trivial
  | l :: ls, p, n, ⟨h1, h2⟩, hs => ⟨h1.carry hf (hs l (by simp)).1 (hs l (by simp)).2, seg_carry hf ls _ _ h2 (fun m hm => hs m (by simp [hm]))⟩
theorem seg_leaf {w : World} {base : Nat} : ∀ {ls : List Leaf} {p n : Option Nat}, Seg w base p ls n → ∀ l ∈ ls, ∃ p' n', LeafAt w base l p' n'
  | l :: ls, p, n, ⟨h1, h2⟩, m, hm => by
    rcases List.mem_cons.1 hm with rfl | hm
    · exact ⟨_, _, h1⟩
    · exact seg_leaf h2 m hm
end Go.Proofs.Ybulkckvy
