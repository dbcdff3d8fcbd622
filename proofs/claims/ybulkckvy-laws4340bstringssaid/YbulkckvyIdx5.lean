import Derived.Test.YbulkckvyIdx4
import Derived.Test.YbulkckvySmall
set_option linter.unusedVariables false
set_option linter.unusedSimpArgs false
namespace Go.Proofs.Ybulkckvy
open Go.RowKit
attribute [local go_sem ↓] Go.wp_at_zero Go.wp_at_succ

def delIf (k : ByteArray) (K : List ByteArray) : List ByteArray := if foundB k K then delK k K else K
/-- What Index.Delete answers. -/
def IdxDel (w : World) (base xb : Nat) (K : List ByteArray) (F : List Nat) (k : ByteArray) (e : Ending) (w' : World) : Prop :=
  ∃ (b i : Nat) (F' : List Nat), e = .returned (.tuple #[.agg #[.pointer (some ⟨xb, 0, none⟩), .pointer (some ⟨b, 0, none⟩), .int .i64 (i : Int)], .bool (foundB k K)]) ∧
    IdxAt w' base xb (delIf k K) F' ∧ CurAt w' base xb (delIf k K) k (.agg #[.pointer (some ⟨xb, 0, none⟩), .pointer (some ⟨b, 0, none⟩), .int .i64 (i : Int)]) ∧ Fr (xb :: F) w w' ∧ Grows F F' w
/-- Ahead of Seek in Index.Delete. -/
structure DelPre (w : World) (base xb rb : Nat) (a0 a1 a2 a3 : Value) (K : List ByteArray) (F : List Nat) (root : Nat) (ls : List Leaf) (ss : List ByteArray) (F' : List Nat) (w3 : World) : Prop where
  live : Live xb rb root a0 a1 a2 a3 w3
  tree : TreeAt w3 base root ls ss F'
  keys : keysOf ls = K
  fr : Fr (xb :: F) w w3
  gr : Grows F F' w
theorem del_done {w w3 w4 : World} {base xb rb root b i : Nat} {a0 a1 a2 a3 : Value} {K : List ByteArray} {F F' : List Nat} {ls : List Leaf} {ss : List ByteArray} {k : ByteArray} (o : Obj) (hrb : w.heap.size ≤ rb) (h : DelPre w base xb rb a0 a1 a2 a3 K F root ls ss F' w3) (hx : Ext w3 w4)
    (hc : CurAt w4 base xb K k (.agg #[.pointer (some ⟨xb, 0, none⟩), .pointer (some ⟨b, 0, none⟩), .int .i64 (i : Int)])) :
    let w5 := (((w4.alloc o).setCell ⟨rb, 0, none⟩ (.pointer (some ⟨xb, 0, none⟩))).setCell ⟨rb, 1, none⟩ (.pointer (some ⟨b, 0, none⟩))).setCell ⟨rb, 2, none⟩ (.int .i64 (i : Int))
    w5.heap[rb]? = some (.cells #[.pointer (some ⟨xb, 0, none⟩), .pointer (some ⟨b, 0, none⟩), .int .i64 (i : Int)] 55 (0, 0)) ∧ IdxAt w5 base xb K F' ∧ CurAt w5 base xb K k (.agg #[.pointer (some ⟨xb, 0, none⟩), .pointer (some ⟨b, 0, none⟩), .int .i64 (i : Int)]) ∧ Fr (xb :: F) w w5 := by
  intro w5
  have hr : (w4.alloc o).heap[rb]? = _ := (hx.alloc o).some h.live.r
  obtain ⟨hput, hfr⟩ := cur_put (xb := xb) (b := b) (i := i) hr rfl
  have hT := h.tree.grow (hx.alloc o)
  have hne := ty_ne h.live.x h.live.r (by decide)
  refine ⟨hput, ⟨root, ls, ss, a0, a1, a2, a3, hfr.some ((hx.alloc o).some h.live.x) (by simpa using hne), hT.carry hfr (fun x hm => ?_), h.keys⟩, (hc.ext ((Ext.refl w4).alloc o)).carry hr hfr, (h.fr.trans (Fr.of_ext (hx.alloc o) _)).trans' hfr (fun x hm => ?_)⟩
  · have e : x = rb := by simpa using hm
    subst e
    exact hT.out hr (by decide)
  · have e : x = rb := by simpa using hm
    subst e
    exact .inr hrb
theorem del_pre {w w2 : World} {base xb root : Nat} {a0 a1 a2 a3 : Value} {K : List ByteArray} {F : List Nat} {ls : List Leaf} {ss : List ByteArray} (hx : w.heap[xb]? = some (.cells #[a0, a1, a2, a3, .bool true, .bool true, .pointer (some ⟨root, 0, none⟩)] 48 (0, 0)))
    (h : TreeAt w base root ls ss F) (hF : Fr F (w.alloc cur0) w2) : Live xb w.heap.size root a0 a1 a2 a3 w2 ∧ Fr (xb :: F) w w2 := by
  have xA := (Ext.refl w).alloc cur0
  have hT := h.grow xA
  refine ⟨⟨hF.some (xA.some hx) (hT.out (xA.some hx) (by decide)), hF.some (hp_alloc_new w _) (hT.out (hp_alloc_new w _) (by decide))⟩, (Fr.of_ext xA _).trans (hF.mono (fun x hx => by simp [hx]))⟩
theorem Grows.back {F F' : List Nat} {w : World} {o : Obj} (h : Grows F F' (w.alloc o)) : Grows F F' w := fun x hx => by
  rcases h x hx with q | q
  · exact .inl q
  · rw [hp_alloc_size] at q; exact .inr (by omega)
theorem DelMid.cases {w w2 : World} {base xb root : Nat} {a0 a1 a2 a3 : Value} {K : List ByteArray} {F : List Nat} {ls : List Leaf} {ss : List ByteArray} {k : ByteArray} {v : Value} (hx : w.heap[xb]? = some (.cells #[a0, a1, a2, a3, .bool true, .bool true, .pointer (some ⟨root, 0, none⟩)] 48 (0, 0)))
    (h : TreeAt w base root ls ss F) (hm : DelMid (w.alloc cur0) base xb root K F k v w2) :
    (∃ ls' ss' F', DelPre w base xb w.heap.size a0 a1 a2 a3 (delIf k K) F root ls' ss' F' w2) ∨
    (∃ c g cc ls' ss' F', DelPre w base xb w.heap.size a0 a1 a2 a3 (delIf k K) F c ls' ss' F' (w2.setCell ⟨xb, 6, none⟩ (.pointer (some ⟨c, 0, none⟩))) ∧ Live xb w.heap.size root a0 a1 a2 a3 w2 ∧
      w2.cell? ⟨root, 3, none⟩ = some (.slice (some ⟨g, 0, none⟩) 1 cc) ∧ w2.cell? ⟨g, 0, none⟩ = some (.pointer (some ⟨c, 0, none⟩))) := by
  obtain ⟨_, hm⟩ := hm
  rcases hm with ⟨ls', ss', F', hT, hk, hF, hG⟩ | ⟨hf, hO⟩
  · obtain ⟨hl, hfr⟩ := del_pre (K := K) hx h hF
    exact .inl ⟨ls', ss', F', hl, hT, hk, hfr, hG.back⟩
  · have hb : base ≤ (w.alloc cur0).heap.size := by have := h.low; rw [hp_alloc_size]; omega
    obtain ⟨l, g, cc, h1, h2, hT, hk, hF, hG⟩ := OneLeft.tree hb hO
    obtain ⟨hl, hfr⟩ := del_pre (K := K) hx h hF
    refine .inr ⟨l.b, g, cc, [l], [], l.foot, ⟨hl.set l.b, hT.carry (Fr.one w2 _ _) (fun x hm => ?_), by rw [delIf, hf]; exact hk, hfr.set _ _ (.inl (by simp)), hG.back⟩, hl, h1, h2⟩
    have e : x = xb := by simpa using hm
    subst e
    exact hT.out hl.x (by decide)
end Go.Proofs.Ybulkckvy
