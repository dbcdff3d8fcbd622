import Derived.Test.YbulkckvyTree
import Derived.Test.YbulkckvyLeft
set_option linter.unusedVariables false
set_option linter.unusedSimpArgs false
namespace Go.Proofs.Ybulkckvy
open Go.RowKit
attribute [local go_sem ↓] Go.wp_at_zero Go.wp_at_succ

/-- k laid in at its place. -/
def insK (k : ByteArray) (ks : List ByteArray) : List ByteArray := ks.take (pos k ks) ++ k :: ks.drop (pos k ks)
theorem insK_length (k : ByteArray) (ks : List ByteArray) : (insK k ks).length = ks.length + 1 := by
  have := pos_le k ks
  simp [insK]; omega
theorem entsC_insK (k : ByteArray) (ks : List ByteArray) : (entsC ks).take (pos k ks * 3) ++ [.string k, .slice none 0 0, .bool false] ++ (entsC ks).drop (pos k ks * 3) = entsC (insK k ks) := by
  rw [entsC_take, entsC_drop, insK, entsC_append]
  simp [entsC]

/-- The entries' row in the node, in whatever world keeps it. -/
theorem LeafAt.cell0 {w : World} {base : Nat} {l : Leaf} {p n : Option Nat} (h : LeafAt w base l p n) : w.cell? ⟨l.b, 0, none⟩ = some l.v := by rw [hp_cell h.node]; rfl
theorem LeafAt.cell1 {w : World} {base : Nat} {l : Leaf} {p n : Option Nat} (h : LeafAt w base l p n) : w.cell? ⟨l.b, 1, none⟩ = some (toP p) := by rw [hp_cell h.node]; rfl
theorem LeafAt.cell2 {w : World} {base : Nat} {l : Leaf} {p n : Option Nat} (h : LeafAt w base l p n) : w.cell? ⟨l.b, 2, none⟩ = some (toP n) := by rw [hp_cell h.node]; rfl
theorem LeafAt.cell3 {w : World} {base : Nat} {l : Leaf} {p n : Option Nat} (h : LeafAt w base l p n) : w.cell? ⟨l.b, 3, none⟩ = some (.slice none 0 0) := by rw [hp_cell h.node]; rfl
theorem LeafAt.free {w : World} {base : Nat} {l : Leaf} {p n : Option Nat} (h : LeafAt w base l p n) (o : Nat) : w.frozen? ⟨l.b, o, none⟩ = false := hp_frozen h.node o
theorem LeafAt.ext {w w' : World} {base : Nat} {l : Leaf} {p n : Option Nat} (h : LeafAt w base l p n) (hx : Ext w w') : LeafAt w' base l p n :=
  h.carry (Fr.of_ext hx []) (by simp) (by simp)

/-- The node's blocks that an insert may write. -/
def Leaf.foot (l : Leaf) : List Nat := l.b :: l.v.ownBlock.toList

theorem own_form {w : World} {base : Nat} {e : TypeId} {size : Nat} {v : Value} {n : Nat} {xs : List Value} (h : w.ownsRow base e size v (n + 1) xs) : ∃ g cap, v = .slice (some ⟨g, 0, none⟩) (n + 1) cap := by
  obtain ⟨_, h2⟩ := h
  rcases h2 with ⟨_, h2⟩ | ⟨g, cap, cur, rfl, _⟩
  · omega
  · exact ⟨g, cap, rfl⟩

/-- The leaf l with k laid in; w is the world as the insert began. -/
def Grew (w : World) (base : Nat) (l : Leaf) (p n : Option Nat) (k : ByteArray) (w' : World) : Prop :=
  ∃ g cap, LeafAt w' base ⟨l.b, .slice (some ⟨g, 0, none⟩) (l.ks.length + 1) cap, insK k l.ks⟩ p n ∧ Fr l.foot w w' ∧ (l.v.ownBlock = some g ∨ w.heap.size ≤ g)

/-- Behind slices.Insert and the store. -/
theorem Grew.mk {w W W4 : World} {base : Nat} {l : Leaf} {p n : Option Nat} {k : ByteArray} (hl : LeafAt W base l p n) (hx : Ext w W) (hlw : l.b < w.heap.size) (hvw : ∀ g, l.v.ownBlock = some g → g < w.heap.size) {g cap : Nat}
    (hown : W4.ownsRow base 81 3 (.slice (some ⟨g, 0, none⟩) (l.ks.length + 1) cap) (l.ks.length + 1) ((entsC l.ks).take (pos k l.ks * 3) ++ [.string k, .slice none 0 0, .bool false] ++ (entsC l.ks).drop (pos k l.ks * 3)))
    (hgrow : W.grownBy W4 l.v.ownBlock) (hgg : l.v.ownBlock = some g ∨ W.heap.size ≤ g) :
    Grew w base l p n k (W4.setCell ⟨l.b, 0, none⟩ (.slice (some ⟨g, 0, none⟩) (l.ks.length + 1) cap)) := by
  have hbl : some l.b ≠ l.v.ownBlock := fun e => (hl.row_ne e.symm hl.node) rfl
  have hn4 : W4.heap[l.b]? = some (.cells #[l.v, toP p, toP n, .slice none 0 0, .slice none 0 0] 44 (0, 0)) := (hgrow.block _ (hp_lt hl.node) hbl).trans hl.node
  have hgb : g ≠ l.b := fun e => by
    obtain ⟨c, hc⟩ := own_ty hown rfl
    subst e
    rw [hn4] at hc
    injection hc with hc
    injection hc with _ hc _
    cases hc
  have hsz := hx.le
  refine ⟨g, cap, ⟨?_, ?_, hl.low⟩, ?_, ?_⟩
  · rw [hp_set_same _ _ _ _ _ _ _ hn4]; rfl
  · rw [entsC_insK] at hown
    unfold Ents
    rw [insK_length]
    exact owns_block hown (fun g' o hg ho => by
      injection hg with hg
      subst hg
      rw [hp_set_ne _ _ _ _ hgb]; exact ho)
  · refine Fr.set (Fr.trans' (Fr.of_ext hx _) (Fr.of_grown hgrow l.v.ownBlock.toList (fun g hg => .inl (by rw [hg]; simp))) (fun x hx => .inl (List.mem_cons_of_mem _ hx))) _ _ (.inl (by simp [Leaf.foot]))
  · rcases hgg with h | h
    · exact .inl h
    · exact .inr (by omega)

set_option maxRecDepth 100000 in
set_option maxHeartbeats 1000000 in
theorem insLeaf_fit (base : Nat) (l : Leaf) (p n : Option Nat) (k : ByteArray) (w : World) (hl : LeafAt w base l p n) (hr : Rising l.ks) (hlen : l.ks.length < 64) (hb : base ≤ w.heap.size) :
    Calls Yba.prog 28 #[.pointer (some ⟨l.b, 0, none⟩), .agg #[.string k, .slice none 0 0, .bool false]] w fun e w' =>
      e = .returned (.tuple #[.string ⟨#[]⟩, .pointer none]) ∧ Grew w base l p n k w' := by
  have hx0 : Ext w (w.alloc (.cells #[.string k, .slice none 0 0, .bool false] 81)) := (Ext.refl w).alloc _
  have hl0 := hl.ext hx0
  have c0 := hl0.cell0
  have c3 := hl0.cell3
  have hbox : (w.alloc (.cells #[.string k, .slice none 0 0, .bool false] 81)).heap[w.heap.size]? = some (.cells #[.string k, .slice none 0 0, .bool false] 81 (0, 0)) := hp_alloc_new _ _
  have hpl := pos_le k l.ks
  have hlw : l.b < w.heap.size := hp_lt hl.node
  have hvw : ∀ g, l.v.ownBlock = some g → g < w.heap.size := fun g hg => by obtain ⟨c, hc⟩ := own_ty hl.ents hg; exact hp_lt hc
  go_enter Yba.func28, Yba.ntmps28
  go_upto_region 2 with (go_at_call 26; refine (leaf_nil _ _ c3).mono ?_; rintro e w1 ⟨rfl, rfl⟩)
  go_cut [6] (fun v6 w' => v6 = .int .i64 (pos k l.ks : Int) ∧ Ext (w.alloc (.cells #[.string k, .slice none 0 0, .bool false] 81)) w')
  case first =>
    go_region_law (go_simp; go_at_call 38; refine (bsf_any base l.v l.ks k _ (hl0.ext ((Ext.refl _).drew)).ents hr (by omega)).mono ?_; rintro e w2 ⟨rfl, hx2⟩)
    all_goals
      go_wp2_with fail
      go_meet
      case rel => exact ⟨rfl, ((Ext.refl _).drew).trans hx2⟩
  case rest =>
    obtain ⟨rfl, hx2⟩ := hcut
    have hl2 := hl0.ext hx2
    have d0 := hl2.cell0
    have hbox2 := hx2.some hbox
    have e0 : wc.cell? ⟨w.heap.size, 0, none⟩ = some (.string k) := by rw [hp_cell hbox2]; rfl
    have e1 : wc.cell? ⟨w.heap.size, 1, none⟩ = some (.slice none 0 0) := by rw [hp_cell hbox2]; rfl
    have e2 : wc.cell? ⟨w.heap.size, 2, none⟩ = some (.bool false) := by rw [hp_cell hbox2]; rfl
    have f0 : ∀ o, (wc.alloc o).cell? ⟨l.b, 0, none⟩ = some l.v := fun o => ((hl2.ext ((Ext.refl wc).alloc o)).cell0)
    have f1 : ∀ o, (wc.alloc o).cell? ⟨w.heap.size, 0, none⟩ = some (.string k) := fun o => by rw [hp_cell (((Ext.refl wc).alloc o).some hbox2)]; rfl
    have hx3 : Ext wc (wc.alloc (.cells #[.string k, .slice none 0 0, .bool false] 81)).drew := ((Ext.refl wc).alloc _).drew
    have hl3 := hl2.ext hx3
    have hvb3 : (wc.alloc (.cells #[.string k, .slice none 0 0, .bool false] 81)).drew.heap[wc.heap.size]? = some (.cells [Value.string k, .slice none 0 0, .bool false].toArray 81 (0, 0)) := hp_alloc_new _ _
    have hI := InsE.ins_any base l.ks.length (pos k l.ks) wc.heap.size l.v (entsC l.ks) [.string k, .slice none 0 0, .bool false] _ hl3.ents rfl hvb3 (fun e => by have h1 := hvw _ e; have h2 := (hx0.trans hx2).le; omega)
      (by simp [Value.oneCell']) (entsC_one _) (by omega) hpl (by have h2 := (hx0.trans (hx2.trans hx3)).le; omega)
    have HI := Hid.intro hI
    have HM := Hid.intro (fun (W4 : World) (g cap : Nat) h1 h2 h3 => Grew.mk (w := w) (k := k) (W4 := W4) (g := g) (cap := cap) hl3 (hx0.trans (hx2.trans hx3)) hlw hvw h1 h2 h3)
    have HN := Hid.intro (fun (W4 : World) (hg : World.grownBy _ W4 l.v.ownBlock) => (hg.block l.b (hp_lt hl3.node) (fun e => hl3.row_ne e.symm hl3.node rfl)).trans hl3.node)
    clear hI hvb3 hl3 hx3 hl2 hx2
    go_upto_region 3 with fail
    go_cut [] (fun w' => Grew w base l p n k w')
    case first =>
      go_region_law (go_simp; go_at_call 40; refine HI.out.mono ?_; rintro e w4 ⟨v', g, rfl, hown, hgrow, hg, hgg⟩; obtain ⟨g', cap', rfl⟩ := own_form hown; injection hg with hg; subst hg; have hn4 := HN.out w4 hgrow; have s0 : w4.cell? ⟨l.b, 0, none⟩ = some l.v := (by rw [hp_cell hn4]; rfl); have s1 : w4.frozen? ⟨l.b, 0, none⟩ = false := hp_frozen hn4 _)
      all_goals
        have R := HM.out w4 _ _ hown hgrow hgg
        clear hown hgrow hgg hn4
        go_wp2_with fail
        go_meet
        case rel => exact R
    case rest =>
      obtain ⟨g, cap, hL, hF, hgg⟩ := hcut
      have t0 := hL.cell0
      have HR := Hid.intro (And.intro hL (And.intro hF hgg))
      clear hL hF hgg
      go_wp2_with fail
      go_ret2
      exact ⟨rfl, g, cap, HR.out⟩
end Go.Proofs.Ybulkckvy
