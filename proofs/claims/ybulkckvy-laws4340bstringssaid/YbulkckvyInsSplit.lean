import Derived.Test.YbulkckvyInsLeaf
set_option linter.unusedVariables false
set_option linter.unusedSimpArgs false
namespace Go.Proofs.Ybulkckvy
open Go.RowKit
attribute [local go_sem ↓] Go.wp_at_zero Go.wp_at_succ

/-- The node behind l, if there is one, is a node, and another than l. -/
def NextOk (w : World) (l : Leaf) (n : Option Nat) : Prop := ∀ nb, n = some nb → nb ≠ l.b ∧ ∃ c, w.heap[nb]? = some (.cells c 44 (0, 0)) ∧ c.size = 5

/-- l has been split: its first 32 keys stay, the other 33 are in the new leaf in block rb. -/
def SplitPost (w : World) (base : Nat) (l : Leaf) (p n : Option Nat) (k : ByteArray) (e : Ending) (w' : World) : Prop :=
  ∃ g cap rb rg x, e = .returned (.tuple #[.string x, .pointer (some ⟨rb, 0, none⟩)]) ∧ (insK k l.ks)[32]? = some x ∧
    LeafAt w' base ⟨l.b, .slice (some ⟨g, 0, none⟩) 32 cap, (insK k l.ks).take 32⟩ p (some rb) ∧
    LeafAt w' base ⟨rb, .slice (some ⟨rg, 0, none⟩) 33 65, (insK k l.ks).drop 32⟩ (some l.b) n ∧
    Fr (l.foot ++ n.toList) w w' ∧ (l.v.ownBlock = some g ∨ w.heap.size ≤ g) ∧ w.heap.size ≤ rb ∧ w.heap.size ≤ rg ∧ rb ≠ g ∧ rg ≠ g ∧
    (∀ nb c, n = some nb → w.heap[nb]? = some (.cells c 44 (0, 0)) → w'.heap[nb]? = some (.cells (c.setIfInBounds 1 (.pointer (some ⟨rb, 0, none⟩))) 44 (0, 0)))

theorem insK_drop_len {k : ByteArray} {ks : List ByteArray} (h : ks.length = 64) : ((insK k ks).drop 32).length = 33 := by rw [List.length_drop, insK_length, h]
theorem insK_take_len {k : ByteArray} {ks : List ByteArray} (h : ks.length = 64) : ((insK k ks).take 32).length = 32 := by rw [List.length_take, insK_length, h]; rfl

/-- The worlds of a split, one behind the other: wc (k is in), w4 (the new leaf is made), w5 (the old one is cut). -/
structure Cut (w wc w4 w5 : World) (base : Nat) (l : Leaf) (p n : Option Nat) (k : ByteArray) (g cap : Nat) : Prop where
  len : l.ks.length = 64
  L0 : LeafAt w base l p n
  L : LeafAt wc base ⟨l.b, .slice (some ⟨g, 0, none⟩) 65 cap, insK k l.ks⟩ p n
  F : Fr l.foot w wc
  gg : l.v.ownBlock = some g ∨ w.heap.size ≤ g
  hlw : l.b < w.heap.size
  nx : NextOk w l n
  new : w4.heap[wc.heap.size + 1]? = some (.cells #[.slice (some ⟨wc.heap.size, 0, none⟩) 33 65, .pointer none, .pointer none, .slice none 0 0, .slice none 0 0] 44 (0, 0))
  ne : Ents w4 base (.slice (some ⟨wc.heap.size, 0, none⟩) 33 65) ((insK k l.ks).drop 32)
  x4 : Ext wc w4
  s4 : w4.heap.size = wc.heap.size + 2
  own : w5.ownsRow base 81 3 (.slice (some ⟨g, 0, none⟩) 32 cap) 32 ((entsC (insK k l.ks)).take (32 * 3) ++ (entsC (insK k l.ks)).drop (65 * 3))
  grow : w4.grownBy w5 (some g)
  base_le : base ≤ w.heap.size

theorem Cut.facts {w wc w4 w5 : World} {base : Nat} {l : Leaf} {p n : Option Nat} {k : ByteArray} {g cap : Nat} (h : Cut w wc w4 w5 base l p n k g cap) :
    g < wc.heap.size ∧ g ≠ l.b ∧ (w5.heap[l.b]? = some (.cells #[.slice (some ⟨g, 0, none⟩) 65 cap, toP p, toP n, .slice none 0 0, .slice none 0 0] 44 (0, 0))) ∧
    (w5.heap[wc.heap.size + 1]? = some (.cells #[.slice (some ⟨wc.heap.size, 0, none⟩) 33 65, .pointer none, .pointer none, .slice none 0 0, .slice none 0 0] 44 (0, 0))) ∧
    Ents w5 base (.slice (some ⟨wc.heap.size, 0, none⟩) 33 65) ((insK k l.ks).drop 32) ∧ Ents w5 base (.slice (some ⟨g, 0, none⟩) 32 cap) ((insK k l.ks).take 32) ∧
    (∀ nb c, n = some nb → w.heap[nb]? = some (.cells c 44 (0, 0)) → nb ≠ g ∧ w5.heap[nb]? = some (.cells c 44 (0, 0)) ∧ nb < wc.heap.size) ∧ Fr l.foot w w5 ∧ w5.heap.size ≥ wc.heap.size + 2 := by
  obtain ⟨cg, hcg⟩ := own_ty h.L.ents (g := g) rfl
  have hgl : g < wc.heap.size := hp_lt hcg
  have hgb : g ≠ l.b := h.L.row_ne rfl h.L.node
  have hbl : l.b < wc.heap.size := hp_lt h.L.node
  have hlw := h.hlw
  have hFs := h.F.size
  have n4 : w4.heap[l.b]? = _ := h.x4.some h.L.node
  have n5 : w5.heap[l.b]? = _ := (h.grow.block l.b (hp_lt n4) (fun e => hgb (by injection e with e; exact e.symm))).trans n4
  have r5 : w5.heap[wc.heap.size + 1]? = _ := (h.grow.block _ (hp_lt h.new) (fun e => by injection e with e; omega)).trans h.new
  refine ⟨hgl, hgb, n5, r5, ?_, ?_, ?_, ?_, by have := h.grow.size; have := h.s4; omega⟩
  · exact owns_block h.ne (fun g' o hg ho => by
      have hg' : wc.heap.size = g' := by injection hg
      exact (h.grow.block _ (hp_lt ho) (fun e => by have e' : g' = g := by injection e
                                                    omega)).trans ho)
  · have := h.own
    rw [entsC_take, entsC_drop, List.drop_of_length_le (by rw [insK_length, h.len]; omega)] at this
    simp only [entsC, List.append_nil] at this
    unfold Ents
    rw [insK_take_len h.len]
    exact this
  · intro nb c hn hc
    obtain ⟨hne, _⟩ := h.nx nb hn
    have hnbw : nb < w.heap.size := hp_lt hc
    have hng : nb ≠ g := fun e => by
      rcases h.gg with hg | hg
      · exact h.L0.row_ne hg hc e.symm
      · omega
    have hnf : nb ∉ l.foot := fun hm => by
      rcases List.mem_cons.1 hm with e | e
      · exact hne e
      · have : l.v.ownBlock = some nb := by simpa using e
        exact h.L0.row_ne this hc rfl
    have hc4 := h.x4.some (h.F.some hc hnf)
    exact ⟨hng, (h.grow.block nb (hp_lt hc4) (fun e => hng (by injection e))).trans hc4, by omega⟩
  · refine Fr.trans' (Fr.trans' h.F (Fr.of_ext h.x4 []) (by simp)) (Fr.of_grown h.grow [g] (fun g' hg' => .inl (by injection hg' with e; simp [e]))) (fun x hx => ?_)
    have : x = g := by simpa using hx
    subst this
    rcases h.gg with hg | hg
    · exact .inl (List.mem_cons_of_mem _ (by rw [hg]; simp))
    · exact .inr hg

/-- The stores behind the cut: the new leaf is linked in. There is no leaf behind. -/
theorem Cut.done_none {w wc w4 w5 : World} {base : Nat} {l : Leaf} {p : Option Nat} {k x : ByteArray} {g cap : Nat} (h : Cut w wc w4 w5 base l p none k g cap) (hx : (insK k l.ks)[32]? = some x) :
    SplitPost w base l p none k (.returned (.tuple #[.string x, .pointer (some ⟨wc.heap.size + 1, 0, none⟩)]))
      ((((w5.setCell ⟨l.b, 0, none⟩ (.slice (some ⟨g, 0, none⟩) 32 cap)).setCell ⟨wc.heap.size + 1, 1, none⟩ (.pointer (some ⟨l.b, 0, none⟩))).setCell ⟨wc.heap.size + 1, 2, none⟩ (.pointer none)).setCell ⟨l.b, 2, none⟩ (.pointer (some ⟨wc.heap.size + 1, 0, none⟩))) := by
  obtain ⟨hgl, hgb, n5, r5, e1, e2, hnb, hF, hs⟩ := h.facts
  have hlw := h.hlw
  have hFs := h.F.size
  obtain ⟨c81, hc81⟩ := own_ty e1 (g := wc.heap.size) rfl
  refine ⟨g, cap, wc.heap.size + 1, wc.heap.size, x, rfl, hx, ⟨?_, ?_, h.L.low⟩, ⟨?_, ?_, by have := h.base_le; show base ≤ wc.heap.size + 1; omega⟩, ?_, h.gg, by omega, hFs, by omega, by omega, fun nb c hn => by cases hn⟩
  · rw [hp_set_same _ _ _ _ _ _ _ (by rw [hp_set_ne _ _ _ _ (by simp; omega), hp_set_ne _ _ _ _ (by simp; omega), hp_set_same _ _ _ _ _ _ _ n5])]; rfl
  · exact owns_block e2 (fun g' o hg ho => by
      have hg' : g = g' := by injection hg
      subst hg'
      rw [hp_set_ne _ _ _ _ (by simpa using hgb), hp_set_ne _ _ _ _ (by simp; omega), hp_set_ne _ _ _ _ (by simp; omega), hp_set_ne _ _ _ _ (by simpa using hgb)]; exact ho)
  · rw [hp_set_ne _ _ _ _ (by simp; omega), hp_set_same _ _ _ _ _ _ _ (hp_set_same _ _ _ _ _ _ _ (by rw [hp_set_ne _ _ _ _ (by simp; omega)]; exact r5))]; rfl
  · exact owns_block e1 (fun g' o hg ho => by
      have hg' : wc.heap.size = g' := by injection hg
      subst hg'
      rw [hp_set_ne _ _ _ _ (by simp; omega), hp_set_ne _ _ _ _ (by simp), hp_set_ne _ _ _ _ (by simp), hp_set_ne _ _ _ _ (by simp; omega)]; exact ho)
  · have hm : Fr (l.foot ++ []) w w5 := by simpa using hF
    exact (((hm.set _ _ (.inl (by simp [Leaf.foot]))).set _ _ (.inr (by simp; omega))).set _ _ (.inr (by simp; omega))).set _ _ (.inl (by simp [Leaf.foot]))
/-- .. there is one, in block nb. -/
theorem Cut.done_some {w wc w4 w5 : World} {base : Nat} {l : Leaf} {p : Option Nat} {k x : ByteArray} {g cap nb : Nat} (h : Cut w wc w4 w5 base l p (some nb) k g cap) (hx : (insK k l.ks)[32]? = some x) :
    SplitPost w base l p (some nb) k (.returned (.tuple #[.string x, .pointer (some ⟨wc.heap.size + 1, 0, none⟩)]))
      (((((w5.setCell ⟨l.b, 0, none⟩ (.slice (some ⟨g, 0, none⟩) 32 cap)).setCell ⟨wc.heap.size + 1, 1, none⟩ (.pointer (some ⟨l.b, 0, none⟩))).setCell ⟨wc.heap.size + 1, 2, none⟩ (.pointer (some ⟨nb, 0, none⟩))).setCell ⟨nb, 1, none⟩ (.pointer (some ⟨wc.heap.size + 1, 0, none⟩))).setCell ⟨l.b, 2, none⟩ (.pointer (some ⟨wc.heap.size + 1, 0, none⟩))) := by
  obtain ⟨hgl, hgb, n5, r5, e1, e2, hnb, hF, hs⟩ := h.facts
  have hlw := h.hlw
  have hFs := h.F.size
  obtain ⟨hne, cn, hcn, hcs⟩ := h.nx nb rfl
  obtain ⟨hng, hn5, hnl⟩ := hnb nb cn rfl hcn
  obtain ⟨c81, hc81⟩ := own_ty e1 (g := wc.heap.size) rfl
  refine ⟨g, cap, wc.heap.size + 1, wc.heap.size, x, rfl, hx, ⟨?_, ?_, h.L.low⟩, ⟨?_, ?_, by have := h.base_le; show base ≤ wc.heap.size + 1; omega⟩, ?_, h.gg, by omega, hFs, by omega, by omega, fun nb' c hn hc => ?_⟩
  · rw [hp_set_same _ _ _ _ _ _ _ (by rw [hp_set_ne _ _ _ _ (by simpa using Ne.symm hne), hp_set_ne _ _ _ _ (by simp; omega), hp_set_ne _ _ _ _ (by simp; omega), hp_set_same _ _ _ _ _ _ _ n5])]; rfl
  · exact owns_block e2 (fun g' o hg ho => by
      have hg' : g = g' := by injection hg
      subst hg'
      rw [hp_set_ne _ _ _ _ (by simpa using hgb), hp_set_ne _ _ _ _ (by simpa using Ne.symm hng), hp_set_ne _ _ _ _ (by simp; omega), hp_set_ne _ _ _ _ (by simp; omega), hp_set_ne _ _ _ _ (by simpa using hgb)]; exact ho)
  · rw [hp_set_ne _ _ _ _ (by simp; omega), hp_set_ne _ _ _ _ (by simp; omega), hp_set_same _ _ _ _ _ _ _ (hp_set_same _ _ _ _ _ _ _ (by rw [hp_set_ne _ _ _ _ (by simp; omega)]; exact r5))]; rfl
  · exact owns_block e1 (fun g' o hg ho => by
      have hg' : wc.heap.size = g' := by injection hg
      subst hg'
      rw [hp_set_ne _ _ _ _ (by simp; omega), hp_set_ne _ _ _ _ (by simp; omega), hp_set_ne _ _ _ _ (by simp), hp_set_ne _ _ _ _ (by simp), hp_set_ne _ _ _ _ (by simp; omega)]; exact ho)
  · have hm : Fr (l.foot ++ [nb]) w w5 := hF.mono (fun x hx => by simp [hx])
    exact ((((hm.set _ _ (.inl (by simp [Leaf.foot]))).set _ _ (.inr (by simp; omega))).set _ _ (.inr (by simp; omega))).set _ _ (.inl (by simp))).set _ _ (.inl (by simp [Leaf.foot]))
  · have e : nb = nb' := by injection hn
    subst e
    rw [hcn] at hc
    have e : cn = c := by injection hc with hc; injection hc
    subst e
    rw [hp_set_ne _ _ _ _ (by simpa using hne), hp_set_same _ _ _ _ _ _ _ (by rw [hp_set_ne _ _ _ _ (by simp; omega), hp_set_ne _ _ _ _ (by simp; omega), hp_set_ne _ _ _ _ (by simpa using hne)]; exact hn5)]

set_option maxRecDepth 100000 in
set_option maxHeartbeats 1000000 in
theorem insLeaf_split (base : Nat) (l : Leaf) (p n : Option Nat) (k : ByteArray) (w : World) (hl : LeafAt w base l p n) (hr : Rising l.ks) (hlen : l.ks.length = 64) (hb : base ≤ w.heap.size) (hnx : NextOk w l n) :
    Calls Yba.prog 28 #[.pointer (some ⟨l.b, 0, none⟩), .agg #[.string k, .slice none 0 0, .bool false]] w (SplitPost w base l p n k) := by
  have hlen64 : l.ks.length ≤ 64 := by omega
  have HL := Hid.intro hlen
  clear hlen
  have hx0 : Ext w (w.alloc (.cells #[.string k, .slice none 0 0, .bool false] 81)) := (Ext.refl w).alloc _
  have hl0 := hl.ext hx0
  have c0 := hl0.cell0
  have c3 := hl0.cell3
  have hbox : (w.alloc (.cells #[.string k, .slice none 0 0, .bool false] 81)).heap[w.heap.size]? = some (.cells #[.string k, .slice none 0 0, .bool false] 81 (0, 0)) := hp_alloc_new _ _
  have hpl := pos_le k l.ks
  have hlw : l.b < w.heap.size := hp_lt hl.node
  have hvw : ∀ g, l.v.ownBlock = some g → g < w.heap.size := fun g hg => by obtain ⟨c, hc⟩ := own_ty hl.ents hg; exact hp_lt hc
  go_enter Yba.func28, Yba.ntmps28
  go_upto_region 2 with (go_at_call 26; refine (leaf_nil _ _ c3).mono ?_; rintro e w1 ⟨rfl, rfl⟩)
  go_cut [6] (fun v6 w' => v6 = .int .i64 (pos k l.ks : Int) ∧ Ext (w.alloc (.cells #[.string k, .slice none 0 0, .bool false] 81)) w')
  case first =>
    go_region_law (go_simp; go_at_call 38; refine (bsf_any base l.v l.ks k _ (hl0.ext ((Ext.refl _).drew)).ents hr (by omega)).mono ?_; rintro e w2 ⟨rfl, hx2⟩)
    all_goals
      go_wp2_with fail
      go_meet
      case rel => exact ⟨rfl, ((Ext.refl _).drew).trans hx2⟩
  case rest =>
    obtain ⟨rfl, hx2⟩ := hcut
    have hl2 := hl0.ext hx2
    have d0 := hl2.cell0
    have hbox2 := hx2.some hbox
    have e0 : wc.cell? ⟨w.heap.size, 0, none⟩ = some (.string k) := by rw [hp_cell hbox2]; rfl
    have e1 : wc.cell? ⟨w.heap.size, 1, none⟩ = some (.slice none 0 0) := by rw [hp_cell hbox2]; rfl
    have e2 : wc.cell? ⟨w.heap.size, 2, none⟩ = some (.bool false) := by rw [hp_cell hbox2]; rfl
    have f0 : ∀ o, (wc.alloc o).cell? ⟨l.b, 0, none⟩ = some l.v := fun o => ((hl2.ext ((Ext.refl wc).alloc o)).cell0)
    have f1 : ∀ o, (wc.alloc o).cell? ⟨w.heap.size, 0, none⟩ = some (.string k) := fun o => by rw [hp_cell (((Ext.refl wc).alloc o).some hbox2)]; rfl
    have hx3 : Ext wc (wc.alloc (.cells #[.string k, .slice none 0 0, .bool false] 81)).drew := ((Ext.refl wc).alloc _).drew
    have hl3 := hl2.ext hx3
    have hvb3 : (wc.alloc (.cells #[.string k, .slice none 0 0, .bool false] 81)).drew.heap[wc.heap.size]? = some (.cells [Value.string k, .slice none 0 0, .bool false].toArray 81 (0, 0)) := hp_alloc_new _ _
    have hI := InsE.ins_any base l.ks.length (pos k l.ks) wc.heap.size l.v (entsC l.ks) [.string k, .slice none 0 0, .bool false] _ hl3.ents rfl hvb3 (fun e => by have h1 := hvw _ e; have h2 := (hx0.trans hx2).le; omega)
      (by simp [Value.oneCell']) (entsC_one _) (by omega) hpl (by have h2 := (hx0.trans (hx2.trans hx3)).le; omega)
    have HI := Hid.intro hI
    have HM := Hid.intro (fun (W4 : World) (g cap : Nat) h1 h2 h3 => Grew.mk (w := w) (k := k) (W4 := W4) (g := g) (cap := cap) hl3 (hx0.trans (hx2.trans hx3)) hlw hvw h1 h2 h3)
    have HN := Hid.intro (fun (W4 : World) (hg : World.grownBy _ W4 l.v.ownBlock) => (hg.block l.b (hp_lt hl3.node) (fun e => hl3.row_ne e.symm hl3.node rfl)).trans hl3.node)
    clear hI hvb3 hl3 hx3 hl2 hx2
    go_upto_region 3 with fail
    go_cut [] (fun w' => Grew w base l p n k w')
    case first =>
      go_region_law (go_simp; go_at_call 40; refine HI.out.mono ?_; rintro e w4 ⟨v', g, rfl, hown, hgrow, hg, hgg⟩; obtain ⟨g', cap', rfl⟩ := own_form hown; injection hg with hg; subst hg; have hn4 := HN.out w4 hgrow; have s0 : w4.cell? ⟨l.b, 0, none⟩ = some l.v := (by rw [hp_cell hn4]; rfl); have s1 : w4.frozen? ⟨l.b, 0, none⟩ = false := hp_frozen hn4 _)
      all_goals
        have R := HM.out w4 _ _ hown hgrow hgg
        clear hown hgrow hgg hn4
        go_wp2_with fail
        go_meet
        case rel => exact R
    case rest =>
      obtain ⟨wA, hwA⟩ : ∃ wA, wA = wc := ⟨wc, rfl⟩
      subst hwA
      obtain ⟨g, cap, hL0, hF, hgg⟩ := hcut
      have hle : l.ks.length + 1 = 65 := by have := HL.out; omega
      have hL : LeafAt wA base ⟨l.b, .slice (some ⟨g, 0, none⟩) 65 cap, insK k l.ks⟩ p n := by rw [hle] at hL0; exact hL0
      clear hL0
      have hkl : (insK k l.ks).length = 65 := by rw [insK_length]; exact hle
      obtain ⟨hcap, hcap63⟩ : 65 ≤ cap ∧ cap ≤ 9223372036854775807 := by
        rcases hL.ents.form with ⟨e, _⟩ | ⟨g', cap', cur, e, _, _, h4, h5, _, _⟩
        · cases e
        · injection e with e1 e2 e3
          unfold maxLen at h5
          omega
      have t0 := hL.cell0
      have t2 := hL.cell2
      have hc32 : ¬ (cap = 32) := by omega
      have hdl := insK_drop_len (k := k) HL.out
      have hsrc : ∀ j u, (entsC ((insK k l.ks).drop 32))[j]? = some u → wA.cell? ((⟨g, 96, none⟩ : Addr).add j) = some u := fun j u hj => by
        rw [Addr.add_lit]
        rw [← entsC_drop, List.getElem?_drop] at hj
        obtain ⟨_, hE⟩ := hL.ents
        rcases hE with ⟨hE, _⟩ | ⟨g', cap', cur, e, _, h3, _, _, _, h7⟩
        · cases hE
        · injection e with e1 e2 e3
          injection e1 with e1
          injection e1 with e1
          subst e1
          exact take_cells h3 h7 _ u hj
      have hNL := newLeaf_some base ⟨g, 96, none⟩ (cap - 32) ((insK k l.ks).drop 32) wA (by omega) (by have := hF.size; omega) hsrc
      rw [hdl] at hNL
      have HNL := Hid.intro hNL
      have HLL := Hid.intro (And.intro hL (And.intro hF hgg))
      have hLx : LeafAt wA base ⟨l.b, .slice (some ⟨g, 0, none⟩) 65 cap, insK k l.ks⟩ p n := hL
      clear hNL hsrc hL hF hgg
      go_upto_region 8 with (go_at_call 27; refine HNL.out.mono ?_; rintro e w4 ⟨rfl, hnew, hents, hx4, hs4⟩)
      have hL4 := hLx.ext hx4
      have HDEL := Hid.intro (InsE.del_any base 65 32 65 g cap (entsC (insK k l.ks)) w4.drew (by have := (hL4.ext ((Ext.refl w4).drew)).ents; unfold Ents at this; rw [hkl] at this; exact this) (entsC_one _) (by omega) (by omega) (by omega))
      rw [hdl] at hnew hents
      have u0 := hL4.cell0
      have HC := Hid.intro (fun (w5 : World) h1 h2 => (⟨HL.out, hl, HLL.out.1, HLL.out.2.1, HLL.out.2.2, hlw, hnx, hnew, hents, hx4, hs4, h1, h2, hb⟩ : Cut w wA w4 w5 base l p n k g cap))
      have HB := Hid.intro hL4
      clear hnew hents hL4 hLx
      go_cut [] (fun w' => ∃ w5, Cut w wA w4 w5 base l p n k g cap ∧ w' = w5.setCell ⟨l.b, 0, none⟩ (.slice (some ⟨g, 0, none⟩) 32 cap))
      case first =>
        go_region_law (go_simp; go_at_call 41; refine HDEL.out.mono ?_; rintro e w5 ⟨rfl, hown, hgrow⟩; have hn5 := (hgrow.block l.b (hp_lt HB.out.node) (fun e => HB.out.row_ne (g := g) rfl HB.out.node (by injection e with e; exact e.symm))).trans HB.out.node; have s0 : w5.cell? ⟨l.b, 0, none⟩ = some (.slice (some ⟨g, 0, none⟩) 65 cap) := (by rw [hp_cell hn5]; rfl); have s1 : w5.frozen? ⟨l.b, 0, none⟩ = false := hp_frozen hn5 _)
        all_goals
          have R := HC.out w5 hown ⟨hgrow.os, hgrow.tape, hgrow.output, hgrow.size, hgrow.block⟩
          clear hown hgrow hn5
          go_wp2_with fail
          go_meet
          case rel => exact ⟨w5, R, rfl⟩
      case rest =>
        obtain ⟨w5, hcutd, hwE⟩ := hcut
        obtain ⟨hgl, hgb, n5, r5, en1, en2, hnb5, hF5, hs5⟩ := hcutd.facts
        have n6 : wc.heap[l.b]? = some (.cells #[.slice (some ⟨g, 0, none⟩) 32 cap, toP p, toP n, .slice none 0 0, .slice none 0 0] 44 (0, 0)) := by rw [hwE, hp_set_same _ _ _ _ _ _ _ n5]; rfl
        have hne1 : l.b ≠ wA.heap.size + 1 := by have := hp_lt HLL.out.1.node; have e : l.b < wA.heap.size := this; omega
        have hne2 : wA.heap.size + 1 ≠ l.b := Ne.symm hne1
        have r6 : wc.heap[wA.heap.size + 1]? = some (.cells #[.slice (some ⟨wA.heap.size, 0, none⟩) 33 65, .pointer none, .pointer none, .slice none 0 0, .slice none 0 0] 44 (0, 0)) := by rw [hwE, hp_set_ne _ _ _ _ hne2]; exact r5
        obtain ⟨x, hx⟩ : ∃ x, (insK k l.ks)[32]? = some x := ⟨_, List.getElem?_eq_getElem (by omega)⟩
        have hlne : wA.heap.size ≠ l.b := by have e : l.b < wA.heap.size := hp_lt HLL.out.1.node; omega
        have y0 : wc.cell? ⟨wA.heap.size, 0, none⟩ = some (.string x) := by
          rw [hwE, hp_cell_set_ne _ ⟨l.b, 0, none⟩ ⟨wA.heap.size, 0, none⟩ _ hlne]
          have := (en1.cells (by rw [hdl]) (j := 0) (by omega)).1
          rw [Nat.zero_mul] at this
          rw [this]
          congr 2
          rw [List.getElem_drop]
          rw [List.getElem?_eq_getElem (by omega)] at hx
          injection hx
        have z2 : wc.cell? ⟨l.b, 2, none⟩ = some (toP n) := by rw [hp_cell n6]; rfl
        have zf : wc.frozen? ⟨l.b, 2, none⟩ = false := hp_frozen n6 _
        have q0 : wc.cell? ⟨wA.heap.size + 1, 0, none⟩ = some (.slice (some ⟨wA.heap.size, 0, none⟩) 33 65) := by rw [hp_cell r6]; rfl
        have q1 : wc.cell? ⟨wA.heap.size + 1, 1, none⟩ = some (.pointer none) := by rw [hp_cell r6]; rfl
        have q2 : wc.cell? ⟨wA.heap.size + 1, 2, none⟩ = some (.pointer none) := by rw [hp_cell r6]; rfl
        have qf1 : wc.frozen? ⟨wA.heap.size + 1, 1, none⟩ = false := hp_frozen r6 _
        have qf2 : wc.frozen? ⟨wA.heap.size + 1, 2, none⟩ = false := hp_frozen r6 _
        cases n with
        | none =>
          have HD := Hid.intro (hcutd.done_none hx)
          have HE := Hid.intro hwE
          rw [← hwE] at HD
          have z2' : wc.cell? ⟨l.b, 2, none⟩ = some (.pointer none) := z2
          clear z2 t2 hcutd n5 r5 en1 en2 hnb5 hF5 n6 r6 hx HC HB HDEL HNL HLL hwE
          go_wp2_with fail
          go_ret2
          exact HD.out
        | some nb =>
          obtain ⟨hnn, cn, hcn, hcs⟩ := hnx nb rfl
          obtain ⟨hng, hn5', hnl⟩ := hnb5 nb cn rfl hcn
          have m6 : wc.heap[nb]? = some (.cells cn 44 (0, 0)) := by rw [hwE, hp_set_ne _ _ _ _ hnn]; exact hn5'
          have m1 : wc.cell? ⟨nb, 1, none⟩ = some cn[1] := by rw [hp_cell m6, Array.getElem?_eq_getElem]
          have mf : wc.frozen? ⟨nb, 1, none⟩ = false := hp_frozen m6 _
          have hne3 : nb ≠ wA.heap.size + 1 := by omega
          have hne4 : wA.heap.size + 1 ≠ nb := by omega
          have hne5 : l.b ≠ nb := Ne.symm hnn
          have hne6 : wA.heap.size ≠ nb := by omega
          have HD := Hid.intro (hcutd.done_some hx)
          rw [← hwE] at HD
          have z2' : wc.cell? ⟨l.b, 2, none⟩ = some (.pointer (some ⟨nb, 0, none⟩)) := z2
          clear z2 t2 hcutd n5 r5 en1 en2 hnb5 hF5 n6 r6 hx HC HB HDEL HNL HLL hwE m6 hn5' hcn hnx
          go_wp2_with fail
          go_ret2
          exact HD.out
end Go.Proofs.Ybulkckvy
