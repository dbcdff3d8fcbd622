import Derived.Test.YbulkckvyInner
set_option linter.unusedVariables false
set_option linter.unusedSimpArgs false
namespace Go.Proofs.Ybulkckvy
open Go.RowKit
attribute [local go_sem ↓] Go.wp_at_zero Go.wp_at_succ

theorem Grew.of_ext {w W w' : World} {base : Nat} {l : Leaf} {p n : Option Nat} {k : ByteArray} (hx : Ext w W) (h : Grew W base l p n k w') : Grew w base l p n k w' := by
  obtain ⟨g, cap, h1, h2, h3⟩ := h
  refine ⟨g, cap, h1, Fr.trans (Fr.of_ext hx _) h2, ?_⟩
  have := hx.le
  rcases h3 with h3 | h3
  · exact .inl h3
  · exact .inr (by omega)
theorem SplitPost.of_ext {w W w' : World} {base : Nat} {l : Leaf} {p n : Option Nat} {k : ByteArray} {e : Ending} (hx : Ext w W) (h : SplitPost W base l p n k e w') : SplitPost w base l p n k e w' := by
  obtain ⟨g, cap, rb, rg, x, h1, h2, h3, h4, h5, h6, h7, h8, h9, h10, h11⟩ := h
  have := hx.le
  refine ⟨g, cap, rb, rg, x, h1, h2, h3, h4, Fr.trans (Fr.of_ext hx _) h5, ?_, by omega, by omega, h9, h10, fun nb c hn hc => h11 nb c hn (hx.some hc)⟩
  rcases h6 with h6 | h6
  · exact .inl h6
  · exact .inr (by omega)
theorem Inner.ext {w w' : World} {base r : Nat} {vc vs : Value} {ls : List Leaf} {ss : List ByteArray} (h : Inner w base r vc vs ls ss) (hx : Ext w w') : Inner w' base r vc vs ls ss :=
  ⟨hx.some h.node, h.ch.ext hx, h.se.ext hx, h.low, seg_carry (Fr.of_ext hx []) _ _ _ h.seg (by simp), h.nd, h.nr, h.nv⟩
theorem Inner.cell3 {w : World} {base r : Nat} {vc vs : Value} {ls : List Leaf} {ss : List ByteArray} (h : Inner w base r vc vs ls ss) : w.cell? ⟨r, 3, none⟩ = some vc := by rw [hp_cell h.node]; rfl
theorem Inner.cell4 {w : World} {base r : Nat} {vc vs : Value} {ls : List Leaf} {ss : List ByteArray} (h : Inner w base r vc vs ls ss) : w.cell? ⟨r, 4, none⟩ = some vs := by rw [hp_cell h.node]; rfl
theorem Inner.leaf {w : World} {base r : Nat} {vc vs : Value} {A B : List Leaf} {l : Leaf} {ss : List ByteArray} (h : Inner w base r vc vs (A ++ l :: B) ss) : LeafAt w base l (lastB A none) (nextB B none) := by
  have hs := h.seg
  rw [seg_append] at hs
  exact hs.2.1

set_option maxRecDepth 100000 in
set_option maxHeartbeats 1000000 in
theorem insInner_fit (base r : Nat) (vc vs : Value) (A B : List Leaf) (l : Leaf) (ss : List ByteArray) (k : ByteArray) (w : World) (h : Inner w base r vc vs (A ++ l :: B) ss) (hi : cidx k ss = A.length)
    (hr : Rising l.ks) (hss : Rising ss) (hs0 : 0 < ss.length) (hs1 : ss.length ≤ 1000) (hlen : l.ks.length < 64) (hAB : A.length + B.length ≤ 1000) (hb : base ≤ w.heap.size) :
    Calls Yba.prog 28 #[.pointer (some ⟨r, 0, none⟩), .agg #[.string k, .slice none 0 0, .bool false]] w fun e w' => e = .returned (.tuple #[.string ⟨#[]⟩, .pointer none]) ∧ Grew w base l (lastB A none) (nextB B none) k w' := by
  have hx0 : Ext w (w.alloc (.cells #[.string k, .slice none 0 0, .bool false] 81)) := (Ext.refl w).alloc _
  have h0 := h.ext hx0
  have hblen : ((A ++ l :: B).map (·.b)).length = A.length + B.length + 1 := by simp; omega
  obtain ⟨gc, cc, hvc, hcc⟩ := h.ch.form (by omega)
  obtain ⟨gs, cs, hvs, hcs⟩ := h.se.form' hs0
  rw [hblen] at hvc
  subst hvc; subst hvs
  have c3 := h0.cell3
  have c4 := h0.cell4
  have hbox : (w.alloc (.cells #[.string k, .slice none 0 0, .bool false] 81)).heap[w.heap.size]? = some (.cells #[.string k, .slice none 0 0, .bool false] 81 (0, 0)) := hp_alloc_new _ _
  have HCH := Hid.intro (child_some base gs cs r ss k _ h0.se hss (by omega) c4)
  rw [hi] at HCH
  have hjA : ((A ++ l :: B).map (·.b))[A.length]? = some l.b := by simp
  go_enter Yba.func28, Yba.ntmps28
  go_upto_region 15 with (first | (go_at_call 26; refine (leaf_some _ _ _ _ _ c3).mono ?_; rintro e w1 ⟨rfl, rfl⟩) | (go_at_call 42; refine HCH.out.mono ?_; rintro e w2 ⟨rfl, hx2⟩))
  have h2 := h0.ext hx2
  have d3 := h2.cell3
  have hbox2 := hx2.some hbox
  have e0 : w2.cell? ⟨w.heap.size, 0, none⟩ = some (.string k) := by rw [hp_cell hbox2]; rfl
  have e1 : w2.cell? ⟨w.heap.size, 1, none⟩ = some (.slice none 0 0) := by rw [hp_cell hbox2]; rfl
  have e2 : w2.cell? ⟨w.heap.size, 2, none⟩ = some (.bool false) := by rw [hp_cell hbox2]; rfl
  have hcj : w2.cell? ⟨gc, A.length, none⟩ = some (.pointer (some ⟨l.b, 0, none⟩)) := by
    have := h2.ch.cell (by rw [hblen]) (j := A.length) (by omega)
    rw [this]
    have hh := hjA
    rw [List.getElem?_eq_getElem (by omega)] at hh
    injection hh with hh
    rw [hh]
  have hx3 : Ext w2 w2.drew := (Ext.refl w2).drew
  have HI := Hid.intro (insLeaf_fit base l (lastB A none) (nextB B none) k w2.drew (h2.ext hx3).leaf hr hlen (by have := (hx0.trans (hx2.trans hx3)).le; omega))
  have HX := Hid.intro (hx0.trans (hx2.trans hx3))
  have hj1 : (A.length : Int) < (A.length : Int) + (B.length : Int) + 1 := by omega
  have hj0 : (0 : Int) ≤ (A.length : Int) := by omega
  clear h2 h0 h
  go_cut [4, 5] (fun v4 v5 w' => v4 = .string ⟨#[]⟩ ∧ v5 = .pointer none ∧ Grew w base l (lastB A none) (nextB B none) k w')
  case first =>
    go_region_law (go_simp; go_at_call 28; refine HI.out.mono ?_; rintro e w4 ⟨rfl, hG⟩)
    all_goals
      have R := hG.of_ext HX.out
      clear hG
      go_wp2_with fail
      go_meet
      case rel => exact ⟨rfl, rfl, R⟩
  case rest =>
    obtain ⟨rfl, rfl, hG⟩ := hcut
    go_wp2_with fail
    go_ret2
    exact ⟨rfl, hG⟩
end Go.Proofs.Ybulkckvy
