import Derived.Test.YbulkckvyTurn
set_option linter.unusedVariables false
set_option linter.unusedSimpArgs false
namespace Go.Proofs.Ybulkckvy
open Go.RowKit
attribute [local go_sem ↓] Go.wp_at_zero Go.wp_at_succ

set_option maxRecDepth 100000 in
set_option maxHeartbeats 1000000 in
theorem delLeaf_none (base : Nat) (l : Leaf) (p n : Option Nat) (k : ByteArray) (w : World) (hl : LeafAt w base l p n) (hr : Rising l.ks) (hlen : l.ks.length ≤ 64) (hf : foundB k l.ks = false) :
    Calls Yba.prog 31 #[.pointer (some ⟨l.b, 0, none⟩), .string k] w fun e w' => e = .returned (.bool false) ∧ Ext w w' := by
  have c0 := hl.cell0
  have c3 := hl.cell3
  have HB := Hid.intro (bsf_any base l.v l.ks k w hl.ents hr (by omega))
  rw [hf] at HB
  clear hf hl
  go_enter Yba.func31, Yba.ntmps31
  go_wp2_with (first | (go_at_call 26; refine (leaf_nil _ _ c3).mono ?_; rintro e w1 ⟨rfl, h⟩; obtain rfl := h.symm) | (go_at_call 38; refine HB.out.mono ?_; rintro e w2 ⟨rfl, hx⟩))
  go_ret
  exact ⟨rfl, hx⟩

/-- The leaf l without k. -/
def DelPost (w : World) (base : Nat) (l : Leaf) (p n : Option Nat) (k : ByteArray) (w' : World) : Prop := ∃ l' : Leaf, l'.ks = delK k l.ks ∧ Turned w base l p n l' w'

/-- Behind slices.Delete and the store. -/
theorem Turned.cut {w W W4 : World} {base : Nat} {l : Leaf} {p n : Option Nat} {g cap i j : Nat} (hl : LeafAt W base l p n) (hx : Ext w W) (hv : l.v = .slice (some ⟨g, 0, none⟩) l.ks.length cap) (hij : i < j) (hj : j ≤ l.ks.length)
    (hown : W4.ownsRow base 81 3 (.slice (some ⟨g, 0, none⟩) (i + (l.ks.length - j)) cap) (i + (l.ks.length - j)) ((entsC l.ks).take (i * 3) ++ (entsC l.ks).drop (j * 3))) (hgrow : W.grownBy W4 (some g)) :
    Turned w base l p n ⟨l.b, .slice (some ⟨g, 0, none⟩) (i + (l.ks.length - j)) cap, l.ks.take i ++ l.ks.drop j⟩ (W4.setCell ⟨l.b, 0, none⟩ (.slice (some ⟨g, 0, none⟩) (i + (l.ks.length - j)) cap)) := by
  refine Turned.mk hl hx ?_ (by rw [hv]; exact hgrow) (fun g' hg => .inl (by rw [hv]; exact hg))
  unfold Ents
  rw [entsC_take, entsC_drop, ← entsC_append] at hown
  rw [show (l.ks.take i ++ l.ks.drop j).length = i + (l.ks.length - j) by simp; omega]
  exact hown
theorem LeafAt.stay {w W4 : World} {base : Nat} {l : Leaf} {p n : Option Nat} (hl : LeafAt w base l p n) (hgrow : w.grownBy W4 l.v.ownBlock) : W4.cell? ⟨l.b, 0, none⟩ = some l.v ∧ W4.frozen? ⟨l.b, 0, none⟩ = false := by
  have h := (hgrow.block l.b (hp_lt hl.node) (fun e => hl.row_ne e.symm hl.node rfl)).trans hl.node
  exact ⟨by rw [hp_cell h]; rfl, hp_frozen h _⟩

/-- The leaf l without its key at i. -/
def DelAt (w : World) (base : Nat) (l : Leaf) (p n : Option Nat) (i : Nat) (w' : World) : Prop := ∃ l' : Leaf, l'.ks = l.ks.take i ++ l.ks.drop (i + 1) ∧ Turned w base l p n l' w'
def DelRet (w : World) (base : Nat) (l : Leaf) (p n : Option Nat) (i g cap : Nat) (e : Ending) (w' : World) : Prop :=
  ∃ m, e = .returned (.slice (some ⟨g, 0, none⟩) m cap) ∧ w'.cell? ⟨l.b, 0, none⟩ = some (.slice (some ⟨g, 0, none⟩) l.ks.length cap) ∧ w'.frozen? ⟨l.b, 0, none⟩ = false ∧ DelAt w base l p n i (w'.setCell ⟨l.b, 0, none⟩ (.slice (some ⟨g, 0, none⟩) m cap))
theorem del_call {w W : World} {base : Nat} {l : Leaf} {p n : Option Nat} {g cap i : Nat} (hl : LeafAt w base l p n) (hx : Ext w W) (hv : l.v = .slice (some ⟨g, 0, none⟩) l.ks.length cap) (hi : i < l.ks.length) (hlen : l.ks.length ≤ 64) :
    W.cell? ⟨l.b, 0, none⟩ = some (.slice (some ⟨g, 0, none⟩) l.ks.length cap) ∧ Calls Yba.prog 41 #[.slice (some ⟨g, 0, none⟩) l.ks.length cap, .int .i64 (i : Int), .int .i64 ((i : Int) + 1)] W (DelRet w base l p n i g cap) := by
  have hlW := hl.ext hx
  refine ⟨by have := hlW.cell0; rwa [hv] at this, ?_⟩
  have he := hlW.ents
  rw [hv] at he
  have hd := InsE.del_any base l.ks.length i (i + 1) g cap (entsC l.ks) W he (entsC_one _) (by omega) (by omega) (by omega)
  rw [show ((i + 1 : Nat) : Int) = (i : Int) + 1 by omega] at hd
  refine hd.mono ?_
  rintro e w' ⟨rfl, hown, hgrow⟩
  obtain ⟨q1, q2⟩ := hlW.stay (by rw [hv]; exact hgrow)
  rw [hv] at q1
  exact ⟨_, rfl, q1, q2, _, rfl, Turned.cut hlW hx hv (by omega) (by omega) hown hgrow⟩

set_option maxRecDepth 100000 in
set_option maxHeartbeats 1000000 in
theorem delLeaf_some (base : Nat) (l : Leaf) (p n : Option Nat) (k : ByteArray) (w : World) (hl : LeafAt w base l p n) (hr : Rising l.ks) (hlen : l.ks.length ≤ 64) (hf : foundB k l.ks = true) :
    Calls Yba.prog 31 #[.pointer (some ⟨l.b, 0, none⟩), .string k] w fun e w' => e = .returned (.bool true) ∧ DelPost w base l p n k w' := by
  have c0 := hl.cell0
  have c3 := hl.cell3
  have HB := Hid.intro (bsf_any base l.v l.ks k w hl.ents hr (by omega))
  have hpos := foundB_lt hf
  rw [hf] at HB
  obtain ⟨g, cap, hv⟩ : ∃ g cap, l.v = .slice (some ⟨g, 0, none⟩) l.ks.length cap := by
    rcases hl.ents.form with ⟨_, e⟩ | ⟨g, cap, cur, e, _⟩
    · rw [e] at hpos; simp at hpos
    · exact ⟨g, cap, e⟩
  have hi63 : (pos k l.ks : Int) + 1 ≤ 64 := by omega
  have HD := Hid.intro (fun W (hx : Ext w W) => del_call (i := pos k l.ks) hl hx hv hpos hlen)
  rw [hv] at c0 HB
  clear hf hl hv
  go_enter Yba.func31, Yba.ntmps31
  go_wp2_with (first | (go_at_call 26; refine (leaf_nil _ _ c3).mono ?_; rintro e w1 ⟨rfl, h⟩; obtain rfl := h.symm) | (go_at_call 38; refine HB.out.mono ?_; rintro e w2 ⟨rfl, hx⟩; have HC := Hid.intro (HD.out w2 hx).2; have d0 := (HD.out w2 hx).1) | (go_at_call 41; refine HC.out.mono ?_; rintro e w3 ⟨m, rfl, e1, e2, R⟩; have HR := Hid.intro R; clear R))
  go_ret
  exact ⟨rfl, HR.out⟩

set_option maxRecDepth 100000 in
set_option maxHeartbeats 1000000 in
theorem underfull_leaf (base : Nat) (l : Leaf) (p n : Option Nat) (w : World) (hl : LeafAt w base l p n) :
    Calls Yba.prog 48 #[.pointer (some ⟨l.b, 0, none⟩)] w fun e w' => e = .returned (.bool (decide ((l.ks.length : Int) < 32))) ∧ w' = w := by
  have c0 := hl.cell0
  have c3 := hl.cell3
  obtain ⟨a, cap, hv⟩ : ∃ a cap, l.v = .slice a l.ks.length cap := by
    rcases hl.ents.form with ⟨e1, e2⟩ | ⟨g, cap, cur, e, _⟩
    · rw [e1, e2]; exact ⟨none, 0, rfl⟩
    · exact ⟨_, cap, e⟩
  rw [hv] at c0
  clear hl hv
  go_enter Yba.func48, Yba.ntmps48
  go_wp2_with (go_at_call 26; refine (leaf_nil _ _ c3).mono ?_; rintro e w1 ⟨rfl, h⟩; obtain rfl := h.symm)
  go_ret
  exact ⟨rfl, rfl⟩
set_option maxRecDepth 100000 in
set_option maxHeartbeats 1000000 in
theorem spare_leaf (base : Nat) (l : Leaf) (p n : Option Nat) (w : World) (hl : LeafAt w base l p n) :
    Calls Yba.prog 61 #[.pointer (some ⟨l.b, 0, none⟩)] w fun e w' => e = .returned (.bool (decide (32 < (l.ks.length : Int)))) ∧ w' = w := by
  have c0 := hl.cell0
  have c3 := hl.cell3
  obtain ⟨a, cap, hv⟩ : ∃ a cap, l.v = .slice a l.ks.length cap := by
    rcases hl.ents.form with ⟨e1, e2⟩ | ⟨g, cap, cur, e, _⟩
    · rw [e1, e2]; exact ⟨none, 0, rfl⟩
    · exact ⟨_, cap, e⟩
  rw [hv] at c0
  clear hl hv
  go_enter Yba.func61, Yba.ntmps61
  go_wp2_with (go_at_call 26; refine (leaf_nil _ _ c3).mono ?_; rintro e w1 ⟨rfl, h⟩; obtain rfl := h.symm)
  go_ret
  exact ⟨rfl, rfl⟩
end Go.Proofs.Ybulkckvy
