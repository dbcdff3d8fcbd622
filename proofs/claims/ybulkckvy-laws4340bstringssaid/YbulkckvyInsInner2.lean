import Derived.Test.YbulkckvyMid
set_option linter.unusedVariables false
set_option linter.unusedSimpArgs false
namespace Go.Proofs.Ybulkckvy
open Go.RowKit
attribute [local go_sem ↓] Go.wp_at_zero Go.wp_at_succ

/-- l has been split under the inner root, which does not know it yet. -/
def MidSplit (w : World) (base r : Nat) (vc vs : Value) (A B : List Leaf) (l : Leaf) (ss : List ByteArray) (k : ByteArray) (l1 l2 : Leaf) (x : ByteArray) (w' : World) : Prop :=
  (insK k l.ks)[32]? = some x ∧ l1.b = l.b ∧ l1.ks = (insK k l.ks).take 32 ∧ l2.ks = (insK k l.ks).drop 32 ∧
    InnerG w' base r vc vs ((A ++ l :: B).map (·.b)) (A ++ l1 :: l2 :: B) ss ∧ Fr (footL (A ++ l :: B)) w w' ∧ ∀ x ∈ footL (A ++ l1 :: l2 :: B), x ∈ footL (A ++ l :: B) ∨ w.heap.size ≤ x

/-- .. and now it does. -/
def InnSplit (w : World) (base r : Nat) (vc vs : Value) (A B : List Leaf) (l : Leaf) (ss : List ByteArray) (k : ByteArray) (w' : World) : Prop :=
  ∃ l1 l2 x vc' vs', (insK k l.ks)[32]? = some x ∧ l1.b = l.b ∧ l1.ks = (insK k l.ks).take 32 ∧ l2.ks = (insK k l.ks).drop 32 ∧
    Inner w' base r vc' vs' (A ++ l1 :: l2 :: B) (ss.take A.length ++ x :: ss.drop A.length) ∧ Fr (footI r vc vs (A ++ l :: B)) w w' ∧ ∀ x ∈ footI r vc' vs' (A ++ l1 :: l2 :: B), x ∈ footI r vc vs (A ++ l :: B) ∨ w.heap.size ≤ x

theorem ins_map {α β : Type} (f : α → β) (xs : List α) (i : Nat) (y : α) : (xs.map f).take i ++ [f y] ++ (xs.map f).drop i = (xs.take i ++ y :: xs.drop i).map f := by simp
theorem InnSplit.mk {w w4 W5 W7 : World} {base r : Nat} {vc vs : Value} {A B : List Leaf} {l : Leaf} {ss : List ByteArray} {k : ByteArray} {l1 l2 : Leaf} {x : ByteArray} {vs' vc' : Value} {o1 o2 : Obj} {g5 g7 : Nat}
    (h : MidSplit w base r vc vs A B l ss k l1 l2 x w4) (hs : Strs W5 base vs' (ss.take A.length ++ x :: ss.drop A.length)) (hg : (w4.alloc o1).grownBy W5 vs.ownBlock) (hg5 : vs'.ownBlock = some g5) (hgg5 : vs.ownBlock = some g5 ∨ (w4.alloc o1).heap.size ≤ g5)
    (hc : Ptrs W7 base vc' ((A ++ l1 :: l2 :: B).map (·.b))) (hg' : ((W5.setCell ⟨r, 4, none⟩ vs').alloc o2).grownBy W7 vc.ownBlock) (hg7 : vc'.ownBlock = some g7) (hgg7 : vc.ownBlock = some g7 ∨ ((W5.setCell ⟨r, 4, none⟩ vs').alloc o2).heap.size ≤ g7) :
    InnSplit w base r vc vs A B l ss k (W7.setCell ⟨r, 3, none⟩ vc') := by
  obtain ⟨h1, h2, h3, h4, hG, hF, hft⟩ := h
  obtain ⟨hG5, hF5⟩ := (hG.ext ((Ext.refl w4).alloc o1)).setSeps hg hs
  obtain ⟨hG7, hF7⟩ := (hG5.ext ((Ext.refl _).alloc o2)).setCh hg' hc
  have s1 := hF.size
  have s2 := hF5.size
  rw [hp_alloc_size] at s2 hgg5
  have s3 := hF7.size
  rw [hp_alloc_size] at s3 hgg7
  refine ⟨l1, l2, x, vc', vs', h1, h2, h3, h4, hG7.toI, ?_, ?_⟩
  · have f1 : Fr (footI r vc vs (A ++ l :: B)) w w4 := hF.mono (fun y hy => by simp [footI, hy])
    have f2 : Fr (footI r vc vs (A ++ l :: B)) (w4.alloc o1) (W5.setCell ⟨r, 4, none⟩ vs') := hF5.mono (fun y hy => by
      rcases List.mem_cons.1 hy with e | e
      · simp [footI, e]
      · simp only [footI, List.mem_cons, List.mem_append]; exact .inr (.inr (.inl e)))
    have f3 : Fr (footI r vc vs (A ++ l :: B)) ((W5.setCell ⟨r, 4, none⟩ vs').alloc o2) (W7.setCell ⟨r, 3, none⟩ vc') := hF7.mono (fun y hy => by
      rcases List.mem_cons.1 hy with e | e
      · simp [footI, e]
      · simp only [footI, List.mem_cons, List.mem_append]; exact .inr (.inl e))
    exact ((f1.alloc o1).trans f2).alloc o2 |>.trans f3
  · intro y hy
    simp only [footI, List.mem_cons, List.mem_append] at hy ⊢
    rcases hy with hy | hy | hy | hy
    · exact .inl (.inl hy)
    · rw [hg7] at hy
      have e : y = g7 := by simpa using hy
      rcases hgg7 with q | q
      · exact .inl (.inr (.inl (by rw [q, e]; simp)))
      · exact .inr (by omega)
    · rw [hg5] at hy
      have e : y = g5 := by simpa using hy
      rcases hgg5 with q | q
      · exact .inl (.inr (.inr (.inl (by rw [q, e]; simp))))
      · exact .inr (by omega)
    · rcases hft y hy with q | q
      · exact .inl (.inr (.inr (.inr q)))
      · exact .inr q

set_option maxRecDepth 100000 in
set_option maxHeartbeats 2000000 in
theorem insInner_split (base r : Nat) (vc vs : Value) (A B : List Leaf) (l : Leaf) (ss : List ByteArray) (k : ByteArray) (w : World) (h : Inner w base r vc vs (A ++ l :: B) ss) (hi : cidx k ss = A.length)
    (hr : Rising l.ks) (hss : Rising ss) (hs0 : 0 < ss.length) (hs1 : ss.length + 1 = A.length + B.length + 1) (hlen : l.ks.length = 64) (hAB : A.length + B.length ≤ 62) (hb : base ≤ w.heap.size) :
    Calls Yba.prog 28 #[.pointer (some ⟨r, 0, none⟩), .agg #[.string k, .slice none 0 0, .bool false]] w fun e w' => e = .returned (.tuple #[.string ⟨#[]⟩, .pointer none]) ∧ InnSplit w base r vc vs A B l ss k w' := by
  have hsa : ss.length ≤ A.length + B.length := by omega
  have hsb : A.length + B.length ≤ ss.length := by omega
  clear hs1
  have hx0 : Ext w (w.alloc (.cells #[.string k, .slice none 0 0, .bool false] 81)) := (Ext.refl w).alloc _
  have h0 := h.ext hx0
  have hblen : ((A ++ l :: B).map (·.b)).length = A.length + B.length + 1 := by simp; omega
  obtain ⟨gc, cc, hvc, hcc⟩ := h.ch.form (by omega)
  obtain ⟨gs, cs, hvs, hcs⟩ := h.se.form' hs0
  rw [hblen] at hvc
  subst hvc; subst hvs
  have c3 := h0.cell3
  have c4 := h0.cell4
  have hbox : (w.alloc (.cells #[.string k, .slice none 0 0, .bool false] 81)).heap[w.heap.size]? = some (.cells #[.string k, .slice none 0 0, .bool false] 81 (0, 0)) := hp_alloc_new _ _
  have HCH := Hid.intro (child_some base gs cs r ss k _ h0.se hss (by omega) c4)
  rw [hi] at HCH
  have hjA : ((A ++ l :: B).map (·.b))[A.length]? = some l.b := by simp
  go_enter Yba.func28, Yba.ntmps28
  go_upto_region 15 with (first | (go_at_call 26; refine (leaf_some _ _ _ _ _ c3).mono ?_; rintro e w1 ⟨rfl, rfl⟩) | (go_at_call 42; refine HCH.out.mono ?_; rintro e w2 ⟨rfl, hx2⟩))
  have h2 := h0.ext hx2
  have d3 := h2.cell3
  have hbox2 := hx2.some hbox
  have e0 : w2.cell? ⟨w.heap.size, 0, none⟩ = some (.string k) := by rw [hp_cell hbox2]; rfl
  have e1 : w2.cell? ⟨w.heap.size, 1, none⟩ = some (.slice none 0 0) := by rw [hp_cell hbox2]; rfl
  have e2 : w2.cell? ⟨w.heap.size, 2, none⟩ = some (.bool false) := by rw [hp_cell hbox2]; rfl
  have hcj : w2.cell? ⟨gc, A.length, none⟩ = some (.pointer (some ⟨l.b, 0, none⟩)) := by
    have := h2.ch.cell (by rw [hblen]) (j := A.length) (by omega)
    rw [this]
    have hh := hjA
    rw [List.getElem?_eq_getElem (by omega)] at hh
    injection hh with hh
    rw [hh]
  have hx3 : Ext w2 w2.drew := (Ext.refl w2).drew
  have h3 := h2.ext hx3
  have hnx : NextOk w2.drew l (nextB B none) := fun nb hn => by
    have hmem : nb ∈ B.map (·.b) := by
      cases B with
      | nil => cases hn
      | cons m B => simp only [nextB, Option.some.injEq] at hn; simp [hn]
    refine ⟨fun e => ?_, ?_⟩
    · have hnd := h.nd
      simp only [List.map_append, List.map_cons] at hnd
      rw [List.nodup_append, List.nodup_cons] at hnd
      exact hnd.2.1.1 (e ▸ hmem)
    · obtain ⟨m, hm, rfl⟩ := List.mem_map.1 hmem
      obtain ⟨p', n', hM⟩ := seg_leaf h3.seg m (by simp [hm])
      exact ⟨_, hM.node, rfl⟩
  have HI := Hid.intro (insLeaf_split base l (lastB A none) (nextB B none) k w2.drew h3.leaf hr hlen (by have := (hx0.trans (hx2.trans hx3)).le; omega) hnx)
  have HX := Hid.intro (hx0.trans (hx2.trans hx3))
  have HH := Hid.intro h
  have hj1 : (A.length : Int) < (A.length : Int) + (B.length : Int) + 1 := by omega
  have hj0 : (0 : Int) ≤ (A.length : Int) := by omega
  clear h2 h0 h h3 hnx
  go_cut [4, 5] (fun v4 v5 w' => ∃ l1 l2 x, v4 = .string x ∧ v5 = .pointer (some ⟨l2.b, 0, none⟩) ∧ MidSplit w base r (.slice (some ⟨gc, 0, none⟩) (A.length + B.length + 1) cc) (.slice (some ⟨gs, 0, none⟩) ss.length cs) A B l ss k l1 l2 x w')
  case first =>
    go_region_law (go_simp; go_at_call 28; refine HI.out.mono ?_; rintro e w4 hSP; obtain ⟨l1, l2, x, rfl, hM⟩ := HH.out.split (hSP.of_ext HX.out))
    all_goals
      clear hSP
      go_wp2_with fail
      go_meet
      case rel => exact ⟨l1, l2, x, rfl, rfl, hM⟩
  case rest =>
    obtain ⟨l1, l2, x, rfl, rfl, hM⟩ := hcut
    have hG := hM.2.2.2.2.1
    have hFs := hM.2.2.2.2.2.1.size
    have hxa : Ext wc (wc.alloc (.cells #[.string x] 9)) := (Ext.refl wc).alloc _
    have hGa := hG.ext hxa
    have a3 := hG.cell3
    have a4 := hG.cell4
    obtain ⟨cgs, hcgs⟩ := own_ty hG.se (g := gs) rfl
    have hgsl : gs < wc.heap.size := hp_lt hcgs
    obtain ⟨cgc, hcgc⟩ := own_ty hG.ch (g := gc) rfl
    have hgcl : gc < wc.heap.size := hp_lt hcgc
    have HI1 := Hid.intro (InsS.ins_any base ss.length A.length wc.heap.size (.slice (some ⟨gs, 0, none⟩) ss.length cs) (ss.map Value.string) [.string x] (wc.alloc (.cells #[.string x] 9)) hGa.se rfl (hp_alloc_new _ _) (fun e => by have e' : some gs = some wc.heap.size := e; injection e' with e'; omega)
      (by simp [Value.oneCell']) (fun u hu => by obtain ⟨y, _, rfl⟩ := List.mem_map.1 hu; rfl) (by omega) (by omega) (by rw [hp_alloc_size]; omega))
    have HM := Hid.intro hM
    have HGa := Hid.intro hGa
    clear hM hG hGa HI HH HX HCH hcgs hcgc
    go_wp2_with fail
    refine HI1.out.mono ?_
    rintro e W5 ⟨v5, g5, rfl, hown5, hgrow5, hg5, hgg5⟩
    obtain ⟨g5', cap5, rfl⟩ := own_form hown5
    rw [ins_map] at hown5
    have hS5 : Strs W5 base (.slice (some ⟨g5', 0, none⟩) (ss.length + 1) cap5) (ss.take A.length ++ x :: ss.drop A.length) := by
      have hl5 : (ss.take A.length ++ x :: ss.drop A.length).length = ss.length + 1 := by simp; omega
      unfold Strs; rw [hl5]; exact hown5
    obtain ⟨hG5, hF5⟩ := HGa.out.setSeps hgrow5 hS5
    have hn5 : W5.heap[r]? = _ := (hgrow5.block r (hp_lt HGa.out.node) (fun e => by
      obtain ⟨c', hc'⟩ := own_ty HGa.out.se e.symm
      exact ty_ne HGa.out.node hc' (by decide) rfl)).trans HGa.out.node
    have b3 : W5.cell? ⟨r, 3, none⟩ = some (.slice (some ⟨gc, 0, none⟩) (A.length + B.length + 1) cc) := by rw [hp_cell hn5]; rfl
    have b4 : W5.cell? ⟨r, 4, none⟩ = some (.slice (some ⟨gs, 0, none⟩) ss.length cs) := by rw [hp_cell hn5]; rfl
    have bf : W5.frozen? ⟨r, 4, none⟩ = false := hp_frozen hn5 _
    have hs5 := hgrow5.size
    rw [hp_alloc_size] at hs5
    have hsz5 : (W5.setCell ⟨r, 4, none⟩ (.slice (some ⟨g5', 0, none⟩) (ss.length + 1) cap5)).heap.size = W5.heap.size := hp_set_size _ _ _
    have hG5a := hG5.ext ((Ext.refl _).alloc (.cells #[.pointer (some ⟨l2.b, 0, none⟩)] 39))
    have HI2 := Hid.intro (InsN.ins_any base (A.length + B.length + 1) (A.length + 1) (W5.setCell ⟨r, 4, none⟩ (.slice (some ⟨g5', 0, none⟩) (ss.length + 1) cap5)).heap.size (.slice (some ⟨gc, 0, none⟩) (A.length + B.length + 1) cc) (((A ++ l :: B).map (·.b)).map ptrV) [ptrV l2.b]
      ((W5.setCell ⟨r, 4, none⟩ (.slice (some ⟨g5', 0, none⟩) (ss.length + 1) cap5)).alloc (.cells #[.pointer (some ⟨l2.b, 0, none⟩)] 39)) (by have := hG5a.ch; unfold Ptrs at this; rw [hblen] at this; exact this) rfl (hp_alloc_new _ _) (fun e => by have e' : some gc = some _ := e; injection e' with e'; omega)
      (by simp [Value.oneCell', ptrV]) (fun u hu => by obtain ⟨y, _, rfl⟩ := List.mem_map.1 hu; rfl) (by omega) (by omega) (by rw [hp_alloc_size]; omega))
    rw [show (((A.length + 1 : Nat)) : Int) = (A.length : Int) + 1 from by omega, hsz5] at HI2
    have HG5a := Hid.intro hG5a
    have HK := Hid.intro (And.intro hgrow5 (And.intro hS5 (And.intro hg5 hgg5)))
    clear hn5 hG5 hF5 hG5a hown5 hgrow5 hS5 hg5 hgg5 HI1
    go_wp2_with fail
    refine HI2.out.mono ?_
    rintro e W7 ⟨v7, g7, rfl, hown7, hgrow7, hg7, hgg7⟩
    obtain ⟨g7', cap7, rfl⟩ := own_form hown7
    have hbs : (((A ++ l :: B).map (·.b)).take (A.length + 1) ++ l2.b :: ((A ++ l :: B).map (·.b)).drop (A.length + 1)) = (A ++ l1 :: l2 :: B).map (·.b) := by
      have e1 : (A ++ l :: B).map (·.b) = (A.map (·.b) ++ [l.b]) ++ B.map (·.b) := by simp
      rw [e1, List.take_left' (by simp), List.drop_left' (by simp)]
      simp [HM.out.2.1]
    rw [ins_map ptrV, hbs] at hown7
    have hS7 : Ptrs W7 base (.slice (some ⟨g7', 0, none⟩) (A.length + B.length + 1 + 1) cap7) ((A ++ l1 :: l2 :: B).map (·.b)) := by
      have hl7 : ((A ++ l1 :: l2 :: B).map (·.b)).length = A.length + B.length + 1 + 1 := by simp; omega
      unfold Ptrs; rw [hl7]; exact hown7
    have hn7 : W7.heap[r]? = _ := (hgrow7.block r (hp_lt HG5a.out.node) (fun e => by
      obtain ⟨c', hc'⟩ := own_ty HG5a.out.ch e.symm
      exact ty_ne HG5a.out.node hc' (by decide) rfl)).trans HG5a.out.node
    have m3 : W7.cell? ⟨r, 3, none⟩ = some (.slice (some ⟨gc, 0, none⟩) (A.length + B.length + 1) cc) := by rw [hp_cell hn7]; rfl
    have mf : W7.frozen? ⟨r, 3, none⟩ = false := hp_frozen hn7 _
    have R := InnSplit.mk HM.out HK.out.2.1 HK.out.1 HK.out.2.2.1 HK.out.2.2.2 hS7 hgrow7 hg7 hgg7
    have HR := Hid.intro R
    clear R hn7 hS7 hown7 hgrow7 hg7 hgg7 HG5a HK HI2 HM HGa
    go_wp2_with fail
    go_ret2
    exact ⟨rfl, HR.out⟩
end Go.Proofs.Ybulkckvy
