import Derived.Test.YbulkckvyFind2
set_option linter.unusedVariables false
set_option linter.unusedSimpArgs false
namespace Go.Proofs.Ybulkckvy
open Go.RowKit
attribute [local go_sem ↓] Go.wp_at_zero Go.wp_at_succ

/-- The two boxes of find: the node, the predicate. -/
structure Boxes (w : World) (kb cur : Nat) (wr : World) : Prop where
  b0 : wr.heap[w.heap.size]? = some (.cells #[.pointer (some ⟨cur, 0, none⟩)] 39 (0, 0))
  b1 : wr.heap[w.heap.size + 1]? = some (.cells #[.func (.func 51) #[] #[.pointer (some ⟨kb, 0, none⟩)]] 30 (0, 0))
  ext : Ext w wr
theorem Boxes.n {w wr : World} {kb cur : Nat} (h : Boxes w kb cur wr) : wr.cell? ⟨w.heap.size, 0, none⟩ = some (.pointer (some ⟨cur, 0, none⟩)) := by rw [hp_cell h.b0]; rfl
theorem Boxes.o {w wr : World} {kb cur : Nat} (h : Boxes w kb cur wr) : wr.cell? ⟨w.heap.size + 1, 0, none⟩ = some (.func (.func 51) #[] #[.pointer (some ⟨kb, 0, none⟩)]) := by rw [hp_cell h.b1]; rfl
theorem Boxes.go {w wr w' : World} {kb cur : Nat} (h : Boxes w kb cur wr) (hx : Ext wr w') : Boxes w kb cur w' := ⟨hx.some h.b0, hx.some h.b1, h.ext.trans hx⟩
theorem Boxes.set {w wr : World} {kb cur : Nat} (h : Boxes w kb cur wr) (c : Nat) : Boxes w kb c (wr.setCell ⟨w.heap.size, 0, none⟩ (.pointer (some ⟨c, 0, none⟩))) :=
  ⟨by rw [hp_set_same _ _ _ _ _ _ _ h.b0]; rfl, by rw [hp_set_ne _ _ _ _ (by simp)]; exact h.b1, h.ext.set _ _ (Nat.le_refl _)⟩

set_option maxRecDepth 100000 in
set_option maxHeartbeats 2000000 in
theorem find_any (base rt m0 kb gc cc gs cs n : Nat) (l : Leaf) (p q : Option Nat) (ss : List ByteArray) (key : ByteArray) (w : World) (hm : (m0 = 0 ∧ rt = l.b) ∨ (m0 = 1 ∧ Spot w base rt gc cc gs cs (pos key ss) n ss l p q ∧ pos key ss < n)) (hl : LeafAt w base l p q) (hr : Rising l.ks) (hn : l.ks.length ≤ 64) (hrs : Rising ss) (hss : ss.length ≤ 1000) (hk : w.cell? ⟨kb, 0, none⟩ = some (.string key)) :
    Calls Yba.prog 66 #[.pointer (some ⟨rt, 0, none⟩), .func (.func 51) #[] #[.pointer (some ⟨kb, 0, none⟩)]] w fun e w' => e = .returned (.tuple #[.pointer (some ⟨l.b, 0, none⟩), .int .i64 (pos key l.ks : Int)]) ∧ Ext w w' := by
  have hB0 : Boxes w kb rt ((w.alloc (.cells #[.pointer (some ⟨rt, 0, none⟩)] 39)).alloc (.cells #[.func (.func 51) #[] #[.pointer (some ⟨kb, 0, none⟩)]] 30)) := by
    refine ⟨by rw [hp_alloc_lt _ _ _ (by rw [hp_alloc_size]; omega), hp_alloc_new], ?_, ((Ext.refl w).alloc _).alloc _⟩
    have := hp_alloc_new (w.alloc (.cells #[.pointer (some ⟨rt, 0, none⟩)] 39)) (.cells #[.func (.func 51) #[] #[.pointer (some ⟨kb, 0, none⟩)]] 30)
    rwa [hp_alloc_size] at this
  have HM := Hid.intro hm
  have HB0 := Hid.intro hB0
  clear hm hB0
  go_enter Yba.func66, Yba.ntmps66
  go_wp2_with fail
  go_loopg [] m0 (fun m wr => (m = 0 ∧ Boxes w kb l.b wr) ∨ (m = 1 ∧ m0 = 1 ∧ Boxes w kb rt wr))
  case atStart =>
    rcases HM.out with ⟨h0, hrt⟩ | ⟨h1, _⟩
    · exact .inl ⟨h0, hrt ▸ HB0.out⟩
    · exact .inr ⟨h1, h1, HB0.out⟩
  case round =>
    rcases hrel with ⟨rfl, hB⟩ | ⟨rfl, hm1, hB⟩
    · have hlr := hl.ext hB.ext
      have d0 := hB.n
      have d3 := hlr.cell3
      have e0 := hlr.cell0
      obtain ⟨av, capv, hv⟩ : ∃ a cap, l.v = .slice a l.ks.length cap := by
        rcases hlr.ents.form with ⟨e1, e2⟩ | ⟨g, cap, cur, e, _⟩
        · rw [e1, e2]; exact ⟨none, 0, rfl⟩
        · exact ⟨_, cap, e⟩
      rw [hv] at e0
      have hBd := hB.go ((Ext.refl wr).drew)
      have HS := Hid.intro (search_leaf base (w.heap.size + 1) w.heap.size kb l p q key wr.drew (hl.ext hBd.ext) hr hn hBd.o (ext_cell hBd.ext hk) hBd.n)
      have HX := Hid.intro hBd.ext
      clear hBd hlr hB HM HB0
      go_upto_region 3 with (go_at_call 26; refine (leaf_nil _ _ d3).mono ?_; rintro e w1 ⟨rfl, h⟩; obtain rfl := h.symm)
      go_region_law (go_simp; go_at_call 57; refine HS.out.mono ?_; rintro e w2 ⟨rfl, hx2⟩; have d2 := ext_cell hx2 (show wr.drew.cell? _ = _ from d0))
      all_goals
        go_wp2_with fail
        go_ret2
        exact ⟨rfl, HX.out.trans hx2⟩
    · obtain ⟨_, hS, hlt⟩ := HM.out.resolve_left (fun h => by omega)
      have hSr := hS.ext hB.ext
      have d0 := hB.n
      have d3 := hSr.c3
      have d4 := hSr.c4
      have hBd := hB.go ((Ext.refl wr).drew)
      have hSd := hS.ext hBd.ext
      have HS := Hid.intro (search_seps base (w.heap.size + 1) w.heap.size kb rt gs cs ss key wr.drew hSd.se hSd.c4 hrs hss hBd.o (ext_cell hBd.ext hk) hBd.n)
      have HG := Hid.intro (fun (W : World) (hx : Ext wr.drew W) => (hBd.go hx).set l.b)
      have HP := Hid.intro (fun (W : World) (hx : Ext wr.drew W) => And.intro (hSd.ext hx).pc (And.intro (hBd.go hx).n (hp_frozen (hBd.go hx).b0 0)))
      have hbd : (pos key ss : Int) < (n : Int) := by omega
      have hlt' : pos key ss < n := hlt
      clear hSr hBd hSd hS hB HM HB0 hlt
      go_upto_region 2 with (go_at_call 26; refine (leaf_some _ _ _ _ _ d3).mono ?_; rintro e w1 ⟨rfl, h⟩; obtain rfl := h.symm)
      go_region_law (go_simp; go_at_call 57; refine HS.out.mono ?_; rintro e w2 ⟨rfl, hx2⟩; obtain ⟨t1, t2, t3⟩ := HP.out w2 hx2; have t4 := ext_cell hx2 (show wr.drew.cell? _ = _ from d3); have HR := Hid.intro (HG.out w2 hx2))
      all_goals
        go_wp2_with fail
        go_roundg 0
        case rel => exact .inl ⟨rfl, HR.out⟩
        case measure => omega
end Go.Proofs.Ybulkckvy
