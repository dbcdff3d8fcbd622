import Derived.Test.YbulkckvyFind
set_option linter.unusedVariables false
set_option linter.unusedSimpArgs false
namespace Go.Proofs.Ybulkckvy
open Go.RowKit
attribute [local go_sem ↓] Go.wp_at_zero Go.wp_at_succ
set_option maxRecDepth 100000 in
theorem find2 (i ob nb kb r gs n cap : Nat) (key s : ByteArray) (w : World) (hi : i < n) (h0 : w.cell? ⟨ob, 0, none⟩ = some (.func (.func 51) #[] #[.pointer (some ⟨kb, 0, none⟩)])) (h1 : w.cell? ⟨kb, 0, none⟩ = some (.string key)) (h2 : w.cell? ⟨nb, 0, none⟩ = some (.pointer (some ⟨r, 0, none⟩)))
    (h3 : w.cell? ⟨r, 0, none⟩ = some (.slice (some ⟨gs, 0, none⟩) n cap)) (h4 : w.cell? ⟨gs, i * 3, none⟩ = some (.string s)) :
    Calls Yba.prog 72 #[.int .i64 (i : Int), .pointer (some ⟨ob, 0, none⟩), .pointer (some ⟨nb, 0, none⟩)] w fun e w' => e = .returned (.bool (!klt s key)) ∧ Ext w w' := by
  have hi' : (i : Int) < (n : Int) := by omega
  have hi0 : (0 : Int) ≤ (i : Int) := by omega
  have hcf := enter51
  have HS := Hid.intro (fun W => seek1 kb s key W)
  go_enter Yba.func72, Yba.ntmps72
  go_upto_region 1 with fail
  go_region_law (go_simp; refine (HS.out w.drew h1).mono ?_; rintro e w2 ⟨rfl, hx2⟩)
  all_goals
    go_wp2_with fail
    go_ret
    exact ⟨rfl, ((Ext.refl _).drew).trans hx2⟩

theorem pos_of2 {key : ByteArray} {ks : List ByteArray} {r : Nat} (hr : r ≤ ks.length) (h1 : ∀ i, i < r → (ks[i]?.map (fun x => !klt x key)).getD false = false) (h2 : ∀ i, r ≤ i → i < ks.length → (ks[i]?.map (fun x => !klt x key)).getD false = true) : pos key ks = r := by
  refine countP_cut _ ks r hr (fun j h hj => ?_) (fun j h hj => ?_)
  · have := h1 j hj
    rw [List.getElem?_eq_getElem h] at this
    simpa using this
  · have := h2 j hj h
    rw [List.getElem?_eq_getElem h] at this
    simpa using this
theorem ext_cell {a b : World} (hx : Ext a b) {p : Addr} {v : Value} (h : a.cell? p = some v) : b.cell? p = some v := by
  rw [hp_cell_eq (w := a) (hx.block (hp_cell_lt h))]; exact h
theorem mono_ge {key : ByteArray} {ks : List ByteArray} (hr : Rising ks) (i j : Nat) (hij : i < j) (hj : j < ks.length) (h : (ks[i]?.map (fun x => !klt x key)).getD false = true) : (ks[j]?.map (fun x => !klt x key)).getD false = true := by
  rw [List.getElem?_eq_getElem (by omega)] at h ⊢
  simp at h ⊢
  cases hh : klt ks[j] key with
  | false => rfl
  | true => have := klt_trans (hr.get hij hj) hh; rw [h] at this; cases this
/-- The search in a leaf, from any world where the boxes are. -/
theorem search_leaf (base ob nb kb : Nat) (l : Leaf) (p n : Option Nat) (key : ByteArray) (W : World) (hl : LeafAt W base l p n) (hr : Rising l.ks) (hn : l.ks.length ≤ 64) (h0 : W.cell? ⟨ob, 0, none⟩ = some (.func (.func 51) #[] #[.pointer (some ⟨kb, 0, none⟩)])) (h1 : W.cell? ⟨kb, 0, none⟩ = some (.string key)) (h2 : W.cell? ⟨nb, 0, none⟩ = some (.pointer (some ⟨l.b, 0, none⟩))) :
    Calls Yba.prog 57 #[.int .i64 (l.ks.length : Int), .func (.func 72) #[] #[.pointer (some ⟨ob, 0, none⟩), .pointer (some ⟨nb, 0, none⟩)]] W fun e w' => e = .returned (.int .i64 (pos key l.ks : Int)) ∧ Ext W w' := by
  refine (search_any l.ks.length 72 #[.pointer (some ⟨ob, 0, none⟩), .pointer (some ⟨nb, 0, none⟩)] (fun i => (l.ks[i]?.map (fun x => !klt x key)).getD false) W (by omega) enter72 (Hid.intro (fun i w' hi hx => ?_)) (Hid.intro (fun i j hij hj hi => mono_ge hr i j hij hj hi))).mono ?_
  · obtain ⟨g, cap, hv, _⟩ := hl.some_row (by omega)
    have c0 := (hl.ext hx).cell0
    rw [hv] at c0
    refine (find2 i ob nb kb l.b g l.ks.length cap key l.ks[i] w' hi (ext_cell hx h0) (ext_cell hx h1) (ext_cell hx h2) c0 (((hl.ext hx).ents.cells hv hi).1)).mono ?_
    rintro e w'' ⟨rfl, hx2⟩
    exact ⟨by rw [List.getElem?_eq_getElem hi]; rfl, hx2⟩
  · rintro e w' ⟨q, rfl, q1, q2, q3, hx⟩
    exact ⟨by rw [pos_of2 q1 q2 q3], hx⟩
/-- .. among the separators. -/
theorem search_seps (base ob nb kb r gs cs : Nat) (ss : List ByteArray) (key : ByteArray) (W : World) (hs : Strs W base (.slice (some ⟨gs, 0, none⟩) ss.length cs) ss) (h4 : W.cell? ⟨r, 4, none⟩ = some (.slice (some ⟨gs, 0, none⟩) ss.length cs)) (hr : Rising ss) (hn : ss.length ≤ 1000) (h0 : W.cell? ⟨ob, 0, none⟩ = some (.func (.func 51) #[] #[.pointer (some ⟨kb, 0, none⟩)])) (h1 : W.cell? ⟨kb, 0, none⟩ = some (.string key)) (h2 : W.cell? ⟨nb, 0, none⟩ = some (.pointer (some ⟨r, 0, none⟩))) :
    Calls Yba.prog 57 #[.int .i64 (ss.length : Int), .func (.func 71) #[] #[.pointer (some ⟨ob, 0, none⟩), .pointer (some ⟨nb, 0, none⟩)]] W fun e w' => e = .returned (.int .i64 (pos key ss : Int)) ∧ Ext W w' := by
  refine (search_any ss.length 71 #[.pointer (some ⟨ob, 0, none⟩), .pointer (some ⟨nb, 0, none⟩)] (fun i => (ss[i]?.map (fun x => !klt x key)).getD false) W (by omega) enter71 (Hid.intro (fun i w' hi hx => ?_)) (Hid.intro (fun i j hij hj hi => mono_ge hr i j hij hj hi))).mono ?_
  · refine (find1 i ob nb kb r gs ss.length cs key ss[i] w' hi (ext_cell hx h0) (ext_cell hx h1) (ext_cell hx h2) (ext_cell hx h4) ((hs.ext hx).cell rfl hi)).mono ?_
    rintro e w'' ⟨rfl, hx2⟩
    exact ⟨by rw [List.getElem?_eq_getElem hi]; rfl, hx2⟩
  · rintro e w' ⟨q, rfl, q1, q2, q3, hx⟩
    exact ⟨by rw [pos_of2 q1 q2 q3], hx⟩
end Go.Proofs.Ybulkckvy
