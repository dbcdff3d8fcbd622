import Derived.Test.YbulkckvySeek3
set_option linter.unusedVariables false
set_option linter.unusedSimpArgs false
namespace Go.Proofs.Ybulkckvy
open Go.RowKit
attribute [local go_sem ↓] Go.wp_at_zero Go.wp_at_succ

def Seek2Ret (w : World) (base xb : Nat) (K : List ByteArray) (key : ByteArray) (e : Ending) (w' : World) : Prop :=
  ∃ (b i : Nat) (t : Bool), e = .returned (.tuple #[.agg #[.pointer (some ⟨xb, 0, none⟩), .pointer (some ⟨b, 0, none⟩), .int .i64 (i : Int)], .bool t]) ∧ CurAt w' base xb K key (.agg #[.pointer (some ⟨xb, 0, none⟩), .pointer (some ⟨b, 0, none⟩), .int .i64 (i : Int)]) ∧ Ext w w'
theorem LeafAt.slice {w : World} {base : Nat} {l : Leaf} {p n : Option Nat} (h : LeafAt w base l p n) : ∃ a cap, l.v = .slice a l.ks.length cap := by
  rcases h.ents.form with ⟨e1, e2⟩ | ⟨g, cap, cur, e, _⟩
  · rw [e1, e2]; exact ⟨none, 0, rfl⟩
  · exact ⟨_, cap, e⟩
/-- The cells that Seek reads and writes, in every later world. -/
structure SeekBox (w : World) (xb b i kbk : Nat) (key : ByteArray) (c : Nat) (W : World) : Prop where
  k : W.cell? ⟨kbk, 0, none⟩ = some (.string key)
  c0 : W.cell? ⟨c, 0, none⟩ = some (.pointer (some ⟨xb, 0, none⟩))
  c1 : W.cell? ⟨c, 1, none⟩ = some (.pointer (some ⟨b, 0, none⟩))
  c2 : W.cell? ⟨c, 2, none⟩ = some (.int .i64 (i : Int))
  r : W.heap[kbk + 1]? = some (.cells #[.pointer none, .pointer none, .int .i64 0] 55 (0, 0))
theorem SeekBox.ext {w W W' : World} {xb b i kbk c : Nat} {key : ByteArray} (h : SeekBox w xb b i kbk key c W) (hx : Ext W W') : SeekBox w xb b i kbk key c W' :=
  ⟨ext_cell hx h.k, ext_cell hx h.c0, ext_cell hx h.c1, ext_cell hx h.c2, hx.some h.r⟩
theorem seek_box {w w2 : World} {xb b i : Nat} {key : ByteArray} (hx2 : Ext ((w.alloc (.cells #[.string key] 9)).alloc (.cells #[.pointer none, .pointer none, .int .i64 0] 55)) w2) :
    SeekBox w xb b i w.heap.size key w2.heap.size (w2.alloc (.cells #[.pointer (some ⟨xb, 0, none⟩), .pointer (some ⟨b, 0, none⟩), .int .i64 (i : Int)] 55)) := by
  have hx := hx2.alloc (.cells #[.pointer (some ⟨xb, 0, none⟩), .pointer (some ⟨b, 0, none⟩), .int .i64 (i : Int)] 55)
  have hc := hp_alloc_new w2 (.cells #[.pointer (some ⟨xb, 0, none⟩), .pointer (some ⟨b, 0, none⟩), .int .i64 (i : Int)] 55)
  have hr := hp_alloc_new (w.alloc (.cells #[.string key] 9)) (.cells #[.pointer none, .pointer none, .int .i64 0] 55)
  rw [hp_alloc_size] at hr
  refine ⟨ext_cell hx (ext_cell ((Ext.refl _).alloc _) (by rw [hp_cell (hp_alloc_new w _)]; rfl)), by rw [hp_cell hc]; rfl, by rw [hp_cell hc]; rfl, by rw [hp_cell hc]; rfl, hx.some hr⟩
def SeekMid (W : World) (xb b i kbk : Nat) (v5 : Value) (w' : World) : Prop :=
  ∃ (t : Bool) (w3 : World), v5 = .bool t ∧ Ext W w3 ∧ w' = (((w3.setCell ⟨kbk + 1, 0, none⟩ (.pointer (some ⟨xb, 0, none⟩))).setCell ⟨kbk + 1, 1, none⟩ (.pointer (some ⟨b, 0, none⟩))).setCell ⟨kbk + 1, 2, none⟩ (.int .i64 (i : Int)))
set_option maxRecDepth 100000 in
set_option maxHeartbeats 2000000 in
theorem iseek (base xb root : Nat) (ls : List Leaf) (ss : List ByteArray) (F : List Nat) (key : ByteArray) (w : World) (h : TreeAt w base root ls ss F) (hn : (keysOf ls).length ≤ 1024) (hroot : w.cell? ⟨xb, 6, none⟩ = some (.pointer (some ⟨root, 0, none⟩))) :
    Calls Yba.prog 32 #[.pointer (some ⟨xb, 0, none⟩), .string key] w (Seek2Ret w base xb (keysOf ls) key) := by
  have xA : ∀ o o', Ext w ((w.alloc o).alloc o') := fun o o' => ((Ext.refl w).alloc o).alloc o'
  have hkb : ∀ o', ((w.alloc (.cells #[.string key] 9)).alloc o').cell? ⟨w.heap.size, 0, none⟩ = some (.string key) := fun o' => ext_cell ((Ext.refl _).alloc o') (by rw [hp_cell (hp_alloc_new w _)]; rfl)
  have HF := Hid.intro (fun o' => ifind base xb root w.heap.size ls ss F key ((w.alloc (.cells #[.string key] 9)).alloc o') (h.grow (xA _ o')) hn (hkb o') (ext_cell (xA _ o') hroot))
  clear h hroot
  go_enter Yba.func32, Yba.ntmps32
  go_upto_region 2 with (go_at_call 50; refine (HF.out _).mono ?_; rintro e w2 ⟨b, i, rfl, hcur, hx2⟩; have HCU := Hid.intro hcur; clear hcur HF)
  have HB := Hid.intro (seek_box (xb := xb) (b := b) (i := i) hx2)
  obtain ⟨W, hW⟩ : ∃ W, w2.alloc (.cells #[.pointer (some ⟨xb, 0, none⟩), .pointer (some ⟨b, 0, none⟩), .int .i64 (i : Int)] 55) = W := ⟨_, rfl⟩
  rw [hW] at HB ⊢
  have HCW := Hid.intro (HCU.out.ext (hW ▸ (Ext.refl w2).alloc _))
  have hxW : Ext w W := ((xA _ _).trans hx2).trans (hW ▸ (Ext.refl w2).alloc _)
  clear hW
  obtain ⟨l, i', p, n, hv, hL, hpl⟩ := HCW.out
  obtain ⟨eb, ei⟩ : b = l.b ∧ i = i' := by
    simp at hv
    exact ⟨hv.1, by omega⟩
  subst eb; subst ei
  obtain ⟨av, capv, hlv⟩ := hL.slice
  have k0 := hL.cell0
  rw [hlv] at k0
  obtain ⟨c2, hc2⟩ : ∃ c, c = w2.heap.size := ⟨_, rfl⟩
  rw [← hc2] at HB ⊢
  clear hc2 hx2 HCU xA hkb
  have HX := Hid.intro (fun (W' : World) (hx : Ext W W') => HB.out.ext hx)
  have HW := Hid.intro hxW
  have b0 := HB.out.c0
  have b1 := HB.out.c1
  have b2 := HB.out.c2
  have bk := HB.out.k
  have H17 := Hid.intro (atEnd_any xb l.b i l.ks.length capv av W.drew k0)
  rcases hpl with ⟨hi, _⟩ | ⟨hi, _⟩
  · have he : ((i : Int) == (l.ks.length : Int)) = false := by simp; omega
    rw [he] at H17
    obtain ⟨g, capg, hgv, _⟩ := hL.some_row (by omega)
    have H18 := Hid.intro (fun (W' : World) (hx : Ext W W') => key_any xb l.b i g l.ks.length capg l.ks[i] W' (by have := (hL.ext hx).cell0; rw [hgv] at this; exact this) hi ((hL.ext hx).ents.cells hgv hi).1)
    clear hlv hgv
    go_cut [5] (fun v5 w' => SeekMid W xb l.b i w.heap.size v5 w')
    case first =>
      go_region_law (first | (go_simp; go_at_call 17; refine H17.out.mono ?_; rintro e w3 ⟨rfl, hx3⟩; have hy3 : Ext W w3 := ((Ext.refl W).drew).trans hx3; have q0 := (HX.out w3 hy3).c0; have q1 := (HX.out w3 hy3).c1; have q2 := (HX.out w3 hy3).c2; have qk := (HX.out w3 hy3).k; have qr := (HX.out w3 hy3).r; have s0 : w3.cell? ⟨w.heap.size + 1, 0, none⟩ = some (.pointer none) := (by rw [hp_cell qr]; rfl); have s1 : w3.cell? ⟨w.heap.size + 1, 1, none⟩ = some (.pointer none) := (by rw [hp_cell qr]; rfl); have s2 : w3.cell? ⟨w.heap.size + 1, 2, none⟩ = some (.int .i64 0) := (by rw [hp_cell qr]; rfl); have sf := (fun o => hp_frozen qr o)) | (go_simp; go_at_call 18; refine (H18.out w3 hy3).mono ?_; rintro e w4 ⟨rfl, hx4⟩; have hy4 : Ext W w4 := hy3.trans hx4; clear q0 q1 q2 qk qr s0 s1 s2 sf; have q0 := (HX.out w4 hy4).c0; have q1 := (HX.out w4 hy4).c1; have q2 := (HX.out w4 hy4).c2; have qk := (HX.out w4 hy4).k; have qr := (HX.out w4 hy4).r; have s0 : w4.cell? ⟨w.heap.size + 1, 0, none⟩ = some (.pointer none) := (by rw [hp_cell qr]; rfl); have s1 : w4.cell? ⟨w.heap.size + 1, 1, none⟩ = some (.pointer none) := (by rw [hp_cell qr]; rfl); have s2 : w4.cell? ⟨w.heap.size + 1, 2, none⟩ = some (.int .i64 0) := (by rw [hp_cell qr]; rfl); have sf := (fun o => hp_frozen qr o)))
      all_goals
        go_wp2_with fail
        go_meet
        case rel => exact ⟨_, _, rfl, by assumption, rfl⟩
    case rest =>
      obtain ⟨t, w3, rfl, hx3, rfl⟩ := hcut
      obtain ⟨hput, hfr⟩ := cur_put (xb := xb) (b := l.b) (i := i) (HX.out w3 hx3).r rfl
      have r0 := hp_cell hput 0
      have r1 := hp_cell hput 1
      have r2 := hp_cell hput 2
      have hcu := (HCW.out.ext hx3).carry (HX.out w3 hx3).r hfr
      have hxx := (((HW.out.trans hx3).set ⟨w.heap.size + 1, 0, none⟩ (.pointer (some ⟨xb, 0, none⟩)) (Nat.le_succ _)).set ⟨w.heap.size + 1, 1, none⟩ (.pointer (some ⟨l.b, 0, none⟩)) (Nat.le_succ _)).set ⟨w.heap.size + 1, 2, none⟩ (.int .i64 (i : Int)) (Nat.le_succ _)
      have HCC := Hid.intro (And.intro hcu hxx)
      clear hcu hxx hfr hput
      go_wp2_with fail
      (try simp only [Exit.inBlock, Exit.then])
      refine bodyPost_ret (v := .tuple #[.agg #[.pointer (some ⟨xb, 0, none⟩), .pointer (some ⟨l.b, 0, none⟩), .int .i64 (i : Int)], .bool t]) (by simp [results, Yba.results32, go_sem, r0, r1, r2]; try rfl) rfl ?_
      exact ⟨l.b, i, t, rfl, HCC.out.1, HCC.out.2⟩
  · have he : ((i : Int) == (l.ks.length : Int)) = true := by simp [hi]
    rw [he] at H17
    clear hi
    go_cut [5] (fun v5 w' => SeekMid W xb l.b i w.heap.size v5 w')
    case first =>
      go_region_law (go_simp; go_at_call 17; refine H17.out.mono ?_; rintro e w3 ⟨rfl, hx3⟩; have hy3 : Ext W w3 := ((Ext.refl W).drew).trans hx3; have q0 := (HX.out w3 hy3).c0; have q1 := (HX.out w3 hy3).c1; have q2 := (HX.out w3 hy3).c2; have qk := (HX.out w3 hy3).k; have qr := (HX.out w3 hy3).r; have s0 : w3.cell? ⟨w.heap.size + 1, 0, none⟩ = some (.pointer none) := (by rw [hp_cell qr]; rfl); have s1 : w3.cell? ⟨w.heap.size + 1, 1, none⟩ = some (.pointer none) := (by rw [hp_cell qr]; rfl); have s2 : w3.cell? ⟨w.heap.size + 1, 2, none⟩ = some (.int .i64 0) := (by rw [hp_cell qr]; rfl); have sf := (fun o => hp_frozen qr o))
      all_goals
        go_wp2_with fail
        go_meet
        case rel => exact ⟨_, _, rfl, by assumption, rfl⟩
    case rest =>
      obtain ⟨t, w3, rfl, hx3, rfl⟩ := hcut
      obtain ⟨hput, hfr⟩ := cur_put (xb := xb) (b := l.b) (i := i) (HX.out w3 hx3).r rfl
      have r0 := hp_cell hput 0
      have r1 := hp_cell hput 1
      have r2 := hp_cell hput 2
      have hcu := (HCW.out.ext hx3).carry (HX.out w3 hx3).r hfr
      have hxx := (((HW.out.trans hx3).set ⟨w.heap.size + 1, 0, none⟩ (.pointer (some ⟨xb, 0, none⟩)) (Nat.le_succ _)).set ⟨w.heap.size + 1, 1, none⟩ (.pointer (some ⟨l.b, 0, none⟩)) (Nat.le_succ _)).set ⟨w.heap.size + 1, 2, none⟩ (.int .i64 (i : Int)) (Nat.le_succ _)
      have HCC := Hid.intro (And.intro hcu hxx)
      clear hcu hxx hfr hput
      go_wp2_with fail
      (try simp only [Exit.inBlock, Exit.then])
      refine bodyPost_ret (v := .tuple #[.agg #[.pointer (some ⟨xb, 0, none⟩), .pointer (some ⟨l.b, 0, none⟩), .int .i64 (i : Int)], .bool t]) (by simp [results, Yba.results32, go_sem, r0, r1, r2]; try rfl) rfl ?_
      exact ⟨l.b, i, t, rfl, HCC.out.1, HCC.out.2⟩
end Go.Proofs.Ybulkckvy
