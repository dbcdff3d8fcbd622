import Derived.Test.YbulkckzsMap
import Derived.Deep.DeepCutAuto
import Derived.Deep.DrawnRows
set_option linter.unusedVariables false
set_option linter.unusedSimpArgs false
namespace Go.Proofs.Ybulkckzs
open Go.RowKit Go.Maps
attribute [local go_sem ↓] Go.wp_at_zero Go.wp_at_succ

set_option maxRecDepth 100000 in
theorem lose_off (h db id n1 : Nat) (x1 : Int) (w : World) (h3 : w.cell? ⟨h, 3, none⟩ = some (.int .i64 0)) :
    Calls Yba.prog 5 #[.pointer (some ⟨h, 0, none⟩), .pointer (some ⟨db, 0, none⟩), .int .u16 (id : Int), tv n1 x1] w fun e w' => e = .returned (.tuple #[]) ∧ Ext w w' := by
  have c3 : ∀ o, (w.alloc o).cell? ⟨h, 3, none⟩ = some (.int .i64 0) := fun o => ext_cell ((Ext.refl w).alloc o) h3
  unfold tv
  go_enter Yba.func5, Yba.ntmps5
  go_wp2_with fail
  first | go_end0 | ((try simp only [Exit.inBlock, Exit.then]); refine bodyPost_ret (results_none rfl _ _ _) rfl ?_)
  exact ⟨rfl, (Ext.refl w).alloc _⟩
/-- What lose leaves where HoldTime is set. -/
def LoseOn (w : World) (db B n : Nat) (D : DataW Unit) (id n' : Nat) (x' : Int) (w' : World) : Prop :=
  DomAt w' db (.map (some B)) n' x' ∧ MapAt w' B (n + 1) (D.put (idk id) (.lit (.bool true))) ∧ Fr [db, B] w w'
def laterN (n1 : Nat) (x1 : Int) (n2 : Nat) (x2 : Int) : Nat := if afterB n1 x1 n2 x2 then n1 else n2
def laterX (n1 : Nat) (x1 : Int) (n2 : Nat) (x2 : Int) : Int := if afterB n1 x1 n2 x2 then x1 else x2
/-- Behind the map's store. -/
structure LoseBox (w : World) (db B n tb : Nat) (D : DataW Unit) (n1 : Nat) (x1 : Int) (n2 : Nat) (x2 : Int) (W : World) : Prop where
  dom : DomAt W db (.map (some B)) n2 x2
  map : MapAt W B n D
  box : W.heap[tb]? = some (.cells #[.int .u64 (n1 : Int), .int .i64 x1, .pointer none] 46 (0, 0))
  fr : Fr [db, B] w W
theorem LoseBox.ext {w W W' : World} {db B n tb : Nat} {D : DataW Unit} {n1 : Nat} {x1 : Int} {n2 : Nat} {x2 : Int} (h : LoseBox w db B n tb D n1 x1 n2 x2 W) (hx : Ext W W') : LoseBox w db B n tb D n1 x1 n2 x2 W' :=
  ⟨h.dom.ext hx, h.map.ext hx, hx.some h.box, h.fr.trans (Fr.of_ext hx _)⟩
theorem LoseBox.done {w W : World} {db B n tb : Nat} {D : DataW Unit} {n1 : Nat} {x1 : Int} {n2 : Nat} {x2 : Int} (h : LoseBox w db B n tb D n1 x1 n2 x2 W) :
    LoseBox w db B n tb D n1 x1 n1 x1 (((W.setCell ⟨db, 7, none⟩ (.int .u64 (n1 : Int))).setCell ⟨db, 8, none⟩ (.int .i64 x1)).setCell ⟨db, 9, none⟩ (.pointer none)) := by
  obtain ⟨C, hC, h7, _⟩ := h.dom.ex
  have hf := set3_fr W db n1 x1
  have hC2 : 2 < C.size := by have := (Array.getElem?_eq_some_iff.1 h7).1; omega
  have hne : tb ≠ db := fun e => by
    have := h.box
    rw [e, hC] at this
    injection this with this
    injection this with _ e2 _
    exact absurd e2 (by decide)
  exact ⟨h.dom.setSeen n1 x1, h.map.fr hf (by simpa using h.map.ne hC), hf.some h.box (by simpa using hne), h.fr.trans (hf.mono (by simp))⟩
set_option maxRecDepth 100000 in
set_option maxHeartbeats 1000000 in
theorem lose_some (h db id n1 n2 B n : Nat) (x1 x2 : Int) (D : DataW Unit) (w : World) (hid : id ≤ 65535) (h1 : n1 < 1000000000) (h2 : n2 < 1000000000) (hn : n < 10000) (h3 : w.cell? ⟨h, 3, none⟩ = some (.int .i64 1)) (hD : DomAt w db (.map (some B)) n2 x2) (hM : MapAt w B n D) :
    Calls Yba.prog 5 #[.pointer (some ⟨h, 0, none⟩), .pointer (some ⟨db, 0, none⟩), .int .u16 (id : Int), tv n1 x1] w fun e w' => e = .returned (.tuple #[]) ∧ LoseOn w db B n D id (laterN n1 x1 n2 x2) (laterX n1 x1 n2 x2) w' := by
  have hme := fun w r => run_eql_map_nil (P := Yba.prog) w 49 23 4 r Yba.underlying49
  have xA := (Ext.refl w).alloc (.cells #[.int .u64 (n1 : Int), .int .i64 x1, .pointer none] 46)
  have c3 := ext_cell xA h3
  have cl := (hD.ext xA).cells.2.2.2.1
  obtain ⟨w2, hrun, hM2, hF2⟩ := (hM.ext xA).upd hid (by omega) true
  have hnB : db ∉ [B] := by
    obtain ⟨C, hC, _⟩ := hD.ex
    simpa using Ne.symm (hM.ne hC)
  have hB2 : LoseBox w db B (n + 1) w.heap.size (D.put (idk id) (.lit (.bool true))) n1 x1 n2 x2 w2 :=
    ⟨(hD.ext xA).fr hF2 hnB, hM2, hF2.some (hp_alloc_new w _) (by simpa using Ne.symm ((hM.ext xA).ne (hp_alloc_new w _))), (Fr.of_ext xA _).trans (hF2.mono (by simp))⟩
  have HB := Hid.intro hB2
  have d7 := hB2.dom.cells.1
  have d8 := hB2.dom.cells.2.1
  have d9 := hB2.dom.cells.2.2.1
  have t0 := hp_cell hB2.box 0
  have t1 := hp_cell hB2.box 1
  have t2 := hp_cell hB2.box 2
  clear hB2 hM2 hF2 hnB hD hM h3
  have HA := Hid.intro (fun W => after_any n1 n2 x1 x2 h1 h2 W)
  unfold tv at HA ⊢
  go_enter Yba.func5, Yba.ntmps5
  go_upto_region 5 with fail
  go_cut [32] (fun v32 w' => v32 = .bool (afterB n1 x1 n2 x2) ∧ Ext w2 w')
  case first =>
    go_region_law (go_simp; go_at_call 10; refine (HA.out _).mono ?_; rintro e w3 ⟨rfl, o1, o2, rfl⟩)
    all_goals
      go_wp2_with fail
      go_meet
      case rel => exact ⟨rfl, (((Ext.refl w2).drew).alloc _).alloc _⟩
  case rest =>
    obtain ⟨rfl, hx⟩ := hcut
    have HX := Hid.intro (HB.out.ext hx)
    have q0 : wc.cell? ⟨w.heap.size, 0, none⟩ = some (.int .u64 (n1 : Int)) := by rw [hp_cell HX.out.box]; rfl
    have q1 : wc.cell? ⟨w.heap.size, 1, none⟩ = some (.int .i64 x1) := by rw [hp_cell HX.out.box]; rfl
    have q2 : wc.cell? ⟨w.heap.size, 2, none⟩ = some (.pointer none) := by rw [hp_cell HX.out.box]; rfl
    have e7 := HX.out.dom.cells.1
    have e8 := HX.out.dom.cells.2.1
    have e9 := HX.out.dom.cells.2.2.1
    have ef := HX.out.dom.cells.2.2.2.2
    clear d7 d8 d9 t0 t1 t2 hx hrun
    cases hA : afterB n1 x1 n2 x2 with
    | true =>
      have HN : Hid (laterN n1 x1 n2 x2 = n1 ∧ laterX n1 x1 n2 x2 = x1) := Hid.intro (by unfold laterN laterX; rw [hA]; exact ⟨rfl, rfl⟩)
      clear hA
      go_wp2_with fail
      first | go_end0 | ((try simp only [Exit.inBlock, Exit.then]); refine bodyPost_ret (results_none rfl _ _ _) rfl ?_)
      refine ⟨rfl, ?_⟩
      rw [HN.out.1, HN.out.2]
      exact ⟨HX.out.done.dom, HX.out.done.map, HX.out.done.fr⟩
    | false =>
      have HN : Hid (laterN n1 x1 n2 x2 = n2 ∧ laterX n1 x1 n2 x2 = x2) := Hid.intro (by unfold laterN laterX; rw [hA]; exact ⟨rfl, rfl⟩)
      clear hA
      go_wp2_with fail
      first | go_end0 | ((try simp only [Exit.inBlock, Exit.then]); refine bodyPost_ret (results_none rfl _ _ _) rfl ?_)
      refine ⟨rfl, ?_⟩
      rw [HN.out.1, HN.out.2]
      exact ⟨HX.out.dom, HX.out.map, HX.out.fr⟩
set_option maxRecDepth 100000 in
set_option maxHeartbeats 1000000 in
theorem lose_nil (h db id n1 n2 : Nat) (x1 x2 : Int) (w : World) (hid : id ≤ 65535) (h1 : n1 < 1000000000) (h2 : n2 < 1000000000) (h3 : w.cell? ⟨h, 3, none⟩ = some (.int .i64 1)) (hD : DomAt w db (.map none) n2 x2) :
    Calls Yba.prog 5 #[.pointer (some ⟨h, 0, none⟩), .pointer (some ⟨db, 0, none⟩), .int .u16 (id : Int), tv n1 x1] w fun e w' => e = .returned (.tuple #[]) ∧ LoseOn w db (w.heap.size + 1) 0 (.map []) id (laterN n1 x1 n2 x2) (laterX n1 x1 n2 x2) w' := by
  have hme := fun w r => run_eql_map_nil (P := Yba.prog) w 49 23 4 r Yba.underlying49
  have hmm := @run_makeMap Yba.prog
  have xA := (Ext.refl w).alloc (.cells #[.int .u64 (n1 : Int), .int .i64 x1, .pointer none] 46)
  have xB := xA.alloc (.map #[] 0)
  have c3 := ext_cell xA h3
  have cl := (hD.ext xA).cells.2.2.2.1
  have cl2 := (hD.ext xB).cells.2.2.2.1
  have cf2 := (hD.ext xB).cells.2.2.2.2 10
  have hM0 := MapAt.made (w.alloc (.cells #[.int .u64 (n1 : Int), .int .i64 x1, .pointer none] 46))
  rw [hp_alloc_size] at hM0
  obtain ⟨C, hC, hCr⟩ := (hD.ext xB).ex
  have hne := hM0.ne hC
  have hf := Fr.one ((w.alloc (.cells #[.int .u64 (n1 : Int), .int .i64 x1, .pointer none] 46)).alloc (.map #[] 0)) ⟨db, 10, none⟩ (.map (some (w.heap.size + 1)))
  have hM1 := hM0.fr hf (by simpa using hne)
  obtain ⟨w2, hrun, hM2, hF2⟩ := hM1.upd hid (by omega) true
  have hbx : ((w.alloc (.cells #[.int .u64 (n1 : Int), .int .i64 x1, .pointer none] 46)).alloc (.map #[] 0)).heap[w.heap.size]? = some (.cells #[.int .u64 (n1 : Int), .int .i64 x1, .pointer none] 46 (0, 0)) := ((Ext.refl _).alloc _).some (hp_alloc_new w _)
  have hdb : db < w.heap.size := by obtain ⟨C, hC, _⟩ := hD.ex; exact hp_lt hC
  have hB2 : LoseBox w db (w.heap.size + 1) (0 + 1) w.heap.size ((DataW.map []).put (idk id) (.lit (.bool true))) n1 x1 n2 x2 w2 :=
    ⟨((hD.ext xB).setLost _).fr hF2 (by simp; omega), hM2, hF2.some (hf.some hbx (by simp; omega)) (by simp), ((Fr.of_ext xB _).trans (hf.mono (by simp))).trans (hF2.mono (by simp))⟩
  clear hC hCr hne hf hM1 hbx hdb hM0 xB
  have HB := Hid.intro hB2
  have d7 := hB2.dom.cells.1
  have d8 := hB2.dom.cells.2.1
  have d9 := hB2.dom.cells.2.2.1
  have t0 := hp_cell hB2.box 0
  have t1 := hp_cell hB2.box 1
  have t2 := hp_cell hB2.box 2
  clear hB2 hM2 hF2 hD h3
  have HA := Hid.intro (fun W => after_any n1 n2 x1 x2 h1 h2 W)
  unfold tv at HA ⊢
  go_enter Yba.func5, Yba.ntmps5
  go_upto_region 5 with fail
  go_cut [32] (fun v32 w' => v32 = .bool (afterB n1 x1 n2 x2) ∧ Ext w2 w')
  case first =>
    go_region_law (go_simp; go_at_call 10; refine (HA.out _).mono ?_; rintro e w3 ⟨rfl, o1, o2, rfl⟩)
    all_goals
      go_wp2_with fail
      go_meet
      case rel => exact ⟨rfl, (((Ext.refl w2).drew).alloc _).alloc _⟩
  case rest =>
    obtain ⟨rfl, hx⟩ := hcut
    have HX := Hid.intro (HB.out.ext hx)
    have q0 : wc.cell? ⟨w.heap.size, 0, none⟩ = some (.int .u64 (n1 : Int)) := by rw [hp_cell HX.out.box]; rfl
    have q1 : wc.cell? ⟨w.heap.size, 1, none⟩ = some (.int .i64 x1) := by rw [hp_cell HX.out.box]; rfl
    have q2 : wc.cell? ⟨w.heap.size, 2, none⟩ = some (.pointer none) := by rw [hp_cell HX.out.box]; rfl
    have e7 := HX.out.dom.cells.1
    have e8 := HX.out.dom.cells.2.1
    have e9 := HX.out.dom.cells.2.2.1
    have ef := HX.out.dom.cells.2.2.2.2
    clear d7 d8 d9 t0 t1 t2 hx hrun
    cases hA : afterB n1 x1 n2 x2 with
    | true =>
      have HN : Hid (laterN n1 x1 n2 x2 = n1 ∧ laterX n1 x1 n2 x2 = x1) := Hid.intro (by unfold laterN laterX; rw [hA]; exact ⟨rfl, rfl⟩)
      clear hA
      go_wp2_with fail
      first | go_end0 | ((try simp only [Exit.inBlock, Exit.then]); refine bodyPost_ret (results_none rfl _ _ _) rfl ?_)
      refine ⟨rfl, ?_⟩
      rw [HN.out.1, HN.out.2]
      exact ⟨HX.out.done.dom, HX.out.done.map, HX.out.done.fr⟩
    | false =>
      have HN : Hid (laterN n1 x1 n2 x2 = n2 ∧ laterX n1 x1 n2 x2 = x2) := Hid.intro (by unfold laterN laterX; rw [hA]; exact ⟨rfl, rfl⟩)
      clear hA
      go_wp2_with fail
      first | go_end0 | ((try simp only [Exit.inBlock, Exit.then]); refine bodyPost_ret (results_none rfl _ _ _) rfl ?_)
      refine ⟨rfl, ?_⟩
      rw [HN.out.1, HN.out.2]
      exact ⟨HX.out.dom, HX.out.map, HX.out.fr⟩
end Go.Proofs.Ybulkckzs
