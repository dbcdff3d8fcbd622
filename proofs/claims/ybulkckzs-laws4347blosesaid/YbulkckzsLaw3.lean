import Derived.Test.YbulkckzsLaw2
set_option linter.unusedVariables false
set_option linter.unusedSimpArgs false
namespace Go.Proofs.Ybulkckzs
open Go.RowKit Go.Maps
attribute [local go_sem ↓] Go.wp_at_zero Go.wp_at_succ

set_option maxRecDepth 100000 in
set_option maxHeartbeats 4000000 in
theorem lose_off2 (hm : Bool) (a : Option Addr) (len cap id : Nat) (s t : Int) (I : Nat → Nat) (V : Nat → Bool) (w : World) (hid : id ≤ 65535) (hs : -9223372036854775808 ≤ s ∧ s ≤ 9223372036854775807) (ht : -9223372036854775808 ≤ t ∧ t ≤ 9223372036854775807) (hP : PairsAt w a len I V) :
    Calls Yba.prog 3 #[.bool false, .bool hm, .slice a len cap, .int .u16 (id : Int), .int .i64 s, .int .i64 t] w fun e w' => e = .returned (.bool true) ∧ Below w.heap.size w w' := by
  by_cases hlen : len > 1024
  · have h : (1024 : Int) < (len : Int) := by omega
    clear hs ht
    go_enter Yba.func3, Yba.ntmps3
    go_wp2_with fail
    go_ret
    exact ⟨rfl, Below.refl _ _⟩
  · have h : ¬ (1024 : Int) < (len : Int) := by omega
    have hmm := @run_makeMap Yba.prog
    have HP := Hid.intro hP
    have HS := Hid.intro (add_any s hs)
    have HT := Hid.intro (add_any t ht)
    clear hP hs ht
    go_enter Yba.func3, Yba.ntmps3
    go_upto_if 34 with fail
    go_cut [15] (fun v15 w' => LCut w 0 hm v15 w')
    case first =>
      cases hm with
      | false =>
        go_wp2_with fail
        go_meet
        case rel => exact ⟨0, .map [], by omega, ⟨made2 w _, ⟨_, ((Ext.refl _).alloc _).some (hp_alloc_new w _), rfl⟩, ((Ext.refl w).alloc _).alloc _⟩, rfl, rfl, rfl⟩
      | true =>
        go_wp2_with fail
        go_loopg [38] len (fun g v38 w' => ∃ q : Nat, v38 = .int .i64 (q : Int) ∧ q + g = len ∧ ∃ D, LTwo w 0 q D w')
        case atStart => exact ⟨0, rfl, by omega, .map [], ⟨(made2 w _).ext ((Ext.refl _).alloc _), ⟨_, (((Ext.refl _).alloc _).alloc _).some (hp_alloc_new w _), rfl⟩, (((Ext.refl w).alloc _).alloc _).alloc _⟩, made3 w _ _⟩
        case round =>
          obtain ⟨q, rfl, hqg, D, hI⟩ := hrel
          have HQ := Hid.intro hqg
          clear hqg
          by_cases hlt : q < len
          · obtain ⟨b, off, rfl, hb, hz⟩ := HP.out.2 (by omega)
            have z0 : wr.cell? ⟨b, off + q * 2, none⟩ = some (.int .u16 (I q : Int)) := (hI.inv.bel.cell (p := ⟨b, off + q * 2, none⟩) hb).trans (hz q hlt).1
            have z1 : wr.cell? ⟨b, off + q * 2 + 1, none⟩ = some (.bool (V q)) := (hI.inv.bel.cell (p := ⟨b, off + q * 2 + 1, none⟩) hb).trans (hz q hlt).2
            obtain ⟨w2, w3, r2, r3, hI3, p0, p1⟩ := hI.step (I q) (V q) (HP.out.1 q) (by omega)
            have H3 := Hid.intro hI3
            have hqi : (q : Int) < (len : Int) := by omega
            clear hz hI hI3
            go_wp2_with fail
            go_roundg (len - (q + 1))
            case measure => have := HQ.out; omega
            case rel => exact ⟨q + 1, by go_num, by omega, _, H3.out⟩
          · have hqi : ¬ (q : Int) < (len : Int) := by omega
            have hq : q = len := by have := HQ.out; omega
            go_wp2_with fail
            go_meet
            case rel => exact ⟨q, D, by omega, hI.inv, rfl, hI.lost⟩
    case rest =>
      obtain ⟨n, D, hn, hI, hv⟩ := hcut
      obtain ⟨r, rfl⟩ : ∃ r, u15 = .map r := by
        cases hm with
        | true => exact ⟨_, hv.1⟩
        | false => exact ⟨_, hv.1⟩
      have HI := Hid.intro hI
      have HV := Hid.intro hv
      clear hI hv hmm
      unfold tv at HS HT
      have HO := Hid.intro (fun (db : Nat) (W : World) h3 => lose_off w.heap.size db id (addN t) (addX t) W h3)
      unfold tv at HO
      go_upto_if 69 with (first | (go_at_call 4; refine (HS.out _).mono ?_; rintro e w1 ⟨rfl, hx1⟩; clear HS) | (go_at_call 4; refine (HT.out _).mono ?_; rintro e w2 ⟨rfl, hx2⟩; have s0 := (fun o => (seen3 hx2 o).1); have s1 := (fun o => (seen3 hx2 o).2.1); have s2 := (fun o => (seen3 hx2 o).2.2); clear HT) | (go_at_call 5; have hpre := lpre_mk (s := s) (t := t) HI.out HV.out hx1 hx2 #[.map none, .map none, .int .i64 0, .pointer none, .map none, .int .i64 0, .int .u64 0, .int .u64 (addN s : Int), .int .i64 (addX s), .pointer none, .map r, .int .u32 0, .int .i64 0, .int .u64 0] rfl rfl rfl rfl; refine (HO.out _ _ hpre.inv.cell).mono ?_; rintro e w6 ⟨rfl, hx6⟩; have q0 := ext_cell hx6 (tcell3 hpre.sc).1; have q1 := ext_cell hx6 (tcell3 hpre.sc).2.1; have q2 := ext_cell hx6 (tcell3 hpre.sc).2.2; have HT := Hid.intro hpre; clear hpre HO))
      have HD := Hid.intro (HT.out.dom.ext (hx6.alloc (.cells #[.int .u64 (addN s : Int), .int .i64 (addX s), .pointer none] 46)))
      have HB := Hid.intro ((HT.out.inv.ext (hx6.alloc (.cells #[.int .u64 (addN s : Int), .int .i64 (addX s), .pointer none] 46))))
      have d7 := HD.out.cells.1
      have d8 := HD.out.cells.2.1
      have d9 := HD.out.cells.2.2.1
      have c10 := HD.out.cells.2.2.2.1
      have hneq := time_neq (addN s) (addX s)
      have hme := fun w r => run_eql_map_nil (P := Yba.prog) w 49 23 4 r Yba.underlying49
      clear HV HI q0 q1 q2 s0 s1 s2
      cases hm with
      | false =>
        have hr : r = none := by have := HT.out.mp.1; injection this
        subst hr
        go_wp2_with fail
        go_quiet (fail)
        go_wp2_with fail
        go_ret
        exact ⟨rfl, HB.out.bel.trans (((Ext.refl _).drewN _).below HB.out.bel.size)⟩
      | true =>
        have hr : r = some (w.heap.size + 1 + 1) := by have := HT.out.mp.1; injection this
        subst hr
        have hF : LFin w (w2.heap.size + 1) (w.heap.size + 1 + 1) n D (w6.alloc (.cells #[.int .u64 (addN s : Int), .int .i64 (addX s), .pointer none] 46)) := ⟨c10, (HT.out.mp.2).ext (hx6.alloc _), HB.out.ex, HB.out.bel⟩
        have HF := Hid.intro hF
        clear HT HD HB c10
        go_wp2_with fail
        go_quiet (fail)
        clear hneq d7 d8 d9
        have c10 := hF.c10
        have l1 := hF.lens.1
        have l2 := hF.lens.2
        have k1 := (hF.looks hid).1
        have k2 := (hF.looks hid).2
        clear hF
        go_wp2_with fail
        go_quiet (fail)
        clear k1 k2 l1 l2 c10
        go_wp2_with fail
        go_loopg [118] len (fun g v118 w' => ∃ q : Nat, v118 = .int .i64 (q : Int) ∧ q + g = len ∧ LFin w (w2.heap.size + 1) (w.heap.size + 1 + 1) n D w')
        case atStart => exact ⟨0, rfl, by omega, HF.out.ext ((Ext.refl _).drewN _)⟩
        case round =>
          clear HF
          obtain ⟨q, rfl, hqg, hF⟩ := hrel
          have HQ := Hid.intro hqg
          clear hqg
          by_cases hlt : q < len
          · obtain ⟨b, off, rfl, hb, hz⟩ := HP.out.2 (by omega)
            have z0 : wr.cell? ⟨b, off + q * 2, none⟩ = some (.int .u16 (I q : Int)) := (hF.bel.cell (p := ⟨b, off + q * 2, none⟩) hb).trans (hz q hlt).1
            have z1 : wr.cell? ⟨b, off + q * 2 + 1, none⟩ = some (.bool (V q)) := (hF.bel.cell (p := ⟨b, off + q * 2 + 1, none⟩) hb).trans (hz q hlt).2
            have hF2 := hF.ext ((Ext.refl wr).alloc (.cells #[.int .u16 (I q : Int), .bool (V q)] 58))
            have HF2 := Hid.intro hF2
            have c10 := hF2.c10
            have k1 := (hF2.looks (HP.out.1 q)).1
            have k2 := (hF2.looks (HP.out.1 q)).2
            have hqi : (q : Int) < (len : Int) := by omega
            clear hz hF hF2
            go_wp2_with fail
            go_quiet (fail)
            go_wp2_with fail
            go_roundg (len - (q + 1))
            case measure => have := HQ.out; omega
            case rel => exact ⟨q + 1, by go_num, by omega, HF2.out.ext ((Ext.refl _).drewN _)⟩
          · have hqi : ¬ (q : Int) < (len : Int) := by omega
            go_wp2_with fail
            go_ret
            exact ⟨rfl, hF.bel⟩
end Go.Proofs.Ybulkckzs
