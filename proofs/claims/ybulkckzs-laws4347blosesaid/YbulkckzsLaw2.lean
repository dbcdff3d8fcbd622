import Derived.Test.YbulkckzsEq
set_option linter.unusedVariables false
set_option linter.unusedSimpArgs false
namespace Go.Proofs.Ybulkckzs
open Go.RowKit Go.Maps
attribute [local go_sem ↓] Go.wp_at_zero Go.wp_at_succ

set_option maxRecDepth 100000 in
set_option maxHeartbeats 4000000 in
theorem lose_on (hm : Bool) (a : Option Addr) (len cap id : Nat) (s t : Int) (I : Nat → Nat) (V : Nat → Bool) (w : World) (hid : id ≤ 65535) (hs : -9223372036854775808 ≤ s ∧ s ≤ 9223372036854775807) (ht : -9223372036854775808 ≤ t ∧ t ≤ 9223372036854775807) (hP : PairsAt w a len I V) :
    Calls Yba.prog 3 #[.bool true, .bool hm, .slice a len cap, .int .u16 (id : Int), .int .i64 s, .int .i64 t] w fun e w' => e = .returned (.bool true) ∧ Below w.heap.size w w' := by
  by_cases hlen : len > 1024
  · have h : (1024 : Int) < (len : Int) := by omega
    clear hs ht
    go_enter Yba.func3, Yba.ntmps3
    go_wp2_with fail
    go_ret
    exact ⟨rfl, Below.refl _ _⟩
  · have h : ¬ (1024 : Int) < (len : Int) := by omega
    have hmm := @run_makeMap Yba.prog
    have HP := Hid.intro hP
    have HS := Hid.intro (add_any s hs)
    have HT := Hid.intro (add_any t ht)
    clear hP hs ht
    go_enter Yba.func3, Yba.ntmps3
    go_upto_if 34 with fail
    go_cut [15] (fun v15 w' => LCut w 1 hm v15 w')
    case first =>
      cases hm with
      | false =>
        go_wp2_with fail
        go_meet
        case rel => exact ⟨0, .map [], by omega, ⟨made2 w _, ⟨_, ((Ext.refl _).alloc _).some (hp_alloc_new w _), rfl⟩, ((Ext.refl w).alloc _).alloc _⟩, rfl, rfl, rfl⟩
      | true =>
        go_wp2_with fail
        go_loopg [38] len (fun g v38 w' => ∃ q : Nat, v38 = .int .i64 (q : Int) ∧ q + g = len ∧ ∃ D, LTwo w 1 q D w')
        case atStart => exact ⟨0, rfl, by omega, .map [], ⟨(made2 w _).ext ((Ext.refl _).alloc _), ⟨_, (((Ext.refl _).alloc _).alloc _).some (hp_alloc_new w _), rfl⟩, (((Ext.refl w).alloc _).alloc _).alloc _⟩, made3 w _ _⟩
        case round =>
          obtain ⟨q, rfl, hqg, D, hI⟩ := hrel
          have HQ := Hid.intro hqg
          clear hqg
          by_cases hlt : q < len
          · obtain ⟨b, off, rfl, hb, hz⟩ := HP.out.2 (by omega)
            have z0 : wr.cell? ⟨b, off + q * 2, none⟩ = some (.int .u16 (I q : Int)) := (hI.inv.bel.cell (p := ⟨b, off + q * 2, none⟩) hb).trans (hz q hlt).1
            have z1 : wr.cell? ⟨b, off + q * 2 + 1, none⟩ = some (.bool (V q)) := (hI.inv.bel.cell (p := ⟨b, off + q * 2 + 1, none⟩) hb).trans (hz q hlt).2
            obtain ⟨w2, w3, r2, r3, hI3, p0, p1⟩ := hI.step (I q) (V q) (HP.out.1 q) (by omega)
            have H3 := Hid.intro hI3
            have hqi : (q : Int) < (len : Int) := by omega
            clear hz hI hI3
            go_wp2_with fail
            go_roundg (len - (q + 1))
            case measure => have := HQ.out; omega
            case rel => exact ⟨q + 1, by go_num, by omega, _, H3.out⟩
          · have hqi : ¬ (q : Int) < (len : Int) := by omega
            have hq : q = len := by have := HQ.out; omega
            go_wp2_with fail
            go_meet
            case rel => exact ⟨q, D, by omega, hI.inv, rfl, hI.lost⟩
    case rest =>
      obtain ⟨n, D, hn, hI, hv⟩ := hcut
      obtain ⟨r, rfl⟩ : ∃ r, u15 = .map r := by
        cases hm with
        | true => exact ⟨_, hv.1⟩
        | false => exact ⟨_, hv.1⟩
      have HI := Hid.intro hI
      have HV := Hid.intro hv
      clear hI hv hmm
      unfold tv at HS HT
      go_upto_if 69 with (first | (go_at_call 4; refine (HS.out _).mono ?_; rintro e w1 ⟨rfl, hx1⟩; clear HS) | (go_at_call 4; refine (HT.out _).mono ?_; rintro e w2 ⟨rfl, hx2⟩; have s0 := (fun o => (seen3 hx2 o).1); have s1 := (fun o => (seen3 hx2 o).2.1); have s2 := (fun o => (seen3 hx2 o).2.2); clear HT) | (go_at_call 5; refine (lose_both (lpre_mk HI.out HV.out hx1 hx2 _ rfl rfl rfl rfl) hid hn).mono ?_; rintro e w6 ⟨rfl, B, hT⟩; have q0 := (tcell3 hT.sc).1; have q1 := (tcell3 hT.sc).2.1; have q2 := (tcell3 hT.sc).2.2; have HT := Hid.intro hT; clear hT))
      go_cut [] (fun w' => LEnd w (w2.heap.size + 1) w6.heap.size w')
      case first =>
        obtain ⟨w7, hrun, hT7, hwb⟩ := HT.out.first hid (by omega)
        have hle : Hid (w.heap.size ≤ w6.heap.size) := Hid.intro HT.out.inv.bel.size
        have HT7 := Hid.intro hT7
        have HWB := Hid.intro hwb
        have a0 := (tcell3 hT7.ac).1
        have a1 := (tcell3 hT7.ac).2.1
        have a2 := (tcell3 hT7.ac).2.2
        have b0 : w7.cell? ⟨w6.heap.size, 0, none⟩ = some (.int .u64 (addN s : Int)) := by rw [hp_cell hwb]; rfl
        have b1 : w7.cell? ⟨w6.heap.size, 1, none⟩ = some (.int .i64 (addX s)) := by rw [hp_cell hwb]; rfl
        have b2 : w7.cell? ⟨w6.heap.size, 2, none⟩ = some (.pointer none) := by rw [hp_cell hwb]; rfl
        have bf := fun o => hp_frozen hwb o
        clear hT7 hwb HT
        by_cases hst : s < t
        · go_wp2_with fail
          go_meet
          case rel =>
            have h7 := HT7.out
            rw [if_pos hst, if_pos hst] at h7
            exact h7.turn HWB.out rfl hle.out
        · go_wp2_with fail
          go_meet
          case rel =>
            have h7 := HT7.out
            rw [if_neg (by omega), if_neg (by omega)] at h7
            exact h7.stay HWB.out
      case rest =>
        obtain ⟨B, n, D, n', x', hd, hw, hl, he, hb⟩ := hcut
        have d7 := hd.cells.1
        have d8 := hd.cells.2.1
        have d9 := hd.cells.2.2.1
        have b0 : wc.cell? ⟨w6.heap.size, 0, none⟩ = some (.int .u64 (n' : Int)) := by rw [hp_cell hw]; rfl
        have b1 : wc.cell? ⟨w6.heap.size, 1, none⟩ = some (.int .i64 x') := by rw [hp_cell hw]; rfl
        have b2 : wc.cell? ⟨w6.heap.size, 2, none⟩ = some (.pointer none) := by rw [hp_cell hw]; rfl
        have hneq := time_neq n' x'
        have hF : LFin w (w2.heap.size + 1) B n D wc := ⟨hd.cells.2.2.2.1, hl, he, hb⟩
        have HF := Hid.intro hF
        clear hd hw hl he hb HT HI HV q0 q1 q2 s0 s1 s2
        go_wp2_with fail
        go_quiet (fail)
        clear hneq d7 d8 d9 b0 b1 b2
        have c10 := hF.c10
        have hme := fun w r => run_eql_map_nil (P := Yba.prog) w 49 23 4 r Yba.underlying49
        have l1 := hF.lens.1
        have l2 := hF.lens.2
        have k1 := (hF.looks hid).1
        have k2 := (hF.looks hid).2
        clear hF
        go_wp2_with fail
        go_quiet (fail)
        clear k1 k2 l1 l2 c10
        go_wp2_with fail
        go_loopg [118] len (fun g v118 w' => ∃ q : Nat, v118 = .int .i64 (q : Int) ∧ q + g = len ∧ LFin w (w2.heap.size + 1) B n D w')
        case atStart => exact ⟨0, rfl, by omega, HF.out.ext ((Ext.refl _).drewN _)⟩
        case round =>
          clear HF
          obtain ⟨q, rfl, hqg, hF⟩ := hrel
          have HQ := Hid.intro hqg
          clear hqg
          by_cases hlt : q < len
          · obtain ⟨b, off, rfl, hb, hz⟩ := HP.out.2 (by omega)
            have z0 : wr.cell? ⟨b, off + q * 2, none⟩ = some (.int .u16 (I q : Int)) := (hF.bel.cell (p := ⟨b, off + q * 2, none⟩) hb).trans (hz q hlt).1
            have z1 : wr.cell? ⟨b, off + q * 2 + 1, none⟩ = some (.bool (V q)) := (hF.bel.cell (p := ⟨b, off + q * 2 + 1, none⟩) hb).trans (hz q hlt).2
            have hF2 := hF.ext ((Ext.refl wr).alloc (.cells #[.int .u16 (I q : Int), .bool (V q)] 58))
            have HF2 := Hid.intro hF2
            have c10 := hF2.c10
            have k1 := (hF2.looks (HP.out.1 q)).1
            have k2 := (hF2.looks (HP.out.1 q)).2
            have hqi : (q : Int) < (len : Int) := by omega
            clear hz hF hF2
            go_wp2_with fail
            go_quiet (fail)
            go_wp2_with fail
            go_roundg (len - (q + 1))
            case measure => have := HQ.out; omega
            case rel => exact ⟨q + 1, by go_num, by omega, HF2.out.ext ((Ext.refl _).drewN _)⟩
          · have hqi : ¬ (q : Int) < (len : Int) := by omega
            go_wp2_with fail
            go_ret
            exact ⟨rfl, hF.bel⟩
end Go.Proofs.Ybulkckzs
