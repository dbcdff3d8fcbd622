import Derived.Test.YbulkckvyStr
set_option linter.unusedVariables false
set_option linter.unusedSimpArgs false
namespace Go.Proofs.Ybulkckvy
open Go.RowKit
attribute [local go_sem ↓] Go.wp_at_zero Go.wp_at_succ

/-- Strings that came in. -/
def StrsIn (w : World) (a : Option Addr) (len : Nat) (S : Nat → ByteArray) : Prop :=
  0 < len → ∃ b off, a = some ⟨b, off, none⟩ ∧ b < w.heap.size ∧ ∀ j, j < len → w.cell? ⟨b, off + j, none⟩ = some (.string (S j))
theorem MGen.insCall {w wr w2 : World} {g cap : Nat} {K : List ByteArray} {F : List Nat} (k : ByteArray) (h : MGen w g cap K K F wr) (hx : Ext wr w2) (hn : K.length ≤ 1024) :
    Calls Yba.prog 22 #[.slice (some ⟨g, 0, none⟩) K.length cap, .int .i64 (pos k K : Int), .slice (some ⟨w2.heap.size, 0, none⟩) 1 1] (w2.alloc (.cells #[.string k] 9)) fun e w3 => ∃ g' cap', e = .returned (.slice (some ⟨g', 0, none⟩) (insK k K).length cap') ∧ MGen w g' cap' K (insK k K) F w3 := by
  have h2 := h.ext (hx.alloc (.cells #[.string k] 9))
  obtain ⟨r1, r2, r3, c, r4⟩ := (h.ext hx).row
  refine (InsS.ins_any w.heap.size K.length (pos k K) w2.heap.size _ (K.map Value.string) [.string k] _ h2.mod rfl (hp_alloc_new w2 _) (fun e => ?_) (fun u hu => by simp at hu; subst hu; rfl) (fun u hu => mem_str hu) (by omega) (pos_le k K) h2.bel.size).mono ?_
  · have : g = w2.heap.size := by injection e
    omega
  · intro e w3 hp
    exact h.insM (hx.alloc _) hp
theorem MCur.delCall {w W : World} {g cap : Nat} {K M : List ByteArray} {F : List Nat} {d : ByteArray} {b i cb : Nat} (h : MCur w g cap K M F d b i cb W) (hp : pos d M < M.length) (hn : M.length ≤ 1024) :
    Calls Yba.prog 23 #[.slice (some ⟨g, 0, none⟩) M.length cap, .int .i64 (pos d M : Int), .int .i64 ((pos d M : Int) + 1)] W fun e w5 => e = .returned (.slice (some ⟨g, 0, none⟩) (delK d M).length cap) ∧ MCur w g cap K (delK d M) F d b i cb w5 := by
  have := InsS.del_any w.heap.size M.length (pos d M) (pos d M + 1) g cap (M.map Value.string) W h.gen.mod (fun u hu => mem_str hu) (by omega) (by omega) (by omega)
  rw [Int.natCast_add, Int.natCast_one] at this
  refine this.mono ?_
  rintro e w5 ⟨rfl, hown, hgrow⟩
  exact ⟨by rw [delK_len hp], h.delM (n := 0) (j := 0) hp hown hgrow⟩
set_option maxRecDepth 100000 in
set_option maxHeartbeats 4000000 in
theorem strings_walk (a0 a1 : Option Addr) (len0 cap0 len1 cap1 : Nat) (S0 S1 : Nat → ByteArray) (w : World) (h0 : StrsIn w a0 len0 S0) (h1 : StrsIn w a1 len1 S1) :
    Calls Yba.prog 6 #[.slice a0 len0 cap0, .slice a1 len1 cap1] w fun e w' => e = .returned (.bool true) ∧ Below w.heap.size w w' := by
  by_cases hl0 : len0 > 1024
  · have h : (1024 : Int) < (len0 : Int) := by omega
    go_enter Yba.func6, Yba.ntmps6
    go_wp2_with fail
    go_ret
    exact ⟨rfl, Below.refl _ _⟩
  · have hq0 : ¬ (1024 : Int) < (len0 : Int) := by omega
    by_cases hl1 : len1 > 1024
    · have h : (1024 : Int) < (len1 : Int) := by omega
      go_enter Yba.func6, Yba.ntmps6
      go_wp2_with fail
      go_ret
      exact ⟨rfl, Below.refl _ _⟩
    · have hq1 : ¬ (1024 : Int) < (len1 : Int) := by omega
      have H0 := Hid.intro h0
      have H1 := Hid.intro h1
      have HST := Hid.intro (MGen.start w)
      clear h0 h1
      go_enter Yba.func6, Yba.ntmps6
      go_wp2_with fail
      go_loopg [6, 32] len0 (fun m v6 v32 wr => ∃ (i g cap : Nat) (K : List ByteArray) (F : List Nat), v32 = .int .i64 (i : Int) ∧ v6 = .slice (some ⟨g, 0, none⟩) K.length cap ∧ i + m = len0 ∧ K.length ≤ i ∧ MGen w g cap K K F wr)
      case atStart => exact ⟨0, _, 0, [], _, rfl, rfl, by omega, by simp, HST.out⟩
      case round =>
        clear HST
        obtain ⟨i, g, cap, K, F, rfl, rfl, him, hKi, hM⟩ := hrel
        have HIM := Hid.intro him
        have HKI := Hid.intro hKi
        have HM := Hid.intro hM
        clear him hKi
        by_cases hlt : i < len0
        · obtain ⟨b, off, rfl, hb, hz⟩ := H0.out (by omega)
          have z0 : wr.cell? ⟨b, off + i, none⟩ = some (.string (S0 i)) := (hM.bel.cell (p := ⟨b, off + i, none⟩) hb).trans (hz i hlt)
          obtain ⟨k, hk⟩ : ∃ k, S0 i = k := ⟨_, rfl⟩
          rw [hk] at z0
          have hKn : K.length ≤ 1023 := by have := HKI.out; omega
          have hili : (i : Int) < (len0 : Int) := by omega
          have HBS := Hid.intro (bs_any w.heap.size g cap K k wr hM.mod hM.idx.rising (by omega))
          clear hz hk
          cases hf : foundB k K with
          | true =>
            rw [hf] at HBS
            clear hf hM
            go_wp2_with (go_at_call 21; refine HBS.out.mono ?_; rintro e w2 ⟨rfl, hx2⟩; clear HBS)
            go_roundg (len0 - (i + 1))
            case measure => have := HIM.out; omega
            case rel => exact ⟨i + 1, g, cap, K, F, by go_num, rfl, by omega, by have := HKI.out; omega, HM.out.ext hx2⟩
          | false =>
            rw [hf] at HBS
            have hnk : Hid (k ∉ K) := Hid.intro (fun hm => by have := (found_iff hM.idx.rising).2 hm; rw [hf] at this; cases this)
            have HIC := Hid.intro (fun w2 (hx : Ext wr w2) => hM.insCall k hx (by omega))
            have hlen : Hid ((insK k K).length = K.length + 1) := Hid.intro (insK_length k K)
            clear hf hM
            go_wp2_with (first | (go_at_call 21; refine HBS.out.mono ?_; rintro e w2 ⟨rfl, hx2⟩; clear HBS) | (go_at_call 22; refine (HIC.out w2 hx2).mono ?_; rintro e w3 ⟨g', cap', rfl, hM3⟩; have HM3 := Hid.intro hM3; clear HIC hM3) | (go_at_call 13; refine (iins w.heap.size (w.heap.size + 1) K F k w3 HM3.out.idx hnk.out hKn).mono ?_; rintro e w4 hd; obtain ⟨rfl, F', hM4⟩ := HM3.out.insT hd; have HM4 := Hid.intro hM4; clear hM4 hd HM3))
            go_roundg (len0 - (i + 1))
            case measure => have := HIM.out; omega
            case rel => exact ⟨i + 1, g', cap', insK k K, F', by go_num, rfl, by omega, by rw [hlen.out]; have := HKI.out; omega, HM4.out⟩
        · have hili : ¬ (i : Int) < (len0 : Int) := by omega
          have hKL : K.length ≤ 1024 := by have := HKI.out; have := HIM.out; omega
          clear hM
          go_wp2_with fail
          go_loopg [6, 54] len1 (fun m v6 v54 w' => ∃ (q g cap : Nat) (K : List ByteArray) (F : List Nat), v54 = .int .i64 (q : Int) ∧ v6 = .slice (some ⟨g, 0, none⟩) K.length cap ∧ q + m = len1 ∧ K.length ≤ 1024 ∧ MGen w g cap K K F w')
          case atStart => exact ⟨0, g, cap, K, F, rfl, rfl, by omega, hKL, HM.out⟩
          case round =>
            clear HM hKL HKI
            obtain ⟨q, g, cap, K, F, rfl, rfl, hqm, hKL, hM⟩ := hrel
            have HQM := Hid.intro hqm
            have HKL := Hid.intro hKL
            have HM := Hid.intro hM
            clear hqm hKL
            by_cases hlq : q < len1
            · obtain ⟨b, off, rfl, hb, hz⟩ := H1.out (by omega)
              have z0 : wr.cell? ⟨b, off + q, none⟩ = some (.string (S1 q)) := (hM.bel.cell (p := ⟨b, off + q, none⟩) hb).trans (hz q hlq)
              obtain ⟨d, hd⟩ : ∃ d, S1 q = d := ⟨_, rfl⟩
              rw [hd] at z0
              have hqli : (q : Int) < (len1 : Int) := by omega
              have HD := Hid.intro (idel w.heap.size (w.heap.size + 1) K F d wr hM.idx HKL.out)
              have HR := Hid.intro hM.idx.rising
              obtain ⟨fb, hfb⟩ : ∃ fb, foundB d K = fb := ⟨_, rfl⟩
              have HFB := Hid.intro hfb
              clear hz hd hM hfb
              go_upto_if 73 with (first | (go_at_call 15; refine HD.out.mono ?_; rintro e w4 hdl; have hT := HM.out.delT hdl; rw [HFB.out] at hT; obtain ⟨b1, i1, F1, rfl, hC⟩ := hT; have HC := Hid.intro hC; clear hC hdl HD) | (go_at_call 21; have hB := (bs_any w.heap.size g cap K d _ HC.out.gen.mod HR.out (by have := HKL.out; omega)); rw [HFB.out] at hB; refine hB.mono ?_; rintro e w5 ⟨rfl, hx5⟩; have HC5 := Hid.intro (HC.out.ext hx5); clear HC hB))
              go_cut [6] (fun v6 w' => v6 = .slice (some ⟨g, 0, none⟩) (delIf d K).length cap ∧ MCur w g cap (delIf d K) (delIf d K) F1 d b1 i1 w4.heap.size w')
              case first =>
                cases fb with
                | true =>
                  have H23 := Hid.intro (HC5.out.delCall (found_pos HFB.out) HKL.out)
                  have hple : pos d K ≤ 1024 := by have := pos_le d K; have := HKL.out; omega
                  have HDI : Hid (delIf d K = delK d K) := Hid.intro (by unfold delIf; rw [HFB.out]; rfl)
                  go_wp2_with (go_at_call 23; refine H23.out.mono ?_; rintro e w6 ⟨rfl, hC6⟩)
                  go_meet
                  case rel =>
                    rw [HDI.out] at hC6 ⊢
                    exact ⟨rfl, hC6⟩
                | false =>
                  have HDI : Hid (delIf d K = K) := Hid.intro (by unfold delIf; rw [HFB.out]; rfl)
                  go_wp2_with fail
                  go_meet
                  case rel =>
                    have hC6 := HC5.out
                    rw [HDI.out] at hC6 ⊢
                    exact ⟨rfl, hC6⟩
              case rest =>
                obtain ⟨rfl, hC⟩ := hcut
                have hpd := pos_delIf (d := d) HR.out
                have hle := pos_le d (delIf d K)
                rw [hpd] at hle
                have HLEN : Hid ((delIf d K).length ≤ 1024) := Hid.intro (delIf_len HKL.out)
                have H16 := Hid.intro (bok_idx hC.gen.idx)
                have HCC := Hid.intro hC
                have HX := Hid.intro (fun (W : World) (hx : Ext wc W) => hx.some hC.cell)
                have b0 : wc.cell? ⟨w4.heap.size, 0, none⟩ = some (.pointer (some ⟨w.heap.size + 1, 0, none⟩)) := by rw [hp_cell hC.cell]; rfl
                have b1' : wc.cell? ⟨w4.heap.size, 1, none⟩ = some (.pointer (some ⟨b1, 0, none⟩)) := by rw [hp_cell hC.cell]; rfl
                have b2 : wc.cell? ⟨w4.heap.size, 2, none⟩ = some (.int .i64 (i1 : Int)) := by rw [hp_cell hC.cell]; rfl
                clear HC5 HM
                by_cases hend : pos d K = (delIf d K).length
                · have H17 := Hid.intro (fun W hx => cur_end hC.cur (by rw [hpd]; exact hend) W hx)
                  have hde : ((pos d K : Int) == ((delIf d K).length : Int)) = true := by rw [hend]; simp
                  clear hC hpd hle hend
                  go_wp2_with (first | (go_at_call 16; refine H16.out.mono ?_; rintro e w6 ⟨rfl, rfl⟩; clear H16) | (go_at_call 17; refine (H17.out _ (Ext.refl _)).mono ?_; rintro e w7 ⟨rfl, hx7⟩; clear H17))
                  go_roundg (len1 - (q + 1))
                  case measure => have := HQM.out; omega
                  case rel => exact ⟨q + 1, g, cap, delIf d K, F1, by go_num, rfl, by omega, HLEN.out, HCC.out.gen.ext hx7⟩
                · have hplt : pos d K < (delIf d K).length := by omega
                  obtain ⟨s, hs⟩ : ∃ s, (delIf d K)[pos d K] = s := ⟨_, rfl⟩
                  have hks : (delIf d K)[pos d (delIf d K)]? = some s := by rw [hpd, List.getElem?_eq_getElem hplt, hs]
                  have hcm := hC.gen.mod.cell rfl hplt
                  rw [hs] at hcm
                  have H17 := Hid.intro (fun W hx => (cur_at hC.cur hks W hx).1)
                  have H18 := Hid.intro (fun W hx => (cur_at hC.cur hks W hx).2)
                  have HCM := Hid.intro (fun (W : World) (hx : Ext wc W) => ext_cell hx hcm)
                  have hde : ((pos d K : Int) == ((delIf d K).length : Int)) = false := by simp; omega
                  have hpi : (pos d K : Int) < ((delIf d K).length : Int) := by omega
                  have HPL := Hid.intro hplt
                  clear hC hpd hle hend hs hks
                  go_upto_region 27 with (go_at_call 16; refine H16.out.mono ?_; rintro e w6 ⟨rfl, hw6⟩; rw [hw6]; clear H16 hw6)
                  go_cut [99] (fun v99 w' => v99 = .bool false ∧ Ext wc w')
                  case first =>
                    go_region_law (first | (go_simp; go_at_call 17; refine (H17.out _ ((Ext.refl wc).drew)).mono ?_; rintro e w7 ⟨rfl, hx7⟩; have hy7 : Ext wc w7 := ((Ext.refl wc).drew).trans hx7; have m7 := HCM.out w7 hy7; have q0 : w7.cell? ⟨w4.heap.size, 0, none⟩ = some (.pointer (some ⟨w.heap.size + 1, 0, none⟩)) := (by rw [hp_cell (HX.out w7 hy7)]; rfl); have q1 : w7.cell? ⟨w4.heap.size, 1, none⟩ = some (.pointer (some ⟨b1, 0, none⟩)) := (by rw [hp_cell (HX.out w7 hy7)]; rfl); have q2 : w7.cell? ⟨w4.heap.size, 2, none⟩ = some (.int .i64 (i1 : Int)) := (by rw [hp_cell (HX.out w7 hy7)]; rfl)) | (go_simp; go_at_call 18; refine (H18.out w7 hy7).mono ?_; rintro e w8 ⟨rfl, hx8⟩; have hy8 : Ext wc w8 := hy7.trans hx8; have m8 := HCM.out w8 hy8))
                    all_goals
                      go_wp2_with fail
                      go_meet
                      case rel => exact ⟨rfl, by assumption⟩
                  case rest =>
                    obtain ⟨rfl, hxx⟩ := hcut
                    have HG := Hid.intro (HCC.out.gen.ext hxx)
                    clear b0 b1' b2 HX HCC H17 H18 HCM hcm
                    go_wp2_with fail
                    go_roundg (len1 - (q + 1))
                    case measure => have := HQM.out; omega
                    case rel => exact ⟨q + 1, g, cap, delIf d K, F1, by go_num, rfl, by omega, HLEN.out, HG.out⟩
            · have hqli : ¬ (q : Int) < (len1 : Int) := by omega
              have H20 := Hid.intro (bkeys_idx hM.idx HKL.out)
              obtain ⟨p2, c2, hv2, h2⟩ := hM.mod.at
              have H2 := Hid.intro h2
              have hkl : K.length ≤ 1000000 := by have := HKL.out; omega
              have hp2 : p2 = some ⟨g, 0, none⟩ := by injection hv2 with e _ _; exact e.symm
              have HBE := Hid.intro hM.bel
              subst hp2
              clear hv2 h2 hM HM
              go_wp2_with (first | (go_at_call 20; refine H20.out.mono ?_; rintro e w4 ⟨v, rfl, hS4, hx4⟩; obtain ⟨p1, c1, rfl, h1⟩ := hS4.at; have H1' := Hid.intro h1; clear h1 hS4 H20) | (go_at_call 19; refine (equal_same p1 (some ⟨g, 0, none⟩) c1 cap K w4 H1'.out (fun j hj => (by obtain ⟨g', e, hc⟩ := H2.out j hj; exact ⟨g', e, ext_cell hx4 hc⟩)) hkl).mono ?_; rintro e w5 ⟨rfl, mm, rfl⟩))
              go_ret
              exact ⟨rfl, HBE.out.trans ((hx4.drewN mm).below HBE.out.size)⟩
end Go.Proofs.Ybulkckvy
