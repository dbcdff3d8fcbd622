import Derived.Test.YbulkckzsDoorBld2
import Derived.Deep.MidRow
set_option linter.unusedVariables false
set_option linter.unusedSimpArgs false
namespace Go.Proofs.YbulkckzsDoor
open Go.RowKit
attribute [local go_sem ↓] Go.wp_at_zero Go.wp_at_succ

theorem i45 : (Ybad.prog.info? 45).map (·.size) = some 18 := by kernel_rfl
theorem mcells_size (m : Msg) : (mcells m).size = 18 := rfl
theorem mcells_one (m : Msg) : (mcells m).all (·.oneCell') = true := by simp [mcells, bv, Value.oneCell']
/-- A message is read, and copied into its own block. -/
theorem msg_range {w : World} {b o : Nat} {m : Msg} (h : ∀ i, i < 18 → w.cell? ⟨b, o + i, none⟩ = (mcells m)[i]?) : w.rangeAt b o (mcells m).toList := fun j v hv => by
  have hj : j < 18 := by have := (List.getElem?_eq_some_iff.1 hv).1; simpa [mcells] using this
  rw [h j hj, ← hv, Array.getElem?_toList]
theorem msg_put (w : World) (m : Msg) : ((w.alloc (.cells #[.int .u8 0, .int .u8 0, .int .u8 0, .int .u8 0, .int .u8 0, .int .u8 0, .int .u8 0, .int .u8 0, .int .u8 0, .int .u8 0, .int .u8 0, .int .u8 0, .int .u8 0, .int .u8 0, .int .u8 0, .int .u8 0, .int .u8 0, .int .u8 0] 45)).setRow w.heap.size (mcells m).toList.toArray).heap[w.heap.size]? = some (.cells (mcells m) 45 (0, 0)) ∧ Ext w ((w.alloc (.cells #[.int .u8 0, .int .u8 0, .int .u8 0, .int .u8 0, .int .u8 0, .int .u8 0, .int .u8 0, .int .u8 0, .int .u8 0, .int .u8 0, .int .u8 0, .int .u8 0, .int .u8 0, .int .u8 0, .int .u8 0, .int .u8 0, .int .u8 0, .int .u8 0] 45)).setRow w.heap.size (mcells m).toList.toArray) := by
  refine ⟨setRow_heap _ _ _ _ _ _ (hp_alloc_new w _), ?_⟩
  have x := (Ext.refl w).alloc (.cells #[.int .u8 0, .int .u8 0, .int .u8 0, .int .u8 0, .int .u8 0, .int .u8 0, .int .u8 0, .int .u8 0, .int .u8 0, .int .u8 0, .int .u8 0, .int .u8 0, .int .u8 0, .int .u8 0, .int .u8 0, .int .u8 0, .int .u8 0, .int .u8 0] 45)
  exact ⟨rfl, rfl, rfl, by rw [setRow_size]; exact x.le, fun k hk => by rw [setRow_other _ _ _ _ (by omega)]; exact x.block hk⟩
/-- What zzs4347cbuild answers. -/
def BuildRet (w : World) (z6 z4 : Option Addr) (ms : List Msg) (e : Ending) (w' : World) : Prop :=
  ∃ v h l z, e = .returned (.tuple #[v, .agg #[.int .u64 h, .int .u64 l, .pointer z]]) ∧ Bytes w' w.heap.size v (encs ms) ∧ av h l z = wantV z6 z4 ms ∧ Ext w w'
theorem BL.start (w : World) (z6 z4 : Option Addr) (M : Nat → Msg) : BL w z6 z4 M 0 (.slice none 0 0) (.bool false) ((w.alloc (.cells #[.int .u64 0, .int .u64 0, .pointer none] 31)).alloc (.cells #[.int .u64 0, .int .u64 0, .pointer none] 31)) := by
  have e := hp_alloc_new (w.alloc (.cells #[.int .u64 0, .int .u64 0, .pointer none] 31)) (.cells #[.int .u64 0, .int .u64 0, .pointer none] 31)
  rw [hp_alloc_size] at e
  exact ⟨0, 0, none, ⟨((Ext.refl _).alloc _).some (hp_alloc_new w _), e, ⟨rfl, .inl ⟨rfl, rfl⟩⟩, ((Ext.refl w).alloc _).alloc _⟩, rfl, rfl⟩
/-- The next message is laid out; it is no new hit. -/
theorem BL.miss {w wr w' : World} {z6 z4 : Option Addr} {M : Nat → Msg} {q : Nat} {v4 v' : Value} {h l : Int} {z : Option Addr} (hI : BI w v4 (encs (msL M q)) h l z wr) (hv : av h l z = wantV z6 z4 (msL M q)) (hG : Gr v4 wr v' w') (hB : Bytes w' w.heap.size v' (encs (msL M q) ++ menc (M q))) (hm : hitV z6 z4 (M q) = none ∨ (wantO z6 z4 (msL M q)).isSome = true) :
    BL w z6 z4 M (q + 1) v' (.bool (wantO z6 z4 (msL M q)).isSome) w' := by
  have ho : wantO z6 z4 (msL M (q + 1)) = wantO z6 z4 (msL M q) := by
    rw [msL_succ, wantO_snoc]
    rcases hm with q | q
    · rw [q]; simp
    · obtain ⟨x, hx⟩ := Option.isSome_iff_exists.1 q
      rw [hx]; rfl
  refine ⟨h, l, z, hI.put hG (by rw [msL_succ, encs_snoc]; exact hB), ?_, by rw [ho]⟩
  rw [hv]; unfold wantV; rw [ho]
/-- The next message is the first hit. -/
theorem BL.hit {w wr w' w'' : World} {z6 z4 : Option Addr} {M : Nat → Msg} {q : Nat} {v4 v' : Value} {h l h' l' : Int} {z z' : Option Addr} (hI : BI w v4 (encs (msL M q)) h l z wr) (hG : Gr v4 wr v' w') (hB : Bytes w' w.heap.size v' (encs (msL M q) ++ menc (M q))) (hm : hitV z6 z4 (M q) = some (av h' l' z')) (hn : (wantO z6 z4 (msL M q)).isSome = false) (hx : Ext w' w'') :
    BL w z6 z4 M (q + 1) v' (.bool true) (((w''.setCell ⟨w.heap.size + 1, 0, none⟩ (.int .u64 h')).setCell ⟨w.heap.size + 1, 1, none⟩ (.int .u64 l')).setCell ⟨w.heap.size + 1, 2, none⟩ (.pointer z')) := by
  have ho : wantO z6 z4 (msL M (q + 1)) = some (av h' l' z') := by
    rw [msL_succ, wantO_snoc, hm]
    cases hq : wantO z6 z4 (msL M q) with
    | none => rfl
    | some x => rw [hq] at hn; cases hn
  have hI2 := ((hI.put hG (by exact hB)).alloc hx).store h' l' z'
  rw [← encs_snoc, ← msL_succ] at hI2
  exact ⟨h', l', z', hI2, by unfold wantV; rw [ho]; rfl, by rw [ho]; rfl⟩
set_option maxRecDepth 100000 in
set_option maxHeartbeats 8000000 in
theorem build_any (a : Option Addr) (len cap : Nat) (M : Nat → Msg) (z6 z4 : Option Addr) (w : World) (hM : MsgsAt w a len M) (hlen : len ≤ 300) (h6 : w.cell? ⟨1, 0, none⟩ = some (.pointer z6)) (h4 : w.cell? ⟨2, 0, none⟩ = some (.pointer z4)) :
    Calls Ybad.prog 6 #[.slice a len cap] w (BuildRet w z6 z4 (msL M len)) := by
  obtain ⟨C, hC, hmk⟩ := make20
  have HM := Hid.intro hM
  have HST := Hid.intro (BL.start w z6 z4 M)
  have H6 := Hid.intro h6
  have H4 := Hid.intro h4
  clear hM h6 h4
  go_enter Ybad.func6, Ybad.ntmps6
  go_wp2_with fail
  go_loopg [4, 6, 14] len (fun m v4 v6 v14 wr => ∃ q : Nat, v14 = .int .i64 (q : Int) ∧ q + m = len ∧ BL w z6 z4 M q v4 v6 wr)
  case atStart => exact ⟨0, rfl, by omega, HST.out⟩
  case round =>
    clear HST
    obtain ⟨q, rfl, hqm, hL⟩ := hrel
    obtain ⟨h, l, z, hI, hv, rfl⟩ := hL.ex
    have HQM := Hid.intro hqm
    have HI := Hid.intro hI
    have HV := Hid.intro hv
    by_cases hlt : q < len
    · obtain ⟨b, off, rfl, hb, hz⟩ := HM.out.2 (by omega)
      obtain ⟨ok1, ok2, ok3⟩ := HM.out.1 q
      have hrg := Hid.intro (msg_range (w := wr) (b := b) (o := off + q * 18) (m := M q) (fun i hi => (hI.ext.cell (p := ⟨b, off + q * 18 + i, none⟩) hb).trans (hz q hlt i hi)))
      obtain ⟨hmb, xm⟩ := msg_put wr (M q)
      have hIm := hI.alloc xm
      have hs1 : Hid ((Ybad.prog.info? 45).map (·.size) = some (mcells (M q)).toList.length) := Hid.intro (by rw [i45]; rfl)
      have hs2 : Hid ((Ybad.prog.info? 45).map (·.size) = some (mcells (M q)).toList.toArray.size) := Hid.intro (by rw [i45]; rfl)
      have hs3 : Hid ((#[.int .u8 0, .int .u8 0, .int .u8 0, .int .u8 0, .int .u8 0, .int .u8 0, .int .u8 0, .int .u8 0, .int .u8 0, .int .u8 0, .int .u8 0, .int .u8 0, .int .u8 0, .int .u8 0, .int .u8 0, .int .u8 0, .int .u8 0, .int .u8 0] : Array Value).size = (mcells (M q)).toList.toArray.size) := Hid.intro rfl
      have hs4 : Hid ((mcells (M q)).toList.toArray.all (·.oneCell') = true) := Hid.intro (by simpa using mcells_one (M q))
      have HMB := Hid.intro hmb
      have HIM := Hid.intro hIm
      obtain ⟨fd, hfd⟩ : ∃ fd, (wantO z6 z4 (msL M q)).isSome = fd := ⟨_, rfl⟩
      have hqli : (q : Int) < (len : Int) := by omega
      clear hz hqm hL hmb hIm xm hI HI
      rw [hfd]
      generalize hag : mcells (M q) = ag at hrg hs1 hs2 hs3 hs4
      go_upto_region 7 with (first | (refine wpList_load_mid rfl 45 _ rfl b (off + q * 18) rfl ag.toList _ hrg.out Ybad.underlying45 rfl hs1.out ?_) | (refine wpList_store_row rfl 45 _ _ rfl wr.heap.size ag.toList.toArray rfl rfl 45 #[.int .u8 0, .int .u8 0, .int .u8 0, .int .u8 0, .int .u8 0, .int .u8 0, .int .u8 0, .int .u8 0, .int .u8 0, .int .u8 0, .int .u8 0, .int .u8 0, .int .u8 0, .int .u8 0, .int .u8 0, .int .u8 0, .int .u8 0, .int .u8 0] (hp_alloc_new wr _) hs2.out hs3.out hs4.out ?_))
      have hmb := HMB.out
      have hIm := HIM.out
      rw [hag] at hmb hIm
      clear HMB HIM hrg hs1 hs2 hs3 hs4
      generalize (wr.alloc (.cells #[.int .u8 0, .int .u8 0, .int .u8 0, .int .u8 0, .int .u8 0, .int .u8 0, .int .u8 0, .int .u8 0, .int .u8 0, .int .u8 0, .int .u8 0, .int .u8 0, .int .u8 0, .int .u8 0, .int .u8 0, .int .u8 0, .int .u8 0, .int .u8 0] 45)).setRow wr.heap.size ag.toList.toArray = Wm at hmb hIm ⊢
      rw [← hag] at hmb
      clear hag
      have hmlt : wr.heap.size < Wm.heap.size := hp_lt hmb
      generalize wr.heap.size = mb at hmb hmlt ⊢
      have HIM := Hid.intro hIm
      have HMB := Hid.intro hmb
      have m0 : Wm.cell? ⟨mb, 0, none⟩ = some (.int .u8 ((M q).k : Int)) := by rw [hp_cell hmb]; rfl
      have m1 : Wm.cell? ⟨mb, 1, none⟩ = some (.int .u8 ((M q).e : Int)) := by rw [hp_cell hmb]; rfl
      have hbl : (encs (msL M q)).length ≤ 50000 := by have e1 := encs_le (msL M q); have e2 : (msL M q).length = q := (by simp [msL]); omega
      have hbs : w.heap.size ≤ Wm.heap.size := hIm.ext.le
      have HP := Hid.intro (fun (l t db off c : Nat) (ds : List Nat) (W : World) (hl : l < 256) (ht : t < 256) (hds : ds.length ≤ 20) (hx : Ext Wm W) (hD : DataAt W db off ds) (hne : u4.ownBlock ≠ some db) =>
        put_any w.heap.size l t db off c u4 (encs (msL M q)) ds W hl ht hds (hIm.by_.ext hx) hbl (by have := hx.le; omega) hD hne)
      have hmne : u4.ownBlock ≠ some mb := hIm.ne hmb (by decide)
      have H2 := Hid.intro (fun (l t k : Nat) (hk : k ≤ 16) (hl : l < 256) (ht : t < 256) => (show Calls Ybad.prog 10 #[u4, .int .u32 (l : Int), .int .u32 (t : Int), .slice (some ⟨mb, 2, none⟩) k 16] Wm (AppRet Wm w.heap.size u4 (encs (msL M q)) (enc l t ((ad16 (M q).a).take k))) by
        have h := HP.out l t mb 2 16 ((ad16 (M q).a).take k) _ hl ht (by simp; omega) (Ext.refl _) (msg_data hmb k hk) hmne
        have hl : ((ad16 (M q).a).take k).length = k := by simp [ad16]; omega
        rw [hl] at h
        exact h))
      have HMS := Hid.intro (fun (v' : Value) (w' : World) (hG : Gr u4 Wm v' w') (hB : Bytes w' w.heap.size v' (encs (msL M q) ++ menc (M q))) hm => BL.miss (z6 := z6) (z4 := z4) hIm hv hG hB hm)
      have HMNE := Hid.intro hmne
      rw [hfd] at HMS
      clear hIm hmb hv hmne hbl
      rcases mkind (M q) with hk | hk | hk | hk | hk | hk
      · have hki : ((M q).k : Int) % 6 = 0 := by omega
        have HE2 : Hid (menc (M q) = enc 41 50 (ad16 (M q).a ++ [(M q).e, 0, 0, 0])) := Hid.intro (by simp [menc, mlev, mtyp, mdat, hk])
        have HH : Hid (hitV z6 z4 (M q) = some (av (be64 ((M q).a 0) ((M q).a 1) ((M q).a 2) ((M q).a 3) ((M q).a 4) ((M q).a 5) ((M q).a 6) ((M q).a 7)) (be64 ((M q).a 8) ((M q).a 9) ((M q).a 10) ((M q).a 11) ((M q).a 12) ((M q).a 13) ((M q).a 14) ((M q).a 15)) z6)) := Hid.intro (by simp [hitV, hk])
        clear hk
        obtain ⟨v1, W2, gd, cd, W3, hr1, hr2, hda, hx3, hgd, hx2, hm1⟩ := data0 HMB.out C hC
        have hdl : (ad16 (M q).a ++ [(M q).e, 0, 0, 0]).length = 20 := rfl
        have hne : u4.ownBlock ≠ some gd := fun e => by have := (HIM.out.ge e).2; omega
        have HPU : Hid (Calls Ybad.prog 10 #[u4, .int .u32 41, .int .u32 50, .slice (some ⟨gd, 0, none⟩) 20 cd] W3 (AppRet W3 w.heap.size u4 (encs (msL M q)) (enc 41 50 (ad16 (M q).a ++ [(M q).e, 0, 0, 0])))) := Hid.intro (HP.out 41 50 gd 0 cd (ad16 (M q).a ++ [(M q).e, 0, 0, 0]) W3 (by omega) (by omega) (by omega) hx3 hda hne)
        have HX3 := Hid.intro hx3
        have hI3 := Hid.intro (HIM.out.alloc hx3)
        obtain ⟨hi, hhi⟩ : ∃ hi, be64 ((M q).a 0) ((M q).a 1) ((M q).a 2) ((M q).a 3) ((M q).a 4) ((M q).a 5) ((M q).a 6) ((M q).a 7) = hi := ⟨_, rfl⟩
        obtain ⟨lo, hlo⟩ : ∃ lo, be64 ((M q).a 8) ((M q).a 9) ((M q).a 10) ((M q).a 11) ((M q).a 12) ((M q).a 13) ((M q).a 14) ((M q).a 15) = lo := ⟨_, rfl⟩
        rw [hhi, hlo] at HH
        have HF := Hid.intro (fun W (hW : W.cell? ⟨1, 0, none⟩ = some (.pointer z6)) => (show Calls Ybad.prog 11 #[.agg #[bv ((M q).a 0), bv ((M q).a 1), bv ((M q).a 2), bv ((M q).a 3), bv ((M q).a 4), bv ((M q).a 5), bv ((M q).a 6), bv ((M q).a 7), bv ((M q).a 8), bv ((M q).a 9), bv ((M q).a 10), bv ((M q).a 11), bv ((M q).a 12), bv ((M q).a 13), bv ((M q).a 14), bv ((M q).a 15)]] W fun e w' => e = .returned (.agg #[.int .u64 hi, .int .u64 lo, .pointer z6]) ∧ Ext W w' by
          rw [← hhi, ← hlo]
          exact from16 (M q).a z6 W ok3 hW))
        have HMB2 := Hid.intro HMB.out
        clear hda hx3 hgd hx2 hdl hne hhi hlo
        cases fd with
        | true =>
          go_wp2_with (first | (at_builtin; refine Lib.wpList_append_run _ rfl _ _ _ _ rfl _ _ rfl rfl _ _ hr1 ?_) | (at_builtin; refine Lib.wpList_append_run _ rfl _ _ _ _ rfl _ _ rfl rfl _ _ hr2 ?_) | (go_at_call 10; refine HPU.out.mono ?_; rintro e w4 ⟨v', rfl, hB, hG⟩; have HB := Hid.intro hB; have HG := Hid.intro hG; clear hB hG))
          go_roundg (len - (q + 1))
          case measure => have := HQM.out; omega
          case rel => exact ⟨q + 1, by go_num, by omega, HMS.out v' w4 ((Gr.of_ext HX3.out).trans HG.out) (by rw [HE2.out]; exact HB.out) (by first | exact .inr trivial | exact .inr rfl)⟩
        | false =>
          go_wp2_with (first | (at_builtin; refine Lib.wpList_append_run _ rfl _ _ _ _ rfl _ _ rfl rfl _ _ hr1 ?_) | (at_builtin; refine Lib.wpList_append_run _ rfl _ _ _ _ rfl _ _ rfl rfl _ _ hr2 ?_) | (go_at_call 10; refine HPU.out.mono ?_; rintro e w4 ⟨v', rfl, hB, hG⟩; have HB := Hid.intro hB; have HG := Hid.intro hG; have hI4 := hI3.out.put hG hB; have hmb4 := hG.keep (HX3.out.some HMB2.out) (hI3.out.ne (HX3.out.some HMB2.out) (by decide)); have n2 : w4.cell? ⟨mb, 2, none⟩ = some (bv ((M q).a 0)) := (by rw [hp_cell hmb4]; rfl); have n3 : w4.cell? ⟨mb, 3, none⟩ = some (bv ((M q).a 1)) := (by rw [hp_cell hmb4]; rfl); have n4 : w4.cell? ⟨mb, 4, none⟩ = some (bv ((M q).a 2)) := (by rw [hp_cell hmb4]; rfl); have n5 : w4.cell? ⟨mb, 5, none⟩ = some (bv ((M q).a 3)) := (by rw [hp_cell hmb4]; rfl); have n6 : w4.cell? ⟨mb, 6, none⟩ = some (bv ((M q).a 4)) := (by rw [hp_cell hmb4]; rfl); have n7 : w4.cell? ⟨mb, 7, none⟩ = some (bv ((M q).a 5)) := (by rw [hp_cell hmb4]; rfl); have n8 : w4.cell? ⟨mb, 8, none⟩ = some (bv ((M q).a 6)) := (by rw [hp_cell hmb4]; rfl); have n9 : w4.cell? ⟨mb, 9, none⟩ = some (bv ((M q).a 7)) := (by rw [hp_cell hmb4]; rfl); have n10 : w4.cell? ⟨mb, 10, none⟩ = some (bv ((M q).a 8)) := (by rw [hp_cell hmb4]; rfl); have n11 : w4.cell? ⟨mb, 11, none⟩ = some (bv ((M q).a 9)) := (by rw [hp_cell hmb4]; rfl); have n12 : w4.cell? ⟨mb, 12, none⟩ = some (bv ((M q).a 10)) := (by rw [hp_cell hmb4]; rfl); have n13 : w4.cell? ⟨mb, 13, none⟩ = some (bv ((M q).a 11)) := (by rw [hp_cell hmb4]; rfl); have n14 : w4.cell? ⟨mb, 14, none⟩ = some (bv ((M q).a 12)) := (by rw [hp_cell hmb4]; rfl); have n15 : w4.cell? ⟨mb, 15, none⟩ = some (bv ((M q).a 13)) := (by rw [hp_cell hmb4]; rfl); have n16 : w4.cell? ⟨mb, 16, none⟩ = some (bv ((M q).a 14)) := (by rw [hp_cell hmb4]; rfl); have n17 : w4.cell? ⟨mb, 17, none⟩ = some (bv ((M q).a 15)) := (by rw [hp_cell hmb4]; rfl); have HI4 := Hid.intro hI4; clear hB hG hI4 hmb4) | (go_at_call 11; refine (HF.out _ (ext_cell HI4.out.ext H6.out)).mono ?_; rintro e w5 ⟨rfl, hx5⟩; obtain ⟨p0, p1, p2, pf⟩ := (HI4.out.alloc hx5).cells))
          go_roundg (len - (q + 1))
          case measure => have := HQM.out; omega
          case rel => exact ⟨q + 1, by go_num, by omega, BL.hit HIM.out ((Gr.of_ext HX3.out).trans HG.out) (by rw [HE2.out]; exact HB.out) HH.out hfd hx5⟩
      · have hki : ((M q).k : Int) % 6 = 1 := by omega
        have HE2 : Hid (menc (M q) = enc 0 8 [(M q).e, 1, 0, 0, (M q).a 4, (M q).a 5, (M q).a 6, (M q).a 7, (M q).a 0, (M q).a 1, (M q).a 2, (M q).a 3]) := Hid.intro (by simp [menc, mlev, mtyp, mdat, hk])
        have HH : Hid (hitV z6 z4 (M q) = some (av 0 (lo4 ((M q).a 0) ((M q).a 1) ((M q).a 2) ((M q).a 3)) z4)) := Hid.intro (by simp [hitV, hk])
        clear hk
        have hx3 := (Ext.refl Wm).alloc (.cells #[.int .u8 ((M q).e : Int), .int .u8 1, .int .u8 0, .int .u8 0, .int .u8 ((M q).a 4 : Int), .int .u8 ((M q).a 5 : Int), .int .u8 ((M q).a 6 : Int), .int .u8 ((M q).a 7 : Int), .int .u8 ((M q).a 0 : Int), .int .u8 ((M q).a 1 : Int), .int .u8 ((M q).a 2 : Int), .int .u8 ((M q).a 3 : Int)] 5)
        have hda : DataAt (Wm.alloc (.cells #[.int .u8 ((M q).e : Int), .int .u8 1, .int .u8 0, .int .u8 0, .int .u8 ((M q).a 4 : Int), .int .u8 ((M q).a 5 : Int), .int .u8 ((M q).a 6 : Int), .int .u8 ((M q).a 7 : Int), .int .u8 ((M q).a 0 : Int), .int .u8 ((M q).a 1 : Int), .int .u8 ((M q).a 2 : Int), .int .u8 ((M q).a 3 : Int)] 5)) Wm.heap.size 0 [(M q).e, 1, 0, 0, (M q).a 4, (M q).a 5, (M q).a 6, (M q).a 7, (M q).a 0, (M q).a 1, (M q).a 2, (M q).a 3] := ⟨_, _, _, hp_alloc_new Wm _, fun j hj => by
          rw [Nat.zero_add]
          have hj' : j < 12 := by simpa using hj
          have hc : j = 0 ∨ j = 1 ∨ j = 2 ∨ j = 3 ∨ j = 4 ∨ j = 5 ∨ j = 6 ∨ j = 7 ∨ j = 8 ∨ j = 9 ∨ j = 10 ∨ j = 11 := by omega
          rcases hc with rfl | rfl | rfl | rfl | rfl | rfl | rfl | rfl | rfl | rfl | rfl | rfl <;> rfl⟩
        have hne : u4.ownBlock ≠ some Wm.heap.size := fun e => by have := (HIM.out.ge e).2; omega
        have HPU : Hid (Calls Ybad.prog 10 #[u4, .int .u32 0, .int .u32 8, .slice (some ⟨Wm.heap.size, 0, none⟩) 12 12] (Wm.alloc (.cells #[.int .u8 ((M q).e : Int), .int .u8 1, .int .u8 0, .int .u8 0, .int .u8 ((M q).a 4 : Int), .int .u8 ((M q).a 5 : Int), .int .u8 ((M q).a 6 : Int), .int .u8 ((M q).a 7 : Int), .int .u8 ((M q).a 0 : Int), .int .u8 ((M q).a 1 : Int), .int .u8 ((M q).a 2 : Int), .int .u8 ((M q).a 3 : Int)] 5)) (AppRet (Wm.alloc (.cells #[.int .u8 ((M q).e : Int), .int .u8 1, .int .u8 0, .int .u8 0, .int .u8 ((M q).a 4 : Int), .int .u8 ((M q).a 5 : Int), .int .u8 ((M q).a 6 : Int), .int .u8 ((M q).a 7 : Int), .int .u8 ((M q).a 0 : Int), .int .u8 ((M q).a 1 : Int), .int .u8 ((M q).a 2 : Int), .int .u8 ((M q).a 3 : Int)] 5)) w.heap.size u4 (encs (msL M q)) (enc 0 8 [(M q).e, 1, 0, 0, (M q).a 4, (M q).a 5, (M q).a 6, (M q).a 7, (M q).a 0, (M q).a 1, (M q).a 2, (M q).a 3]))) := Hid.intro (HP.out 0 8 Wm.heap.size 0 12 [(M q).e, 1, 0, 0, (M q).a 4, (M q).a 5, (M q).a 6, (M q).a 7, (M q).a 0, (M q).a 1, (M q).a 2, (M q).a 3] _ (by omega) (by omega) (by simp) hx3 hda hne)
        have HX3 := Hid.intro hx3
        have hI3 := Hid.intro (HIM.out.alloc hx3)
        obtain ⟨lo, hlo⟩ : ∃ lo, lo4 ((M q).a 0) ((M q).a 1) ((M q).a 2) ((M q).a 3) = lo := ⟨_, rfl⟩
        rw [hlo] at HH
        have HF := Hid.intro (fun W (hW : W.cell? ⟨2, 0, none⟩ = some (.pointer z4)) => (show Calls Ybad.prog 12 #[.agg #[.int .u8 ((M q).a 0 : Int), .int .u8 ((M q).a 1 : Int), .int .u8 ((M q).a 2 : Int), .int .u8 ((M q).a 3 : Int)]] W fun e w' => e = .returned (.agg #[.int .u64 0, .int .u64 lo, .pointer z4]) ∧ Ext W w' by
          rw [← hlo]
          exact from4 _ _ _ _ z4 W ⟨ok3 0, ok3 1, ok3 2, ok3 3⟩ hW))
        have HMB2 := Hid.intro HMB.out
        have m2 : Wm.cell? ⟨mb, 2, none⟩ = some (.int .u8 ((M q).a 0 : Int)) := by rw [hp_cell HMB.out]; rfl
        have m3 : Wm.cell? ⟨mb, 3, none⟩ = some (.int .u8 ((M q).a 1 : Int)) := by rw [hp_cell HMB.out]; rfl
        have m4 : Wm.cell? ⟨mb, 4, none⟩ = some (.int .u8 ((M q).a 2 : Int)) := by rw [hp_cell HMB.out]; rfl
        have m5 : Wm.cell? ⟨mb, 5, none⟩ = some (.int .u8 ((M q).a 3 : Int)) := by rw [hp_cell HMB.out]; rfl
        have m6 : Wm.cell? ⟨mb, 6, none⟩ = some (.int .u8 ((M q).a 4 : Int)) := by rw [hp_cell HMB.out]; rfl
        have m7 : Wm.cell? ⟨mb, 7, none⟩ = some (.int .u8 ((M q).a 5 : Int)) := by rw [hp_cell HMB.out]; rfl
        have m8 : Wm.cell? ⟨mb, 8, none⟩ = some (.int .u8 ((M q).a 6 : Int)) := by rw [hp_cell HMB.out]; rfl
        have m9 : Wm.cell? ⟨mb, 9, none⟩ = some (.int .u8 ((M q).a 7 : Int)) := by rw [hp_cell HMB.out]; rfl
        clear hda hx3 hne hlo
        cases fd with
        | true =>
          go_wp2_with (go_at_call 10; refine HPU.out.mono ?_; rintro e w4 ⟨v', rfl, hB, hG⟩; have HB := Hid.intro hB; have HG := Hid.intro hG; clear hB hG)
          go_roundg (len - (q + 1))
          case measure => have := HQM.out; omega
          case rel => exact ⟨q + 1, by go_num, by omega, HMS.out v' w4 ((Gr.of_ext HX3.out).trans HG.out) (by rw [HE2.out]; exact HB.out) (by first | exact .inr trivial | exact .inr rfl)⟩
        | false =>
          go_wp2_with (first | (go_at_call 10; refine HPU.out.mono ?_; rintro e w4 ⟨v', rfl, hB, hG⟩; have HB := Hid.intro hB; have HG := Hid.intro hG; have hI4 := hI3.out.put hG hB; have hmb4 := hG.keep (HX3.out.some HMB2.out) (hI3.out.ne (HX3.out.some HMB2.out) (by decide)); have n2 : w4.cell? ⟨mb, 2, none⟩ = some (.int .u8 ((M q).a 0 : Int)) := (by rw [hp_cell hmb4]; rfl); have n3 : w4.cell? ⟨mb, 3, none⟩ = some (.int .u8 ((M q).a 1 : Int)) := (by rw [hp_cell hmb4]; rfl); have n4 : w4.cell? ⟨mb, 4, none⟩ = some (.int .u8 ((M q).a 2 : Int)) := (by rw [hp_cell hmb4]; rfl); have n5 : w4.cell? ⟨mb, 5, none⟩ = some (.int .u8 ((M q).a 3 : Int)) := (by rw [hp_cell hmb4]; rfl); have HI4 := Hid.intro hI4; clear hB hG hI4 hmb4) | (go_at_call 12; refine (HF.out _ (ext_cell HI4.out.ext H4.out)).mono ?_; rintro e w5 ⟨rfl, hx5⟩; obtain ⟨p0, p1, p2, pf⟩ := (HI4.out.alloc hx5).cells))
          go_roundg (len - (q + 1))
          case measure => have := HQM.out; omega
          case rel => exact ⟨q + 1, by go_num, by omega, BL.hit HIM.out ((Gr.of_ext HX3.out).trans HG.out) (by rw [HE2.out]; exact HB.out) HH.out hfd hx5⟩
      · have hki : ((M q).k : Int) % 6 = 2 := by omega
        have HE2 : Hid (menc (M q) = enc 1 29 ((ad16 (M q).a).take 8)) := Hid.intro (by simp [menc, mlev, mtyp, mdat, hk])
        have HH : Hid (hitV z6 z4 (M q) = none) := Hid.intro (by simp [hitV, hk])
        clear hk
        go_wp2_with (go_at_call 10; refine (H2.out 1 29 8 (by omega) (by omega) (by omega)).mono ?_; rintro e w4 ⟨v', rfl, hB, hG⟩; have HB := Hid.intro hB; have HG := Hid.intro hG; clear hB hG)
        go_roundg (len - (q + 1))
        case measure => have := HQM.out; omega
        case rel => exact ⟨q + 1, by go_num, by omega, HMS.out v' w4 HG.out (by rw [HE2.out]; exact HB.out) (.inl HH.out)⟩
      · have hki : ((M q).k : Int) % 6 = 3 := by omega
        have HE2 : Hid (menc (M q) = enc 41 50 ((ad16 (M q).a).take ((M q).e % 16))) := Hid.intro (by simp [menc, mlev, mtyp, mdat, hk])
        have HH : Hid (hitV z6 z4 (M q) = none) := Hid.intro (by simp [hitV, hk])
        clear hk
        obtain ⟨ee, hee⟩ : ∃ ee, ee = (M q).e % 16 := ⟨_, rfl⟩
        have heei : ((M q).e : Int) % 16 = (ee : Int) := by omega
        have hel : ee ≤ 16 := by omega
        have hel2 : (ee : Int) ≤ 16 := by omega
        have hel3 : (0 : Int) ≤ (ee : Int) := by omega
        rw [← hee] at HE2
        clear hee
        go_wp2_with (go_at_call 10; refine (H2.out 41 50 ee hel (by omega) (by omega)).mono ?_; rintro e w4 ⟨v', rfl, hB, hG⟩; have HB := Hid.intro hB; have HG := Hid.intro hG; clear hB hG)
        go_roundg (len - (q + 1))
        case measure => have := HQM.out; omega
        case rel => exact ⟨q + 1, by go_num, by omega, HMS.out v' w4 HG.out (by rw [HE2.out]; exact HB.out) (.inl HH.out)⟩
      · have hki : ((M q).k : Int) % 6 = 4 := by omega
        have HE2 : Hid (menc (M q) = enc 0 8 ((ad16 (M q).a).take ((M q).e % 12))) := Hid.intro (by simp [menc, mlev, mtyp, mdat, hk])
        have HH : Hid (hitV z6 z4 (M q) = none) := Hid.intro (by simp [hitV, hk])
        clear hk
        obtain ⟨ee, hee⟩ : ∃ ee, ee = (M q).e % 12 := ⟨_, rfl⟩
        have heei : ((M q).e : Int) % 12 = (ee : Int) := by omega
        have hel : ee ≤ 16 := by omega
        have hel2 : (ee : Int) ≤ 16 := by omega
        have hel3 : (0 : Int) ≤ (ee : Int) := by omega
        rw [← hee] at HE2
        clear hee
        go_wp2_with (go_at_call 10; refine (H2.out 0 8 ee hel (by omega) (by omega)).mono ?_; rintro e w4 ⟨v', rfl, hB, hG⟩; have HB := Hid.intro hB; have HG := Hid.intro hG; clear hB hG)
        go_roundg (len - (q + 1))
        case measure => have := HQM.out; omega
        case rel => exact ⟨q + 1, by go_num, by omega, HMS.out v' w4 HG.out (by rw [HE2.out]; exact HB.out) (.inl HH.out)⟩
      · by_cases hev : (M q).e % 2 = 0
        · have hki : ((M q).k : Int) % 6 = 5 := by omega
          have HE2 : Hid (menc (M q) = enc 0 50 ((ad16 (M q).a).take 16)) := Hid.intro (by simp [menc, mlev, mtyp, mdat, hk, hev, ad16])
          have HH : Hid (hitV z6 z4 (M q) = none) := Hid.intro (by simp [hitV, hk])
          clear hk
          have hei : ((M q).e : Int) % 2 = 0 := by omega
          go_wp2_with (go_at_call 10; refine (H2.out 0 50 16 (by omega) (by omega) (by omega)).mono ?_; rintro e w4 ⟨v', rfl, hB, hG⟩; have HB := Hid.intro hB; have HG := Hid.intro hG; clear hB hG)
          go_roundg (len - (q + 1))
          case measure => have := HQM.out; omega
          case rel => exact ⟨q + 1, by go_num, by omega, HMS.out v' w4 HG.out (by rw [HE2.out]; exact HB.out) (.inl HH.out)⟩
        · have hod : (M q).e % 2 = 1 := by omega
          have hki : ((M q).k : Int) % 6 = 5 := by omega
          have HE2 : Hid (menc (M q) = enc 41 8 ((ad16 (M q).a).take 12)) := Hid.intro (by simp [menc, mlev, mtyp, mdat, hk, hod])
          have HH : Hid (hitV z6 z4 (M q) = none) := Hid.intro (by simp [hitV, hk])
          clear hk
          have hei : ((M q).e : Int) % 2 = 1 := by omega
          go_wp2_with (go_at_call 10; refine (H2.out 41 8 12 (by omega) (by omega) (by omega)).mono ?_; rintro e w4 ⟨v', rfl, hB, hG⟩; have HB := Hid.intro hB; have HG := Hid.intro hG; clear hB hG)
          go_roundg (len - (q + 1))
          case measure => have := HQM.out; omega
          case rel => exact ⟨q + 1, by go_num, by omega, HMS.out v' w4 HG.out (by rw [HE2.out]; exact HB.out) (.inl HH.out)⟩
    · have hqli : ¬ (q : Int) < (len : Int) := by omega
      have hq : q = len := by omega
      have HQ := Hid.intro hq
      have r0 : wr.cell? ⟨w.heap.size, 0, none⟩ = some (.int .u64 0) := by rw [hp_cell hI.res]; rfl
      have r1 : wr.cell? ⟨w.heap.size, 1, none⟩ = some (.int .u64 0) := by rw [hp_cell hI.res]; rfl
      have r2 : wr.cell? ⟨w.heap.size, 2, none⟩ = some (.pointer none) := by rw [hp_cell hI.res]; rfl
      have rf := fun o => hp_frozen hI.res o
      obtain ⟨p0, p1, p2, pf⟩ := hI.cells
      clear hI hv hL hqm hq
      go_wp2_with fail
      go_region
      all_goals
        go_wp2_with fail
        (try simp only [Exit.inBlock, Exit.then])
        obtain ⟨hput, hfr⟩ := addr_put (W := wr) h l z HI.out.res rfl
        have s0 := hp_cell hput 0
        have s1 := hp_cell hput 1
        have s2 := hp_cell hput 2
        refine bodyPost_ret (v := .tuple #[u4, .agg #[.int .u64 h, .int .u64 l, .pointer z]]) (by simp [results, Ybad.results6, go_sem, s0, s1, s2]; try rfl) rfl ?_
        have hby := owns_fr HI.out.by_ hfr (fun g hg hm => by
          have e : g = w.heap.size := by simpa using hm
          subst e
          exact HI.out.ne HI.out.res (by decide) hg)
        rw [HQ.out] at hby
        have hvv := HV.out
        rw [HQ.out] at hvv
        exact ⟨u4, h, l, z, rfl, hby, hvv, (((HI.out.ext.set _ _ (Nat.le_refl _)).set _ _ (Nat.le_refl _)).set _ _ (Nat.le_refl _)).drew⟩
end Go.Proofs.YbulkckzsDoor
