import Derived.Test.YbulkckzsDoorBld3
import Derived.Test.YbulkckzsDoorLaw1
set_option linter.unusedVariables false
set_option linter.unusedSimpArgs false
namespace Go.Proofs.YbulkckzsDoor
open Go.RowKit
attribute [local go_sem ↓] Go.wp_at_zero Go.wp_at_succ

theorem bytes_ne {w : World} {base : Nat} {v : Value} {bs : List Nat} (h : Bytes w base v bs) {b t : Nat} {c : Array Value} (hb : w.heap[b]? = some (.cells c t (0, 0))) (ht : t ≠ 5) : v.ownBlock ≠ some b := fun e => by
  obtain ⟨c', hc'⟩ := own_ty h e
  rw [hb] at hc'
  injection hc' with hc'
  injection hc' with _ q _
  exact ht q
theorem bytes_ge {w : World} {base : Nat} {v : Value} {bs : List Nat} (h : Bytes w base v bs) {b : Nat} (hb : v.ownBlock = some b) : base ≤ b := by
  rcases h.2 with ⟨q, _⟩ | ⟨g, cap, cur, q, hg, _⟩
  · rw [q] at hb; cases hb
  · rw [q] at hb
    have : g = b := by injection hb
    omega
theorem av_inj {h l : Int} {z : Option Addr} {v : Value} (e : av h l z = v) : v = .agg #[.int .u64 h, .int .u64 l, .pointer z] := e.symm
set_option maxRecDepth 100000 in
set_option maxHeartbeats 2000000 in
theorem pktinfo_walk (a : Option Addr) (len cap tail : Nat) (M : Nat → Msg) (z6 z4 : Option Addr) (w : World) (hM : MsgsAt w a len M) (ht : tail < 256) (h6 : w.cell? ⟨1, 0, none⟩ = some (.pointer z6)) (h4 : w.cell? ⟨2, 0, none⟩ = some (.pointer z4)) :
    Calls Ybad.prog 3 #[.slice a len cap, .int .u8 (tail : Int)] w fun e w' => e = .returned (.bool true) ∧ Below w.heap.size w w' := by
  by_cases hlen : len > 300
  · have h : (300 : Int) < (len : Int) := by omega
    clear h6 h4
    go_enter Ybad.func3, Ybad.ntmps3
    go_wp2_with fail
    go_ret
    exact ⟨rfl, Below.refl _ _⟩
  · have h : ¬ (300 : Int) < (len : Int) := by omega
    have HB := Hid.intro (build_any a len cap M z6 z4 w hM (by omega) h6 h4)
    have HOK : Hid (∀ m ∈ msL M len, m.ok) := Hid.intro (fun m hm => by
      obtain ⟨j, _, rfl⟩ := List.mem_map.1 hm
      exact hM.1 j)
    have HLE : Hid ((msL M len).length ≤ 300) := Hid.intro (by simp [msL]; omega)
    have H6 := Hid.intro h6
    have H4 := Hid.intro h4
    obtain ⟨k, hk⟩ : ∃ k, k = tail % 16 := ⟨_, rfl⟩
    have hki : (tail : Int) % 16 = (k : Int) := by omega
    have hk16 : k < 16 := by omega
    clear hM h6 h4 hk
    go_enter Ybad.func3, Ybad.ntmps3
    go_wp2_with (go_at_call 6; refine HB.out.mono ?_; rintro e w1 ⟨v, hh, ll, zz, rfl, hby, hav, hx1⟩; have HBY := Hid.intro hby; have HAV := Hid.intro hav; clear HB hby hav)
    have hel : Hid ((encs (msL M len)).length ≤ 50000) := Hid.intro (by have := encs_le (msL M len); have := HLE.out; omega)
    have HWC : Hid ((w1.alloc (.cells #[.int .u64 hh, .int .u64 ll, .pointer zz] 31)).heap[w1.heap.size]? = some (.cells #[.int .u64 hh, .int .u64 ll, .pointer zz] 31 (0, 0))) := Hid.intro (hp_alloc_new w1 _)
    go_loopg [5, 7] k (fun m v5 v7 wr => ∃ j : Nat, v7 = .int .i64 (j : Int) ∧ j + m = k ∧ Bytes wr w.heap.size v5 (encs (msL M len) ++ List.replicate j 255) ∧ wr.heap[w1.heap.size]? = some (.cells #[.int .u64 hh, .int .u64 ll, .pointer zz] 31 (0, 0)) ∧ Ext w wr)
    case atStart => exact ⟨0, rfl, by omega, by simpa using HBY.out.ext ((Ext.refl w1).alloc _), HWC.out, hx1.alloc _⟩
    case round =>
      clear HBY HWC
      obtain ⟨j, rfl, hjk, hby, hwc, hx⟩ := hrel
      have HJK := Hid.intro hjk
      have HBY := Hid.intro hby
      have HWC := Hid.intro hwc
      clear hjk
      by_cases hlt : j < k
      · have hlti : (j : Int) < (k : Int) := by omega
        have hz := hp_alloc_new wr (.cells #[.int .u8 255] 5)
        have hxa : Ext w (wr.alloc (.cells #[.int .u8 255] 5)) := hx.alloc _
        have hbya := hby.ext ((Ext.refl wr).alloc (.cells #[.int .u8 255] 5))
        obtain ⟨v5, w5, hrun, hown5, hg5⟩ := app_bytes (W := wr.alloc (.cells #[.int .u8 255] 5)) 23 u5 _ [255] ⟨wr.heap.size, 0, none⟩ 1 hbya (fun i hi => by
          rw [Addr.add_lit, Nat.zero_add, hp_cell hz]
          match i, hi with
          | 0, _ => rfl) (by have := hel.out; simp; omega) (by simp) hxa.le
        have hrun' : (Builtin.append_ #[23, 23] 23 #[u5, .slice (some ⟨wr.heap.size, 0, none⟩) 1 1]).run Ybad.prog (wr.alloc (.cells #[.int .u8 255] 5)) = .ok v5 w5 := hrun
        have HR := Hid.intro (And.intro hown5 (And.intro (hg5.keep (((Ext.refl wr).alloc _).some hwc) (bytes_ne hbya (((Ext.refl wr).alloc _).some hwc) (by decide))) (hg5.new (fun g hg => bytes_ge hbya hg) hxa).1))
        clear hby hwc hx hrun hown5 hg5 hz hxa hbya
        go_wp2_with (at_builtin; refine Lib.wpList_append_run _ rfl _ _ _ _ rfl _ _ rfl rfl _ _ hrun' ?_)
        go_roundg (k - (j + 1))
        case measure => have := HJK.out; omega
        case rel =>
          refine ⟨j + 1, ?_, by have := HJK.out; omega, ?_, HR.out.2.1, HR.out.2.2⟩
          · congr 1
          · have := HR.out.1
            rw [List.append_assoc] at this
            rwa [List.replicate_succ']
      · have hnlt : ¬ (j : Int) < (k : Int) := by omega
        have hjk2 : j = k := by have := HJK.out; omega
        have HD : Hid (∀ W, Ext wr W → Calls Ybad.prog 7 #[u5] W fun e w' => e = .returned (.agg #[.int .u64 hh, .int .u64 ll, .pointer zz]) ∧ Ext wr w') := Hid.intro (fun W hxq => by
          have := dest_bytes (hby.ext hxq) (by omega) HLE.out HOK.out (ext_cell (hx.trans hxq) H6.out) (ext_cell (hx.trans hxq) H4.out)
          have hv : wantV z6 z4 (msL M len) = .agg #[.int .u64 hh, .int .u64 ll, .pointer zz] := av_inj HAV.out
          rw [hv] at this
          refine this.mono ?_
          rintro e w' ⟨rfl, h⟩
          exact ⟨rfl, hxq.trans h⟩)
        have HX := Hid.intro hx
        have heq := addr_eql hh ll zz
        have hc0 : wr.cell? ⟨w1.heap.size, 0, none⟩ = some (.int .u64 hh) := (hp_cell hwc 0)
        have hc1 : wr.cell? ⟨w1.heap.size, 1, none⟩ = some (.int .u64 ll) := (hp_cell hwc 1)
        have hc2 : wr.cell? ⟨w1.heap.size, 2, none⟩ = some (.pointer zz) := (hp_cell hwc 2)
        clear hby hwc hx hjk2
        go_upto_region 8 with fail
        go_region_law (go_simp; go_at_call 7; refine (HD.out _ (by repeat (first | exact Ext.refl _ | refine Ext.drew ?_ | refine Ext.drewN ?_ _))).mono ?_; rintro e w2 ⟨rfl, hx2⟩; have hwc2 := hx2.some HWC.out; have hd0 : w2.cell? ⟨w1.heap.size, 0, none⟩ = some (.int .u64 hh) := (hp_cell hwc2 0); have hd1 : w2.cell? ⟨w1.heap.size, 1, none⟩ = some (.int .u64 ll) := (hp_cell hwc2 1); have hd2 : w2.cell? ⟨w1.heap.size, 2, none⟩ = some (.pointer zz) := (hp_cell hwc2 2))
        all_goals
          have HE := Hid.intro (HX.out.trans hx2)
          clear hx2
          go_wp2_with fail
          go_ret
          exact ⟨rfl, (Ext.drewN HE.out 0).below (Nat.le_refl _)⟩
end Go.Proofs.YbulkckzsDoor
