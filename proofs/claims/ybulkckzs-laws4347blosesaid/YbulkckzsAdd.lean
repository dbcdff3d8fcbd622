import Derived.Test.YbulkckzsTime
import Derived.Deep.Light
set_option linter.unusedVariables false
set_option linter.unusedSimpArgs false
namespace Go.Proofs.Ybulkckzs
open Go.RowKit

theorem nsec_zero (b : Nat) (w : World) (h : w.cell? ⟨b, 0, none⟩ = some (.int .u64 0)) :
    Calls Yba.prog 7 #[.pointer (some ⟨b, 0, none⟩)] w fun e w' => e = .returned (.int .i32 0) ∧ w' = w := nsec_any b 0 (by omega) w h
theorem add_cells (w : World) : ((w.alloc (.cells #[.int .u64 0, .int .i64 0, .pointer none] 46)).alloc (.cells #[.int .u64 0, .int .i64 0, .pointer none] 46)).heap[w.heap.size]? = some (.cells #[.int .u64 0, .int .i64 0, .pointer none] 46 (0, 0)) := ((Ext.refl _).alloc _).some (hp_alloc_new w _)
def addV (w : World) (n : Nat) : World := (w.alloc (.cells #[.int .u64 (n : Int), .int .i64 0, .pointer none] 46)).alloc (.cells #[.int .u64 0, .int .i64 0, .pointer none] 46)
theorem addV_cell (w : World) (n : Nat) : (addV w n).heap[w.heap.size]? = some (.cells #[.int .u64 (n : Int), .int .i64 0, .pointer none] 46 (0, 0)) := ((Ext.refl _).alloc _).some (hp_alloc_new w _)
theorem add_sec (w : World) (n : Nat) (x : Int) (hn : n < 1000000000) (hx : -10000000000 ≤ x ∧ x ≤ 10000000000) : Calls Yba.prog 8 #[.pointer (some ⟨w.heap.size, 0, none⟩), .int .i64 x] ((w.alloc (.cells #[.int .u64 (n : Int), .int .i64 0, .pointer none] 46)).alloc (.cells #[.int .u64 0, .int .i64 0, .pointer none] 46))
    fun e w' => e = .returned (.tuple #[]) ∧ w' = (addV w n).setCell ⟨w.heap.size, 1, none⟩ (.int .i64 x) := by
  have h := addV_cell w n
  exact addSec_any w.heap.size n x hn hx (addV w n) (by rw [hp_cell h]; rfl) (by rw [hp_cell h]; rfl) (hp_frozen h _)
theorem addW_cells (w : World) (n : Nat) (x : Int) : ((addV w n).setCell ⟨w.heap.size, 1, none⟩ (.int .i64 x)).heap[w.heap.size]? = some (.cells #[.int .u64 (n : Int), .int .i64 x, .pointer none] 46 (0, 0)) ∧ ((addV w n).setCell ⟨w.heap.size, 1, none⟩ (.int .i64 x)).heap[w.heap.size + 1]? = some (.cells #[.int .u64 0, .int .i64 0, .pointer none] 46 (0, 0)) ∧ Ext w ((addV w n).setCell ⟨w.heap.size, 1, none⟩ (.int .i64 x)) := by
  have h1 := hp_set_same _ _ 1 (.int .i64 x) _ _ _ (addV_cell w n)
  have e := hp_alloc_new (w.alloc (.cells #[.int .u64 (n : Int), .int .i64 0, .pointer none] 46)) (.cells #[.int .u64 0, .int .i64 0, .pointer none] 46)
  rw [hp_alloc_size] at e
  refine ⟨h1, ?_, ((((Ext.refl w).alloc _).alloc _)).set _ _ (Nat.le_refl _)⟩
  rw [hp_set_ne _ _ _ _ (by simp)]
  exact e
/-- What stands behind addSec. -/
structure AddBox (w : World) (n : Nat) (x : Int) (W : World) : Prop where
  a : W.heap[w.heap.size]? = some (.cells #[.int .u64 (n : Int), .int .i64 x, .pointer none] 46 (0, 0))
  b : W.heap[w.heap.size + 1]? = some (.cells #[.int .u64 0, .int .i64 0, .pointer none] 46 (0, 0))
  ext : Ext w W
theorem add_box {w w' : World} {n : Nat} {x : Int} (h : w' = (addV w n).setCell ⟨w.heap.size, 1, none⟩ (.int .i64 x)) : AddBox w n x w' := by
  subst h
  exact ⟨(addW_cells w n x).1, (addW_cells w n x).2.1, (addW_cells w n x).2.2⟩
/-- The time is written into the result's cell. -/
theorem add_put {w W : World} {n : Nat} {x : Int} (h : AddBox w n x W) :
    (((W.setCell ⟨w.heap.size + 1, 0, none⟩ (.int .u64 (n : Int))).setCell ⟨w.heap.size + 1, 1, none⟩ (.int .i64 x)).setCell ⟨w.heap.size + 1, 2, none⟩ (.pointer none)).heap[w.heap.size + 1]? = some (.cells #[.int .u64 (n : Int), .int .i64 x, .pointer none] 46 (0, 0)) ∧
    Ext w (((W.setCell ⟨w.heap.size + 1, 0, none⟩ (.int .u64 (n : Int))).setCell ⟨w.heap.size + 1, 1, none⟩ (.int .i64 x)).setCell ⟨w.heap.size + 1, 2, none⟩ (.pointer none)) := by
  refine ⟨?_, ((h.ext.set _ _ (by simp)).set _ _ (by simp)).set _ _ (by simp)⟩
  rw [hp_set_same _ _ _ _ _ _ _ (hp_set_same _ _ _ _ _ _ _ (hp_set_same _ _ _ _ _ _ _ h.b))]
  rfl
set_option maxHeartbeats 1000000 in
set_option maxRecDepth 100000 in
theorem add_any (d : Int) (hd : -9223372036854775808 ≤ d ∧ d ≤ 9223372036854775807) (w : World) :
    Calls Yba.prog 4 #[tv 0 0, .int .i64 d] w fun e w' => e = .returned (tv (addN d) (addX d)) ∧ Ext w w' := by
  have hd1 := hd.1
  have hd2 := hd.2
  obtain ⟨td, htd⟩ : ∃ td, Int.tdiv d 1000000000 = td := ⟨_, rfl⟩
  obtain ⟨tm, htm⟩ : ∃ tm, Int.tmod d 1000000000 = tm := ⟨_, rfl⟩
  have hsum : td * 1000000000 + tm = d := by rw [← htd, ← htm, Int.mul_comm]; exact Int.mul_tdiv_add_tmod d 1000000000
  have hlo : -1000000000 < tm ∧ tm < 1000000000 := by rw [← htm]; exact ⟨Int.lt_tmod_of_pos d (by decide), Int.tmod_lt_of_pos d (by decide)⟩
  have hl1 := hlo.1
  have hl2 := hlo.2
  have N0 := Hid.intro (nsec_zero w.heap.size _ (by rw [hp_cell (add_cells w)]; rfl))
  unfold tv
  by_cases hneg : tm < 0
  · obtain ⟨n, hnn⟩ : ∃ n : Nat, tm + 1000000000 = (n : Int) := ⟨(tm + 1000000000).toNat, by omega⟩
    obtain ⟨te, hte⟩ : ∃ te, td - 1 = te := ⟨_, rfl⟩
    have hn : n < 1000000000 := by omega
    have A0 := Hid.intro (add_sec w n te hn (by omega))
    have hor := or_bits n (by omega)
    have han := andnot_bits
    have htop := top_bits n (by omega)
    have HN : Hid (addN d = n ∧ addX d = te) := Hid.intro (by unfold addN addX; omega)
    have ht1 : -9223372037 ≤ td := by omega
    have ht2 : td ≤ 9223372037 := by omega
    have hl3 : (n : Int) < 1000000000 := by omega
    have hge2 : ¬ (1000000000 : Int) ≤ tm := by omega
    have HNEG := Hid.intro hneg
    clear hlo hd hsum hn
    go_enter Yba.func4, Yba.ntmps4
    go_upto_region 3 with (go_at_call 7; refine N0.out.mono ?_; rintro e w' ⟨rfl, rfl⟩; clear N0)
    have HL := Hid.intro (And.intro hl3 (And.intro ht1 (And.intro ht2 (And.intro hl1 hl2))))
    clear hd1 hd2 hl1 hl2 ht1 ht2 hl3 hneg
    go_upto_region 6 with fail
    clear hge2
    have hneg := HNEG.out
    go_upto_region 7 with fail
    have hl3 := HL.out.1
    have ht1 := HL.out.2.1
    have ht2 := HL.out.2.2.1
    have hl1 := HL.out.2.2.2.1
    go_wp2_with (go_at_call 8; refine A0.out.mono ?_; rintro e w' ⟨rfl, hw⟩; have HB := Hid.intro (add_box hw); have a0 := hp_cell HB.out.a 0; have a1 := hp_cell HB.out.a 1; have a2 := hp_cell HB.out.a 2; have b0 : w'.cell? ⟨w.heap.size + 1, 0, none⟩ = some (.int .u64 0) := (by rw [hp_cell HB.out.b]; rfl); have b1 : w'.cell? ⟨w.heap.size + 1, 1, none⟩ = some (.int .i64 0) := (by rw [hp_cell HB.out.b]; rfl); have b2 : w'.cell? ⟨w.heap.size + 1, 2, none⟩ = some (.pointer none) := (by rw [hp_cell HB.out.b]; rfl); have bf := (fun o => hp_frozen HB.out.b o); clear A0 hw)
    obtain ⟨hput, hx⟩ := add_put HB.out
    have r0 := hp_cell hput 0
    have r1 := hp_cell hput 1
    have r2 := hp_cell hput 2
    rw [HN.out.1, HN.out.2]
    refine bodyPost_ret (v := .agg #[.int .u64 (n : Int), .int .i64 te, .pointer none]) (by simp [results, Yba.results4, go_sem, r0, r1, r2]; try rfl) rfl ?_
    exact ⟨rfl, hx⟩
  · obtain ⟨n, rfl⟩ : ∃ n : Nat, tm = (n : Int) := ⟨tm.toNat, by omega⟩
    have hn : n < 1000000000 := by omega
    have A0 := Hid.intro (add_sec w n td hn (by omega))
    have hor := or_bits n (by omega)
    have han := andnot_bits
    have htop := top_bits n (by omega)
    have HN : Hid (addN d = n ∧ addX d = td) := Hid.intro (by unfold addN addX; omega)
    have ht1 : -9223372037 ≤ td := by omega
    have ht2 : td ≤ 9223372037 := by omega
    have hge : ((n : Int) ≥ 1000000000) = False := by simp; omega
    have hge2 : ¬ (1000000000 : Int) ≤ (n : Int) := by omega
    have hn0 : ¬ (n : Int) < 0 := by omega
    clear hlo hd hsum hn hneg
    go_enter Yba.func4, Yba.ntmps4
    go_upto_region 6 with (go_at_call 7; refine N0.out.mono ?_; rintro e w' ⟨rfl, rfl⟩; clear N0)
    have HL := Hid.intro (And.intro hl2 (And.intro ht1 ht2))
    clear hge hge2 hd1 hd2 hl1 hl2 ht1 ht2
    go_upto_region 9 with fail
    have hl2 := HL.out.1
    go_wp2_with (go_at_call 8; refine A0.out.mono ?_; rintro e w' ⟨rfl, hw⟩; have HB := Hid.intro (add_box hw); have a0 := hp_cell HB.out.a 0; have a1 := hp_cell HB.out.a 1; have a2 := hp_cell HB.out.a 2; have b0 : w'.cell? ⟨w.heap.size + 1, 0, none⟩ = some (.int .u64 0) := (by rw [hp_cell HB.out.b]; rfl); have b1 : w'.cell? ⟨w.heap.size + 1, 1, none⟩ = some (.int .i64 0) := (by rw [hp_cell HB.out.b]; rfl); have b2 : w'.cell? ⟨w.heap.size + 1, 2, none⟩ = some (.pointer none) := (by rw [hp_cell HB.out.b]; rfl); have bf := (fun o => hp_frozen HB.out.b o); clear A0 hw)
    obtain ⟨hput, hx⟩ := add_put HB.out
    have r0 := hp_cell hput 0
    have r1 := hp_cell hput 1
    have r2 := hp_cell hput 2
    rw [HN.out.1, HN.out.2]
    refine bodyPost_ret (v := .agg #[.int .u64 (n : Int), .int .i64 td, .pointer none]) (by simp [results, Yba.results4, go_sem, r0, r1, r2]; try rfl) rfl ?_
    exact ⟨rfl, hx⟩
end Go.Proofs.Ybulkckzs
