import Derived.Test.YbulkckzsDoorRow
set_option linter.unusedVariables false
set_option linter.unusedSimpArgs false
namespace Go.Proofs.YbulkckzsDoor
open Go.RowKit
attribute [local go_sem ↓] Go.wp_at_zero Go.wp_at_succ

def be64 (x0 x1 x2 x3 x4 x5 x6 x7 : Nat) : Int :=
  bits .or .u64 (bits .or .u64 (bits .or .u64 (bits .or .u64 (bits .or .u64 (bits .or .u64 (bits .or .u64 (x7 : Int) ((x6 : Int) * 256)) ((x5 : Int) * 65536)) ((x4 : Int) * 16777216)) ((x3 : Int) * 4294967296)) ((x2 : Int) * 1099511627776)) ((x1 : Int) * 281474976710656)) ((x0 : Int) * 72057594037927936)
set_option maxRecDepth 100000 in
set_option maxHeartbeats 2000000 in
theorem be_any (b o c : Nat) (x0 x1 x2 x3 x4 x5 x6 x7 : Nat) (w : World) (hx : x0 < 256 ∧ x1 < 256 ∧ x2 < 256 ∧ x3 < 256 ∧ x4 < 256 ∧ x5 < 256 ∧ x6 < 256 ∧ x7 < 256)
    (h0 : w.cell? ⟨b, o, none⟩ = some (.int .u8 (x0 : Int))) (h1 : w.cell? ⟨b, o + 1, none⟩ = some (.int .u8 (x1 : Int))) (h2 : w.cell? ⟨b, o + 2, none⟩ = some (.int .u8 (x2 : Int))) (h3 : w.cell? ⟨b, o + 3, none⟩ = some (.int .u8 (x3 : Int)))
    (h4 : w.cell? ⟨b, o + 4, none⟩ = some (.int .u8 (x4 : Int))) (h5 : w.cell? ⟨b, o + 5, none⟩ = some (.int .u8 (x5 : Int))) (h6 : w.cell? ⟨b, o + 6, none⟩ = some (.int .u8 (x6 : Int))) (h7 : w.cell? ⟨b, o + 7, none⟩ = some (.int .u8 (x7 : Int))) :
    Calls Ybad.prog 14 #[.slice (some ⟨b, o, none⟩) 8 c] w fun e w' => e = .returned (.int .u64 (be64 x0 x1 x2 x3 x4 x5 x6 x7)) ∧ ∃ q, w' = w.drewN q := by
  obtain ⟨y0, y1, y2, y3, y4, y5, y6, y7⟩ := hx
  go_enter Ybad.func14, Ybad.ntmps14
  go_wp2_with fail
  go_quiet (fail)
  go_wp2_with fail
  go_ret
  exact ⟨rfl, nq, rfl⟩
/-- Sixteen bytes as cells. -/
def a16 (x : Nat → Nat) : Array Value := #[bv (x 0), bv (x 1), bv (x 2), bv (x 3), bv (x 4), bv (x 5), bv (x 6), bv (x 7), bv (x 8), bv (x 9), bv (x 10), bv (x 11), bv (x 12), bv (x 13), bv (x 14), bv (x 15)]
theorem be_lo {W : World} {b t c : Nat} {x : Nat → Nat} (hb : W.heap[b]? = some (.cells (a16 x) t (0, 0))) (hx : ∀ j, x j < 256) :
    Calls Ybad.prog 14 #[.slice (some ⟨b, 0, none⟩) 8 c] W fun e w' => e = .returned (.int .u64 (be64 (x 0) (x 1) (x 2) (x 3) (x 4) (x 5) (x 6) (x 7))) ∧ ∃ q, w' = W.drewN q :=
  be_any b 0 c _ _ _ _ _ _ _ _ W ⟨hx 0, hx 1, hx 2, hx 3, hx 4, hx 5, hx 6, hx 7⟩ (by rw [hp_cell hb]; rfl) (by rw [hp_cell hb]; rfl) (by rw [hp_cell hb]; rfl) (by rw [hp_cell hb]; rfl) (by rw [hp_cell hb]; rfl) (by rw [hp_cell hb]; rfl) (by rw [hp_cell hb]; rfl) (by rw [hp_cell hb]; rfl)
theorem be_hi {W : World} {b t c : Nat} {x : Nat → Nat} (hb : W.heap[b]? = some (.cells (a16 x) t (0, 0))) (hx : ∀ j, x j < 256) :
    Calls Ybad.prog 14 #[.slice (some ⟨b, 8, none⟩) 8 c] W fun e w' => e = .returned (.int .u64 (be64 (x 8) (x 9) (x 10) (x 11) (x 12) (x 13) (x 14) (x 15))) ∧ ∃ q, w' = W.drewN q :=
  be_any b 8 c _ _ _ _ _ _ _ _ W ⟨hx 8, hx 9, hx 10, hx 11, hx 12, hx 13, hx 14, hx 15⟩ (by rw [hp_cell hb]; rfl) (by rw [hp_cell hb]; rfl) (by rw [hp_cell hb]; rfl) (by rw [hp_cell hb]; rfl) (by rw [hp_cell hb]; rfl) (by rw [hp_cell hb]; rfl) (by rw [hp_cell hb]; rfl) (by rw [hp_cell hb]; rfl)
/-- A netip.Addr. -/
def av (h l : Int) (z : Option Addr) : Value := .agg #[.int .u64 h, .int .u64 l, .pointer z]
theorem addr_put {W : World} {b : Nat} {c : Array Value} (h l : Int) (z : Option Addr) (hc : W.heap[b]? = some (.cells c 31 (0, 0))) (hs : c.size = 3) :
    (((W.setCell ⟨b, 0, none⟩ (.int .u64 h)).setCell ⟨b, 1, none⟩ (.int .u64 l)).setCell ⟨b, 2, none⟩ (.pointer z)).heap[b]? = some (.cells #[.int .u64 h, .int .u64 l, .pointer z] 31 (0, 0)) ∧
    Fr [b] W (((W.setCell ⟨b, 0, none⟩ (.int .u64 h)).setCell ⟨b, 1, none⟩ (.int .u64 l)).setCell ⟨b, 2, none⟩ (.pointer z)) := by
  refine ⟨?_, (((Fr.refl _ W).set _ _ (.inl (by simp))).set _ _ (.inl (by simp))).set _ _ (.inl (by simp))⟩
  rw [hp_set_same _ _ _ _ _ _ _ (hp_set_same _ _ _ _ _ _ _ (hp_set_same _ _ _ _ _ _ _ hc))]
  obtain ⟨l⟩ := c
  match l, hs with
  | [x, y, z], _ => rfl
set_option maxRecDepth 100000 in
set_option maxHeartbeats 2000000 in
theorem from16 (x : Nat → Nat) (z : Option Addr) (w : World) (hx : ∀ j, x j < 256) (hz : w.cell? ⟨1, 0, none⟩ = some (.pointer z)) :
    Calls Ybad.prog 11 #[.agg (a16 x)] w fun e w' => e = .returned (av (be64 (x 0) (x 1) (x 2) (x 3) (x 4) (x 5) (x 6) (x 7)) (be64 (x 8) (x 9) (x 10) (x 11) (x 12) (x 13) (x 14) (x 15)) z) ∧ Ext w w' := by
  unfold av
  go_enter Ybad.func11, Ybad.ntmps11
  go_upto_region 1 with fail
  have xW : Ext w ((w.alloc (.cells (a16 x) 43)).alloc (.cells #[.int .u64 0, .int .u64 0, .pointer none] 31)) := ((Ext.refl w).alloc _).alloc _
  have hb : ((w.alloc (.cells (a16 x) 43)).alloc (.cells #[.int .u64 0, .int .u64 0, .pointer none] 31)).heap[w.heap.size]? = some (.cells (a16 x) 43 (0, 0)) := ((Ext.refl _).alloc _).some (hp_alloc_new w _)
  have hr := hp_alloc_new (w.alloc (.cells (a16 x) 43)) (.cells #[.int .u64 0, .int .u64 0, .pointer none] 31)
  rw [hp_alloc_size] at hr
  obtain ⟨W, hW⟩ : ∃ W, (w.alloc (.cells (a16 x) 43)).alloc (.cells #[.int .u64 0, .int .u64 0, .pointer none] 31) = W := ⟨_, rfl⟩
  rw [hW] at xW hb hr ⊢
  clear hW
  have hz' := ext_cell xW hz
  have r0 : W.cell? ⟨w.heap.size + 1, 0, none⟩ = some (.int .u64 0) := by rw [hp_cell hr]; rfl
  have r1 : W.cell? ⟨w.heap.size + 1, 1, none⟩ = some (.int .u64 0) := by rw [hp_cell hr]; rfl
  have r2 : W.cell? ⟨w.heap.size + 1, 2, none⟩ = some (.pointer none) := by rw [hp_cell hr]; rfl
  have rf := fun o => hp_frozen hr o
  have HB := Hid.intro hb
  have HR := Hid.intro hr
  have HX := Hid.intro xW
  have hbs : ∃ (t : TypeId), W.shape? w.heap.size = some (43, 16) := ⟨43, by simp [World.shape?, hb, a16]⟩
  clear hb hr xW hz
  generalize hhi : be64 (x 0) (x 1) (x 2) (x 3) (x 4) (x 5) (x 6) (x 7) = hi
  generalize hlo : be64 (x 8) (x 9) (x 10) (x 11) (x 12) (x 13) (x 14) (x 15) = lo
  have B1 := Hid.intro (fun (V : World) (c : Nat) (h : V.heap[w.heap.size]? = some (.cells (a16 x) 43 (0, 0))) => be_lo (c := c) h hx)
  have B2 := Hid.intro (fun (V : World) (c : Nat) (h : V.heap[w.heap.size]? = some (.cells (a16 x) 43 (0, 0))) => be_hi (c := c) h hx)
  rw [hhi] at B1
  rw [hlo] at B2
  have HHI := Hid.intro hhi
  have HLO := Hid.intro hlo
  clear hhi hlo hbs
  go_region_law (first | (go_simp; go_at_call 14; refine (B1.out W.drew 16 HB.out).mono ?_; rintro e w2 ⟨rfl, q, rfl⟩; clear B1) | (go_simp; go_at_call 14; refine (B2.out (W.drewN (1 + q)) 8 HB.out).mono ?_; rintro e w3 ⟨rfl, q2, rfl⟩; clear B2))
  all_goals
    go_wp2_with fail
    (try simp only [Exit.inBlock, Exit.then])
    obtain ⟨hput, hfr⟩ := addr_put (W := W.drewN (1 + q + q2)) hi lo z HR.out rfl
    have p0 := hp_cell hput 0
    have p1 := hp_cell hput 1
    have p2 := hp_cell hput 2
    have hxx := (((HX.out.drewN (1 + q + q2)).set ⟨w.heap.size + 1, 0, none⟩ (.int .u64 hi) (by simp)).set ⟨w.heap.size + 1, 1, none⟩ (.int .u64 lo) (by simp)).set ⟨w.heap.size + 1, 2, none⟩ (.pointer z) (by simp)
    refine bodyPost_ret (v := .agg #[.int .u64 hi, .int .u64 lo, .pointer z]) (by simp [results, Ybad.results11, go_sem, p0, p1, p2]; try rfl) rfl ?_
    rw [HHI.out, HLO.out]
    exact ⟨rfl, hxx⟩
end Go.Proofs.YbulkckzsDoor
