import Derived.Test.YbulkckvyDelTree
set_option linter.unusedVariables false
set_option linter.unusedSimpArgs false
namespace Go.Proofs.Ybulkckvy
open Go.RowKit
attribute [local go_sem ↓] Go.wp_at_zero Go.wp_at_succ

theorem ext_cell2 {a b : World} (hx : Ext a b) {p : Addr} {v : Value} (h : a.cell? p = some v) : b.cell? p = some v := by
  rw [hp_cell_eq (w := a) (hx.block (hp_cell_lt h))]; exact h
set_option maxRecDepth 100000 in
theorem at_in (xb b i n cap : Nat) (a : Option Addr) (w : World) (h0 : w.cell? ⟨b, 0, none⟩ = some (.slice a n cap)) (hi : i < n) :
    Calls Yba.prog 65 #[.pointer (some ⟨xb, 0, none⟩), .pointer (some ⟨b, 0, none⟩), .int .i64 (i : Int)] w fun e w' => e = .returned (.agg #[.pointer (some ⟨xb, 0, none⟩), .pointer (some ⟨b, 0, none⟩), .int .i64 (i : Int)]) ∧ Ext w w' := by
  have h0' := fun o => ext_cell2 ((Ext.refl w).alloc o) h0
  have hne : ((i : Int) == (n : Int)) = false := by simp; omega
  go_enter Yba.func65, Yba.ntmps65
  go_wp2_with fail
  (try simp only [Exit.inBlock, Exit.then])
  refine bodyPost_ret (v := .agg #[.pointer (some ⟨xb, 0, none⟩), .pointer (some ⟨b, 0, none⟩), .int .i64 (i : Int)]) (by simp [results, Yba.results65, go_sem]; try rfl) rfl ?_
  exact ⟨rfl, (Ext.refl w).alloc _⟩
set_option maxRecDepth 100000 in
theorem at_end (xb b n cap : Nat) (a : Option Addr) (w : World) (h0 : w.cell? ⟨b, 0, none⟩ = some (.slice a n cap)) (h2 : w.cell? ⟨b, 2, none⟩ = some (.pointer none)) :
    Calls Yba.prog 65 #[.pointer (some ⟨xb, 0, none⟩), .pointer (some ⟨b, 0, none⟩), .int .i64 (n : Int)] w fun e w' => e = .returned (.agg #[.pointer (some ⟨xb, 0, none⟩), .pointer (some ⟨b, 0, none⟩), .int .i64 (n : Int)]) ∧ Ext w w' := by
  have h0' := fun o => ext_cell2 ((Ext.refl w).alloc o) h0
  have h2' := fun o => ext_cell2 ((Ext.refl w).alloc o) h2
  go_enter Yba.func65, Yba.ntmps65
  go_wp2_with fail
  (try simp only [Exit.inBlock, Exit.then])
  refine bodyPost_ret (v := .agg #[.pointer (some ⟨xb, 0, none⟩), .pointer (some ⟨b, 0, none⟩), .int .i64 (n : Int)]) (by simp [results, Yba.results65, go_sem]; try rfl) rfl ?_
  exact ⟨rfl, (Ext.refl w).alloc _⟩
set_option maxRecDepth 100000 in
theorem at_next (xb b n cap nb : Nat) (a : Option Addr) (w : World) (h0 : w.cell? ⟨b, 0, none⟩ = some (.slice a n cap)) (h2 : w.cell? ⟨b, 2, none⟩ = some (.pointer (some ⟨nb, 0, none⟩))) :
    Calls Yba.prog 65 #[.pointer (some ⟨xb, 0, none⟩), .pointer (some ⟨b, 0, none⟩), .int .i64 (n : Int)] w fun e w' => e = .returned (.agg #[.pointer (some ⟨xb, 0, none⟩), .pointer (some ⟨nb, 0, none⟩), .int .i64 0]) ∧ Ext w w' := by
  have h0' := fun o => ext_cell2 ((Ext.refl w).alloc o) h0
  have h2' := fun o => ext_cell2 ((Ext.refl w).alloc o) h2
  go_enter Yba.func65, Yba.ntmps65
  go_wp2_with fail
  (try simp only [Exit.inBlock, Exit.then])
  refine bodyPost_ret (v := .agg #[.pointer (some ⟨xb, 0, none⟩), .pointer (some ⟨nb, 0, none⟩), .int .i64 0]) (by simp [results, Yba.results65, go_sem]; try rfl) rfl ?_
  exact ⟨rfl, (Ext.refl w).alloc _⟩
set_option maxRecDepth 100000 in
theorem atEnd_any (xb b i n cap : Nat) (a : Option Addr) (w : World) (h0 : w.cell? ⟨b, 0, none⟩ = some (.slice a n cap)) :
    Calls Yba.prog 17 #[.agg #[.pointer (some ⟨xb, 0, none⟩), .pointer (some ⟨b, 0, none⟩), .int .i64 (i : Int)]] w fun e w' => e = .returned (.bool ((i : Int) == (n : Int))) ∧ Ext w w' := by
  have h0' := fun o => ext_cell2 ((Ext.refl w).alloc o) h0
  go_enter Yba.func17, Yba.ntmps17
  go_wp2_with fail
  go_quiet (fail)
  go_wp2_with fail
  go_ret
  exact ⟨rfl, ((Ext.refl w).alloc _).drewN _⟩
set_option maxRecDepth 100000 in
theorem entry_any (xb b i g n cap : Nat) (w : World) (h0 : w.cell? ⟨b, 0, none⟩ = some (.slice (some ⟨g, 0, none⟩) n cap)) (hi : i < n) :
    Calls Yba.prog 33 #[.agg #[.pointer (some ⟨xb, 0, none⟩), .pointer (some ⟨b, 0, none⟩), .int .i64 (i : Int)]] w fun e w' => e = .returned (.pointer (some ⟨g, i * 3, none⟩)) ∧ Ext w w' := by
  have h0' := fun o => ext_cell2 ((Ext.refl w).alloc o) h0
  have hi1 : (i : Int) < (n : Int) := by omega
  have hi0 : (0 : Int) ≤ (i : Int) := by omega
  go_enter Yba.func33, Yba.ntmps33
  go_wp2_with fail
  go_quiet (fail)
  go_wp2_with fail
  go_ret
  exact ⟨rfl, ((Ext.refl w).alloc _).drewN _⟩
set_option maxRecDepth 100000 in
theorem key_any (xb b i g n cap : Nat) (s : ByteArray) (w : World) (h0 : w.cell? ⟨b, 0, none⟩ = some (.slice (some ⟨g, 0, none⟩) n cap)) (hi : i < n) (hs : w.cell? ⟨g, i * 3, none⟩ = some (.string s)) :
    Calls Yba.prog 18 #[.agg #[.pointer (some ⟨xb, 0, none⟩), .pointer (some ⟨b, 0, none⟩), .int .i64 (i : Int)]] w fun e w' => e = .returned (.string s) ∧ Ext w w' := by
  have HE := Hid.intro (fun W (hx : Ext w W) => entry_any xb b i g n cap W (ext_cell2 hx h0) hi)
  have xA : ∀ o, Ext w (w.alloc o) := fun o => (Ext.refl w).alloc o
  go_enter Yba.func18, Yba.ntmps18
  go_wp2_with (go_at_call 33; refine (HE.out _ (xA _)).mono ?_; rintro e w2 ⟨rfl, hx2⟩; have t1 := ext_cell2 ((xA _).trans hx2) hs)
  go_ret
  exact ⟨rfl, (xA _).trans hx2⟩
end Go.Proofs.Ybulkckvy
