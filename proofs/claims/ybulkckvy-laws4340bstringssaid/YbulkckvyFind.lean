import Derived.Test.YbulkckvyDelTree
set_option linter.unusedVariables false
set_option linter.unusedSimpArgs false
namespace Go.Proofs.Ybulkckvy
open Go.RowKit
attribute [local go_sem ↓] Go.wp_at_zero Go.wp_at_succ

set_option maxRecDepth 100000 in
theorem seek1 (kb : Nat) (s key : ByteArray) (w : World) (h : w.cell? ⟨kb, 0, none⟩ = some (.string key)) :
    Calls Yba.prog 51 #[.string s, .pointer (some ⟨kb, 0, none⟩)] w fun e w' => e = .returned (.bool (!klt s key)) ∧ Ext w w' := by
  go_enter Yba.func51, Yba.ntmps51
  go_wp2_with fail
  go_ret

  exact ⟨rfl, Ext.refl _⟩
end Go.Proofs.Ybulkckvy
namespace Go.Proofs.Ybulkckvy
open Go.RowKit
attribute [local go_sem ↓] Go.wp_at_zero Go.wp_at_succ
theorem enter51 (args : Array Value) (w : World) : (callFunc 51 args).run Yba.prog w = .ok (.enter 51 args) w :=
  enter_fn Yba.func51 (by kernel_rfl) (c := _) (by rfl) args w
theorem enter71 (args : Array Value) (w : World) : (callFunc 71 args).run Yba.prog w = .ok (.enter 71 args) w :=
  enter_fn Yba.func71 (by kernel_rfl) (c := _) (by rfl) args w
theorem enter72 (args : Array Value) (w : World) : (callFunc 72 args).run Yba.prog w = .ok (.enter 72 args) w :=
  enter_fn Yba.func72 (by kernel_rfl) (c := _) (by rfl) args w
set_option maxRecDepth 100000 in
theorem find1 (i ob nb kb r gs n cap : Nat) (key s : ByteArray) (w : World) (hi : i < n) (h0 : w.cell? ⟨ob, 0, none⟩ = some (.func (.func 51) #[] #[.pointer (some ⟨kb, 0, none⟩)])) (h1 : w.cell? ⟨kb, 0, none⟩ = some (.string key)) (h2 : w.cell? ⟨nb, 0, none⟩ = some (.pointer (some ⟨r, 0, none⟩)))
    (h3 : w.cell? ⟨r, 4, none⟩ = some (.slice (some ⟨gs, 0, none⟩) n cap)) (h4 : w.cell? ⟨gs, i, none⟩ = some (.string s)) :
    Calls Yba.prog 71 #[.int .i64 (i : Int), .pointer (some ⟨ob, 0, none⟩), .pointer (some ⟨nb, 0, none⟩)] w fun e w' => e = .returned (.bool (!klt s key)) ∧ Ext w w' := by
  have hi' : (i : Int) < (n : Int) := by omega
  have hi0 : (0 : Int) ≤ (i : Int) := by omega
  have hcf := enter51
  have HS := Hid.intro (fun W => seek1 kb s key W)
  go_enter Yba.func71, Yba.ntmps71
  go_upto_region 1 with fail
  go_region_law (go_simp; refine (HS.out w.drew h1).mono ?_; rintro e w2 ⟨rfl, hx2⟩)
  all_goals
    go_wp2_with fail
    go_ret
    exact ⟨rfl, ((Ext.refl _).drew).trans hx2⟩
end Go.Proofs.Ybulkckvy
