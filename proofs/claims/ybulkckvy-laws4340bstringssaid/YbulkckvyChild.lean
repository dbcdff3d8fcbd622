import Derived.Test.YbulkckvyBsf
set_option linter.unusedVariables false
namespace Go.Proofs.Ybulkckvy
open Go.RowKit

/-- A row of strings. -/
def Strs (w : World) (base : Nat) (v : Value) (ss : List ByteArray) : Prop := w.ownsRow base 9 1 v ss.length (ss.map Value.string)
theorem Strs.form {w : World} {base : Nat} {v : Value} {ks : List ByteArray} (h : Strs w base v ks) :
    (v = .slice none 0 0 ∧ ks = []) ∨ ∃ g cap cur, v = .slice (some ⟨g, 0, none⟩) ks.length cap ∧ base ≤ g ∧ w.heap[g]? = some (.cells cur 9 (0, 0)) ∧ ks.length ≤ cap ∧ cap ≤ maxLen ∧ cur.size = cap ∧ cur.toList.take ks.length = ks.map Value.string := by
  obtain ⟨_, h2⟩ := h
  rcases h2 with ⟨h2, h3⟩ | h2
  · exact .inl ⟨h2, List.eq_nil_of_length_eq_zero h3⟩
  · simpa using Or.inr h2
theorem Strs.cell {w : World} {base : Nat} {v : Value} {ks : List ByteArray} (h : Strs w base v ks) {g cap : Nat} (hv : v = .slice (some ⟨g, 0, none⟩) ks.length cap) {j : Nat} (hj : j < ks.length) :
    w.cell? ⟨g, j, none⟩ = some (.string ks[j]) := by
  rcases h.form with ⟨h1, h2⟩ | ⟨g', cap', cur, h1, _, h3, _, _, h6, h7⟩
  · rw [hv] at h1; cases h1
  · rw [hv] at h1
    injection h1 with e1 e2 e3
    injection e1 with e1
    injection e1 with e1
    subst e1; subst e3
    rw [hp_cell h3, take_get h7 hj]
    simp [hj]
theorem Strs.ext {w w' : World} {base : Nat} {v : Value} {ks : List ByteArray} (h : Strs w base v ks) (hx : Ext w w') : Strs w' base v ks := owns_ext h hx

theorem enter_fn {f : FuncId} {fn : Func} {c : Code} (hf : Yba.prog.funcs[f]? = some fn) (hname : (fn.name == "runtime.NumGoroutine") = false) (hb : fn.body = some c) (args : Array Value) (w : World) :
    (callFunc f args).run Yba.prog w = .ok (.enter f args) w := by
  have h1 : fn.name ≠ "runtime.NumGoroutine" := by simpa using hname
  simp [callFunc, hf, h1, hb]
theorem enter58 (args : Array Value) (w : World) : (callFunc 58 args).run Yba.prog w = .ok (.enter 58 args) w :=
  enter_fn Yba.func58 (by kernel_rfl) (c := _) (by rfl) args w
theorem child1 (i kb nb r gs n cap : Nat) (key s : ByteArray) (w : World) (hi : i < n) (h1 : w.cell? ⟨kb, 0, none⟩ = some (.string key)) (h2 : w.cell? ⟨nb, 0, none⟩ = some (.pointer (some ⟨r, 0, none⟩)))
    (h3 : w.cell? ⟨r, 4, none⟩ = some (.slice (some ⟨gs, 0, none⟩) n cap)) (h4 : w.cell? ⟨gs, i, none⟩ = some (.string s)) :
    Calls Yba.prog 58 #[.int .i64 (i : Int), .pointer (some ⟨kb, 0, none⟩), .pointer (some ⟨nb, 0, none⟩)] w fun e w' => e = .returned (.bool (klt key s)) ∧ Ext w w' := by
  have hi' : (i : Int) < (n : Int) := by omega
  have hi0 : (0 : Int) ≤ (i : Int) := by omega
  go_enter Yba.func58, Yba.ntmps58
  go_wp2_with fail
  go_quiet (fail)
  go_wp2_with fail
  go_ret
  exact ⟨rfl, (Ext.refl _).drewN _⟩

/-- The child under which key belongs. -/
def cidx (key : ByteArray) (ss : List ByteArray) : Nat := ss.countP (fun s => !klt key s)
theorem cidx_le (key : ByteArray) (ss : List ByteArray) : cidx key ss ≤ ss.length := List.countP_le_length
theorem cidx_of {key : ByteArray} {ss : List ByteArray} {r : Nat} (hr : r ≤ ss.length) (h1 : ∀ i, i < r → (ss[i]?.map (klt key)).getD false = false) (h2 : ∀ i, r ≤ i → i < ss.length → (ss[i]?.map (klt key)).getD false = true) : cidx key ss = r := by
  refine countP_cut _ ss r hr (fun j h hj => ?_) (fun j h hj => ?_)
  · have := h1 j hj
    rw [List.getElem?_eq_getElem h] at this
    simpa using this
  · have := h2 j hj h
    rw [List.getElem?_eq_getElem h] at this
    simpa using this

set_option maxRecDepth 100000 in
theorem child_some (base gs cap r : Nat) (ss : List ByteArray) (key : ByteArray) (w : World) (hs : Strs w base (.slice (some ⟨gs, 0, none⟩) ss.length cap) ss) (hr : Rising ss) (hn : ss.length ≤ 1000000)
    (h4 : w.cell? ⟨r, 4, none⟩ = some (.slice (some ⟨gs, 0, none⟩) ss.length cap)) :
    Calls Yba.prog 42 #[.pointer (some ⟨r, 0, none⟩), .string key] w fun e w' => e = .returned (.int .i64 (cidx key ss : Int)) ∧ Ext w w' := by
  have hrlt := hp_cell_lt h4
  have e0 : Ext w ((w.alloc (.cells #[.pointer (some ⟨r, 0, none⟩)] 39)).alloc (.cells #[.string key] 9)) := ((Ext.refl w).alloc _).alloc _
  have hS := search_any ss.length 58 #[.pointer (some ⟨w.heap.size + 1, 0, none⟩), .pointer (some ⟨w.heap.size, 0, none⟩)] (fun i => (ss[i]?.map (klt key)).getD false) ((w.alloc (.cells #[.pointer (some ⟨r, 0, none⟩)] 39)).alloc (.cells #[.string key] 9)) hn enter58
    (Hid.intro (fun i w' hi hx => by
      have b0 : w'.heap[w.heap.size]? = some (.cells #[.pointer (some ⟨r, 0, none⟩)] 39) := by
        rw [hx.block (by rw [hp_alloc_size, hp_alloc_size]; omega), hp_alloc_lt _ _ _ (by rw [hp_alloc_size]; omega), hp_alloc_new]
      have b1 : w'.heap[w.heap.size + 1]? = some (.cells #[.string key] 9) := by
        rw [hx.block (by rw [hp_alloc_size, hp_alloc_size]; omega)]
        have := hp_alloc_new (w.alloc (.cells #[.pointer (some ⟨r, 0, none⟩)] 39)) (.cells #[.string key] 9)
        rwa [hp_alloc_size] at this
      have ew : Ext w w' := e0.trans hx
      have c4 : w'.cell? ⟨r, 4, none⟩ = some (.slice (some ⟨gs, 0, none⟩) ss.length cap) := by rw [hp_cell_eq (w := w) (ew.block hrlt)]; exact h4
      refine (child1 i (w.heap.size + 1) w.heap.size r gs ss.length cap key ss[i] w' hi (by rw [hp_cell b1]; rfl) (by rw [hp_cell b0]; rfl) c4 ((hs.ext ew).cell rfl hi)).mono ?_
      rintro e w'' ⟨rfl, hx2⟩
      exact ⟨by rw [List.getElem?_eq_getElem hi]; rfl, hx2⟩))
    (Hid.intro (fun i j hij hj hi => by
      rw [List.getElem?_eq_getElem (by omega)] at hi ⊢
      simp at hi ⊢
      exact klt_trans hi (hr.get hij hj)))
  have HS := Hid.intro hS
  have h4a : ((w.alloc (.cells #[.pointer (some ⟨r, 0, none⟩)] 39)).alloc (.cells #[.string key] 9)).cell? ⟨r, 4, none⟩ = some (.slice (some ⟨gs, 0, none⟩) ss.length cap) := by
    rw [hp_cell_eq (w := w) (e0.block hrlt)]; exact h4
  clear hS
  go_enter Yba.func42, Yba.ntmps42
  go_wp2_with (go_at_call 57; refine HS.out.mono ?_; rintro e w2 ⟨q, rfl, hq1, hq2, hq3, hx2⟩; have HQ := Hid.intro (cidx_of hq1 hq2 hq3); clear hq2 hq3)
  go_ret
  exact ⟨by rw [HQ.out]; rfl, e0.trans hx2⟩
end Go.Proofs.Ybulkckvy
