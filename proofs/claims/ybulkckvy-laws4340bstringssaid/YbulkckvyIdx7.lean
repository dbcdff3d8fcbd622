import Derived.Test.YbulkckvyIdx5
set_option linter.unusedVariables false
set_option linter.unusedSimpArgs false
namespace Go.Proofs.Ybulkckvy
open Go.RowKit
attribute [local go_sem ↓] Go.wp_at_zero Go.wp_at_succ

/-- What Index.Insert leaves. -/
def IdxIns (w : World) (base xb : Nat) (K : List ByteArray) (F : List Nat) (k : ByteArray) (e : Ending) (w' : World) : Prop :=
  e = .returned (.tuple #[]) ∧ ∃ F', IdxAt w' base xb (insK k K) F' ∧ Fr (xb :: F) w w' ∧ Grows F F' w
theorem idx_put {W : World} {base xb r r' : Nat} {a0 a1 a2 a3 : Value} {ls : List Leaf} {ss : List ByteArray} {F' : List Nat} (hx : W.heap[xb]? = some (.cells #[a0, a1, a2, a3, .bool true, .bool true, .pointer (some ⟨r, 0, none⟩)] 48 (0, 0))) (hT : TreeAt W base r' ls ss F') :
    IdxAt (W.setCell ⟨xb, 6, none⟩ (.pointer (some ⟨r', 0, none⟩))) base xb (keysOf ls) F' := by
  refine ⟨r', ls, ss, a0, a1, a2, a3, by rw [hp_set_same _ _ _ _ _ _ _ hx]; rfl, hT.carry (Fr.one W _ _) (fun x hm => ?_), rfl⟩
  have e : x = xb := by simpa using hm
  subst e
  exact hT.out hx (by decide)
def sw1 (w3 : World) (b1 b2 : Nat) (x : ByteArray) : World := ((w3.alloc (.cells #[.pointer (some ⟨b1, 0, none⟩), .pointer (some ⟨b2, 0, none⟩)] 39)).alloc (.cells #[.string x] 9)).alloc (.cells #[.slice none 0 0, .pointer none, .pointer none, .slice (some ⟨w3.heap.size, 0, none⟩) 2 2, .slice (some ⟨w3.heap.size + 1, 0, none⟩) 1 1] 44)
theorem ins_split {w w3 : World} {base xb root : Nat} {a0 a1 a2 a3 : Value} {ls : List Leaf} {ss : List ByteArray} {F : List Nat} {k : ByteArray} {e : Ending} (hx : w.heap[xb]? = some (.cells #[a0, a1, a2, a3, .bool true, .bool true, .pointer (some ⟨root, 0, none⟩)] 48 (0, 0)))
    (h : TreeAt w base root ls ss F) (hr : RootSplit w base root (keysOf ls) F k e w3) :
    ∃ b2 x, e = .returned (.tuple #[.string x, .pointer (some ⟨b2, 0, none⟩)]) ∧ IdxIns w base xb (keysOf ls) F k (.returned (.tuple #[])) ((sw1 w3 root b2 x).setCell ⟨xb, 6, none⟩ (.pointer (some ⟨w3.heap.size + 1 + 1, 0, none⟩))) ∧ Fr F w w3 := by
  obtain ⟨l1, l2, x, rfl, rfl, hL1, hL2, hg, hk, hF, hG, hnv, hne⟩ := hr
  have hb := h.low
  have hsz := hF.size
  obtain ⟨F', hT', hgr⟩ := new_root (w := w) (K := keysOf ls) (root := l1.b) (F := F) (k := k) (by omega) hL1 hL2 hg hnv hne #[.pointer (some ⟨l1.b, 0, none⟩), .pointer (some ⟨l2.b, 0, none⟩)] #[.string x] rfl rfl
  have hX : Ext w3 (sw1 w3 l1.b l2.b x) := (((Ext.refl w3).alloc _).alloc _).alloc _
  have hx3 : (sw1 w3 l1.b l2.b x).heap[xb]? = _ := hX.some (hF.some hx (h.out hx (by decide)))
  refine ⟨l2.b, x, rfl, ⟨rfl, F', ?_, ?_, fun y hy => ?_⟩, hF⟩
  · rw [← hk]; exact idx_put hx3 hT'
  · exact ((hF.mono (fun y hy => by simp [hy])).trans (Fr.of_ext hX _)).set _ _ (.inl (by simp))
  · rcases hgr y hy with q | q
    · exact hG y q
    · exact .inr (by omega)
set_option maxRecDepth 100000 in
set_option maxHeartbeats 1000000 in
theorem iins (base xb : Nat) (K : List ByteArray) (F : List Nat) (k : ByteArray) (w : World) (h : IdxAt w base xb K F) (hk : k ∉ K) (hn : K.length ≤ 1023) :
    Calls Yba.prog 13 #[.pointer (some ⟨xb, 0, none⟩), .string k, .slice none 0 0] w (IdxIns w base xb K F k) := by
  obtain ⟨root, ls, ss, a0, a1, a2, a3, hx, hT, hK⟩ := h.ex
  subst hK
  have c4 : w.cell? ⟨xb, 4, none⟩ = some (.bool true) := by rw [hp_cell hx]; rfl
  have c6 : w.cell? ⟨xb, 6, none⟩ = some (.pointer (some ⟨root, 0, none⟩)) := by rw [hp_cell hx]; rfl
  have HI := Hid.intro (ins_tree base root ls ss F k w hT hk hn)
  have HX := Hid.intro (fun w3 (hF : Fr F w w3) => hF.some hx (hT.out hx (by decide)))
  have HP := Hid.intro (fun e w3 hr => ins_split (w3 := w3) (k := k) (e := e) hx hT hr)
  clear hx hT h hk hn
  go_enter Yba.func13, Yba.ntmps13
  go_wp2_with fail
  refine HI.out.mono ?_
  rintro e w3 hIT
  rcases hIT with ⟨rfl, ls', ss', F', hT', hk', hF', hgr⟩ | hr
  · have R : IdxIns w base xb (keysOf ls) F k (.returned (.tuple #[])) w3 := ⟨rfl, F', ⟨root, ls', ss', a0, a1, a2, a3, HX.out w3 hF', hT', hk'⟩, hF'.mono (fun y hy => by simp [hy]), hgr⟩
    have HR := Hid.intro R
    clear R hT' hk' hF' hgr HP HX HI
    go_wp2_with fail
    first | go_end0 | (simp only [Exit.inBlock, Exit.then]; refine bodyPost_ret (results_none rfl _ _ _) rfl ?_)
    exact HR.out
  · obtain ⟨b2, x, rfl, hI, hF⟩ := HP.out _ w3 hr
    have hx3 := HX.out w3 hF
    have d6 : ∀ o1 o2 o3, (((w3.alloc o1).alloc o2).alloc o3).cell? ⟨xb, 6, none⟩ = some (.pointer (some ⟨root, 0, none⟩)) := fun o1 o2 o3 => ext_cell ((((Ext.refl w3).alloc o1).alloc o2).alloc o3) (by rw [hp_cell hx3]; rfl)
    have d6' : w3.cell? ⟨xb, 6, none⟩ = some (.pointer (some ⟨root, 0, none⟩)) := by rw [hp_cell hx3]; rfl
    have f6 : ∀ o1 o2 o3, (((w3.alloc o1).alloc o2).alloc o3).frozen? ⟨xb, 6, none⟩ = false := fun o1 o2 o3 => hp_frozen (((((Ext.refl w3).alloc o1).alloc o2).alloc o3).some hx3) _
    have HR := Hid.intro hI
    clear hr hI hF HP HX HI hx3
    go_wp2_with fail
    first | go_end0 | (simp only [Exit.inBlock, Exit.then]; refine bodyPost_ret (results_none rfl _ _ _) rfl ?_)
    exact HR.out
end Go.Proofs.Ybulkckvy
