import Derived.Test.YbulkckvyIdx5
set_option linter.unusedVariables false
set_option linter.unusedSimpArgs false
namespace Go.Proofs.Ybulkckvy
open Go.RowKit
attribute [local go_sem ↓] Go.wp_at_zero Go.wp_at_succ

theorem delIf_len {k : ByteArray} {K : List ByteArray} {n : Nat} (h : K.length ≤ n) : (delIf k K).length ≤ n := by
  unfold delIf
  split
  · unfold delK
    rw [List.length_append, List.length_take, List.length_drop]
    omega
  · exact h
theorem del_cells {W w3 : World} {rb : Nat} (hr : W.heap[rb]? = some (.cells #[.pointer none, .pointer none, .int .i64 0] 55 (0, 0))) (hx : Ext W w3) :
    (∀ o, (w3.alloc o).cell? ⟨rb, 0, none⟩ = some (.pointer none)) ∧ (∀ o, (w3.alloc o).cell? ⟨rb, 1, none⟩ = some (.pointer none)) ∧ (∀ o, (w3.alloc o).cell? ⟨rb, 2, none⟩ = some (.int .i64 0)) ∧ (∀ o f, (w3.alloc o).frozen? ⟨rb, f, none⟩ = false) :=
  ⟨fun o => by rw [hp_cell ((hx.alloc o).some hr)]; rfl, fun o => by rw [hp_cell ((hx.alloc o).some hr)]; rfl, fun o => by rw [hp_cell ((hx.alloc o).some hr)]; rfl, fun o f => hp_frozen ((hx.alloc o).some hr) f⟩
set_option maxRecDepth 100000 in
set_option maxHeartbeats 2000000 in
theorem idel (base xb : Nat) (K : List ByteArray) (F : List Nat) (k : ByteArray) (w : World) (h : IdxAt w base xb K F) (hn : K.length ≤ 1024) :
    Calls Yba.prog 15 #[.pointer (some ⟨xb, 0, none⟩), .string k] w (IdxDel w base xb K F k) := by
  obtain ⟨root, ls, ss, a0, a1, a2, a3, hx, hT, hK⟩ := h.ex
  subst hK
  have xA : ∀ o, Ext w (w.alloc o) := fun o => (Ext.refl w).alloc o
  have r6 : ∀ o, (w.alloc o).cell? ⟨xb, 6, none⟩ = some (.pointer (some ⟨root, 0, none⟩)) := fun o => ext_cell (xA o) (by rw [hp_cell hx]; rfl)
  have HD := Hid.intro (fun o => del_tree base root ls ss F k (w.alloc o) (hT.grow (xA o)) hn)
  have HM := Hid.intro (fun o e w2 (hD : DelTree (w.alloc o) base root (keysOf ls) F k e w2) => DelTree.mid (xb := xb) (hT.grow (xA o)) hD)
  have HS := Hid.intro (fun w2 (v : Value) (hm : DelMid (w.alloc cur0) base xb root (keysOf ls) F k v w2) => DelMid.cases (K := keysOf ls) hx hT hm)
  have hlen : Hid ((delIf k (keysOf ls)).length ≤ 1024) := Hid.intro (delIf_len hn)
  have HK := Hid.intro (fun w3 (root' : Nat) (ls' : List Leaf) (ss' : List ByteArray) (F' : List Nat) (hp : DelPre w base xb w.heap.size a0 a1 a2 a3 (delIf k (keysOf ls)) F root' ls' ss' F' w3) => (show Calls Yba.prog 32 #[.pointer (some ⟨xb, 0, none⟩), .string k] w3 (Seek2Ret w3 base xb (delIf k (keysOf ls)) k) by
    have := iseek base xb root' ls' ss' F' k w3 hp.tree (by rw [hp.keys]; exact hlen.out) hp.live.c6.1
    rw [hp.keys] at this
    exact this))
  clear hn hT hx h hlen
  go_enter Yba.func15, Yba.ntmps15
  go_upto_region 2 with (go_at_call 31; refine (HD.out _).mono ?_; rintro e w2 hD; obtain ⟨rfl, hM⟩ := HM.out _ e w2 hD; clear HD HM hD)
  have HC := HS.out w2 _ hM
  clear HS hM r6
  rcases HC with ⟨ls', ss', F', hp⟩ | ⟨c, g, cc, ls', ss', F', hp, hl, h3, hg⟩
  · have c6 := hp.live.c6.1
    have HKK := Hid.intro (HK.out w2 root ls' ss' F' hp)
    rcases hp.tree.rootOk with q | ⟨g, n, cc, q, hn2⟩
    · have HP := Hid.intro hp
      have H26 := Hid.intro (leaf_nil root w2 q)
      clear hp q HK
      go_wp2_with (first | (go_at_call 26; refine H26.out.mono ?_; rintro e w3 ⟨rfl, rfl⟩; clear H26) | (go_at_call 32; refine HKK.out.mono ?_; rintro e w3 ⟨b, i, t, rfl, hcur, hx3⟩; obtain ⟨s0, s1, s2, sf⟩ := del_cells HP.out.live.r hx3; have HCU := Hid.intro hcur; clear hcur HKK))
      (try simp only [Exit.inBlock, Exit.then])
      obtain ⟨hput, hI, hcu, hfr⟩ := del_done (.cells #[.pointer (some ⟨xb, 0, none⟩), .pointer (some ⟨b, 0, none⟩), .int .i64 (i : Int)] 55) (Nat.le_refl _) HP.out hx3 HCU.out
      have r0 := hp_cell hput 0
      have r1 := hp_cell hput 1
      have r2 := hp_cell hput 2
      refine bodyPost_ret (v := .tuple #[.agg #[.pointer (some ⟨xb, 0, none⟩), .pointer (some ⟨b, 0, none⟩), .int .i64 (i : Int)], .bool (foundB k (keysOf ls))]) (by simp [results, Yba.results15, go_sem, r0, r1, r2]; try rfl) rfl ?_
      exact ⟨b, i, F', rfl, hI, hcu, hfr, HP.out.gr⟩
    · have HP := Hid.intro hp
      have H26 := Hid.intro (leaf_some root ⟨g, 0, none⟩ n cc w2 q)
      have hn1 : ((n : Int) == 1) = false := by simp; omega
      have hn3 : ¬ (n : Int) = 1 := by omega
      clear hp HK
      go_wp2_with (first | (go_at_call 26; refine H26.out.mono ?_; rintro e w3 ⟨rfl, rfl⟩; clear H26) | (go_at_call 32; refine HKK.out.mono ?_; rintro e w3 ⟨b, i, t, rfl, hcur, hx3⟩; obtain ⟨s0, s1, s2, sf⟩ := del_cells HP.out.live.r hx3; have HCU := Hid.intro hcur; clear hcur HKK))
      (try simp only [Exit.inBlock, Exit.then])
      obtain ⟨hput, hI, hcu, hfr⟩ := del_done (.cells #[.pointer (some ⟨xb, 0, none⟩), .pointer (some ⟨b, 0, none⟩), .int .i64 (i : Int)] 55) (Nat.le_refl _) HP.out hx3 HCU.out
      have r0 := hp_cell hput 0
      have r1 := hp_cell hput 1
      have r2 := hp_cell hput 2
      refine bodyPost_ret (v := .tuple #[.agg #[.pointer (some ⟨xb, 0, none⟩), .pointer (some ⟨b, 0, none⟩), .int .i64 (i : Int)], .bool (foundB k (keysOf ls))]) (by simp [results, Yba.results15, go_sem, r0, r1, r2]; try rfl) rfl ?_
      exact ⟨b, i, F', rfl, hI, hcu, hfr, HP.out.gr⟩
  · have HKK := Hid.intro (HK.out _ c ls' ss' F' hp)
    · have HP := Hid.intro hp
      have H26 := Hid.intro (leaf_some root ⟨g, 0, none⟩ 1 cc w2 h3)
      have c6 := hl.c6
      clear hp HK hl
      go_wp2_with (first | (go_at_call 26; refine H26.out.mono ?_; rintro e w3 ⟨rfl, rfl⟩; clear H26) | (go_at_call 32; refine HKK.out.mono ?_; rintro e w3 ⟨b, i, t, rfl, hcur, hx3⟩; obtain ⟨s0, s1, s2, sf⟩ := del_cells HP.out.live.r hx3; have HCU := Hid.intro hcur; clear hcur HKK))
      (try simp only [Exit.inBlock, Exit.then])
      obtain ⟨hput, hI, hcu, hfr⟩ := del_done (.cells #[.pointer (some ⟨xb, 0, none⟩), .pointer (some ⟨b, 0, none⟩), .int .i64 (i : Int)] 55) (Nat.le_refl _) HP.out hx3 HCU.out
      have r0 := hp_cell hput 0
      have r1 := hp_cell hput 1
      have r2 := hp_cell hput 2
      refine bodyPost_ret (v := .tuple #[.agg #[.pointer (some ⟨xb, 0, none⟩), .pointer (some ⟨b, 0, none⟩), .int .i64 (i : Int)], .bool (foundB k (keysOf ls))]) (by simp [results, Yba.results15, go_sem, r0, r1, r2]; try rfl) rfl ?_
      exact ⟨b, i, F', rfl, hI, hcu, hfr, HP.out.gr⟩
end Go.Proofs.Ybulkckvy
