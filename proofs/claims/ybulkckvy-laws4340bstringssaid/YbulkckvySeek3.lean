import Derived.Test.YbulkckvySeek2
set_option linter.unusedVariables false
set_option linter.unusedSimpArgs false
namespace Go.Proofs.Ybulkckvy
open Go.RowKit
attribute [local go_sem ↓] Go.wp_at_zero Go.wp_at_succ

def AtRet (W : World) (base xb : Nat) (K : List ByteArray) (key : ByteArray) (e : Ending) (w' : World) : Prop :=
  ∃ b i : Nat, e = .returned (.agg #[.pointer (some ⟨xb, 0, none⟩), .pointer (some ⟨b, 0, none⟩), .int .i64 (i : Int)]) ∧ CurAt w' base xb K key (.agg #[.pointer (some ⟨xb, 0, none⟩), .pointer (some ⟨b, 0, none⟩), .int .i64 (i : Int)]) ∧ Ext W w'
theorem at_any {W : World} {base xb : Nat} {A B : List Leaf} {l : Leaf} {key : ByteArray} (hseg : Seg W base none (A ++ l :: B) none) (h1 : ∀ x ∈ keysOf A, klt x key = true) (h2 : ∀ x ∈ keysOf B, klt x key = false) (hne : ∀ m ∈ B, 0 < m.ks.length) :
    Calls Yba.prog 65 #[.pointer (some ⟨xb, 0, none⟩), .pointer (some ⟨l.b, 0, none⟩), .int .i64 (pos key l.ks : Int)] W (AtRet W base xb (keysOf (A ++ l :: B)) key) := by
  have hp := pos_le key l.ks
  rw [seg_append] at hseg
  obtain ⟨_, hL, hB⟩ := hseg
  obtain ⟨a, cap, hv⟩ : ∃ a cap, l.v = .slice a l.ks.length cap := by
    rcases hL.ents.form with ⟨e1, e2⟩ | ⟨g, cap, cur, e, _⟩
    · rw [e1, e2]; exact ⟨none, 0, rfl⟩
    · exact ⟨_, cap, e⟩
  have c0 := hL.cell0
  rw [hv] at c0
  rcases Nat.lt_or_ge (pos key l.ks) l.ks.length with hlt | hge
  · refine (at_in xb l.b (pos key l.ks) l.ks.length cap a W c0 hlt).mono ?_
    rintro e w' ⟨he, hx⟩
    exact ⟨_, _, he, ⟨l, _, _, _, rfl, hL.ext hx, .inl ⟨hlt, place_in h1 h2 hlt⟩⟩, hx⟩
  · have he0 : pos key l.ks = l.ks.length := by omega
    cases B with
    | nil =>
      have c2 : W.cell? ⟨l.b, 2, none⟩ = some (.pointer none) := hL.cell2
      rw [he0]
      refine (at_end xb l.b l.ks.length cap a W c0 c2).mono ?_
      rintro e w' ⟨he, hx⟩
      refine ⟨_, _, he, ⟨l, _, _, _, rfl, hL.ext hx, .inr ⟨rfl, ?_⟩⟩, hx⟩
      rw [place h1 h2, he0]; simp [keysOf, kssOf]
    | cons m B =>
      have c2 : W.cell? ⟨l.b, 2, none⟩ = some (.pointer (some ⟨m.b, 0, none⟩)) := hL.cell2
      have hm := hne m (by simp)
      rw [he0]
      refine (at_next xb l.b l.ks.length cap m.b a W c0 c2).mono ?_
      rintro e w' ⟨he, hx⟩
      exact ⟨m.b, 0, he, ⟨m, 0, _, _, rfl, hB.1.ext hx, .inl ⟨hm, place_next h1 h2 he0 hm⟩⟩, hx⟩
theorem TreeAt.seg {w : World} {base root : Nat} {ls : List Leaf} {ss : List ByteArray} {F : List Nat} (h : TreeAt w base root ls ss F) : Seg w base none ls none := by
  rcases h.mem with ⟨l, rfl, rfl, rfl, hL, rfl⟩ | ⟨hs, vc, vs, hI, rfl⟩
  · exact ⟨hL, trivial⟩
  · exact hI.seg
theorem TreeAt.full {w : World} {base root : Nat} {A B : List Leaf} {l : Leaf} {ss : List ByteArray} {F : List Nat} (h : TreeAt w base root (A ++ l :: B) ss F) : ∀ m ∈ B, 0 < m.ks.length := fun m hm => by
  have hpos : 0 < B.length := List.length_pos_of_mem hm
  have := h.good.lo (by rw [kss_len]; simp; omega) m.ks (List.mem_map_of_mem (by simp [hm]))
  omega
theorem TreeAt.grow {w w' : World} {base root : Nat} {ls : List Leaf} {ss : List ByteArray} {F : List Nat} (h : TreeAt w base root ls ss F) (hx : Ext w w') : TreeAt w' base root ls ss F := by
  have hF := Fr.of_ext hx []
  have hsz := hx.le
  have hlow := h.low
  refine ⟨h.good, ?_, by omega⟩
  rcases h.mem with ⟨l, rfl, rfl, rfl, hL, rfl⟩ | ⟨hs, vc, vs, hI, rfl⟩
  · exact .inl ⟨l, rfl, rfl, rfl, hL.ext hx, rfl⟩
  · exact .inr ⟨hs, vc, vs, (hI.toG.ext hx).toI, rfl⟩

theorem CurAt.carry {w w' : World} {base xb b0 : Nat} {K : List ByteArray} {k : ByteArray} {v : Value} {c : Array Value} (h : CurAt w base xb K k v) (hb : w.heap[b0]? = some (.cells c 55 (0, 0))) (hF : Fr [b0] w w') : CurAt w' base xb K k v := by
  obtain ⟨l, i, p, n, h1, h2, h3⟩ := h
  refine ⟨l, i, p, n, h1, h2.carry hF (fun hm => ?_) (fun g hg hm => ?_), h3⟩
  · have e : l.b = b0 := by simpa using hm
    exact ty_ne h2.node hb (by decide) e
  · have e : g = b0 := by simpa using hm
    obtain ⟨c', hc'⟩ := own_ty h2.ents hg
    exact ty_ne hc' hb (by decide) e
/-- A cursor is written into its cells. -/
theorem cur_put {w3 : World} {b0 xb b i : Nat} {c : Array Value} (hc : w3.heap[b0]? = some (.cells c 55 (0, 0))) (hs : c.size = 3) :
    (((w3.setCell ⟨b0, 0, none⟩ (.pointer (some ⟨xb, 0, none⟩))).setCell ⟨b0, 1, none⟩ (.pointer (some ⟨b, 0, none⟩))).setCell ⟨b0, 2, none⟩ (.int .i64 (i : Int))).heap[b0]? = some (.cells #[.pointer (some ⟨xb, 0, none⟩), .pointer (some ⟨b, 0, none⟩), .int .i64 (i : Int)] 55 (0, 0)) ∧
    Fr [b0] w3 (((w3.setCell ⟨b0, 0, none⟩ (.pointer (some ⟨xb, 0, none⟩))).setCell ⟨b0, 1, none⟩ (.pointer (some ⟨b, 0, none⟩))).setCell ⟨b0, 2, none⟩ (.int .i64 (i : Int))) := by
  refine ⟨?_, (((Fr.refl _ w3).set _ _ (.inl (by simp))).set _ _ (.inl (by simp))).set _ _ (.inl (by simp))⟩
  rw [hp_set_same _ _ _ _ _ _ _ (hp_set_same _ _ _ _ _ _ _ (hp_set_same _ _ _ _ _ _ _ hc))]
  obtain ⟨l⟩ := c
  match l, hs with
  | [x, y, z], _ => rfl
def SeekRet (w : World) (base xb : Nat) (K : List ByteArray) (key : ByteArray) (e : Ending) (w' : World) : Prop := AtRet w base xb K key e w'
set_option maxRecDepth 100000 in
set_option maxHeartbeats 1000000 in
theorem ifind (base xb root kb : Nat) (ls : List Leaf) (ss : List ByteArray) (F : List Nat) (key : ByteArray) (w : World) (h : TreeAt w base root ls ss F) (hn : (keysOf ls).length ≤ 1024) (hk : w.cell? ⟨kb, 0, none⟩ = some (.string key)) (hroot : w.cell? ⟨xb, 6, none⟩ = some (.pointer (some ⟨root, 0, none⟩))) :
    Calls Yba.prog 50 #[.pointer (some ⟨xb, 0, none⟩), .func (.func 51) #[] #[.pointer (some ⟨kb, 0, none⟩)]] w (AtRet w base xb (keysOf ls) key) := by
  have xA : ∀ o, Ext w (w.alloc o) := fun o => (Ext.refl w).alloc o
  have r6 : ∀ o, (w.alloc o).cell? ⟨xb, 6, none⟩ = some (.pointer (some ⟨root, 0, none⟩)) := fun o => ext_cell (xA o) hroot
  have HF := Hid.intro (fun o => find_tree base root kb ls ss F key (w.alloc o) (h.grow (xA o)) hn (ext_cell (xA o) hk))
  have HA := Hid.intro (fun (W : World) (A B : List Leaf) (l : Leaf) (e : ls = A ++ l :: B) (hx : Ext w W) (h1 : ∀ x ∈ keysOf A, klt x key = true) (h2 : ∀ x ∈ keysOf B, klt x key = false) => (show Calls Yba.prog 65 #[.pointer (some ⟨xb, 0, none⟩), .pointer (some ⟨l.b, 0, none⟩), .int .i64 (pos key l.ks : Int)] W (AtRet W base xb (keysOf ls) key) by
    subst e
    exact at_any (h.grow hx).seg h1 h2 h.full))
  clear h hroot
  go_enter Yba.func50, Yba.ntmps50
  go_wp2_with (first | (go_at_call 66; refine (HF.out _).mono ?_; rintro e w2 ⟨A, l, B, hls, h1, h2, _, rfl, hx2⟩; have HC := Hid.intro (HA.out w2 A B l hls ((xA _).trans hx2) h1 h2); have c2 := hx2.some (hp_alloc_new w _); clear h1 h2 hls HF HA) | (go_at_call 65; refine HC.out.mono ?_; rintro e w3 ⟨b, i, rfl, hcur, hx3⟩; have c3 := hx3.some c2; have s0 : w3.cell? ⟨w.heap.size, 0, none⟩ = some (.pointer none) := (by rw [hp_cell c3]; rfl); have s1 : w3.cell? ⟨w.heap.size, 1, none⟩ = some (.pointer none) := (by rw [hp_cell c3]; rfl); have s2 : w3.cell? ⟨w.heap.size, 2, none⟩ = some (.int .i64 0) := (by rw [hp_cell c3]; rfl); have sf := (fun o => hp_frozen c3 o); have HCU := Hid.intro hcur; clear hcur HC))
  (try simp only [Exit.inBlock, Exit.then])
  obtain ⟨hput, hfr⟩ := cur_put (xb := xb) (b := b) (i := i) c3 rfl
  have r0 := hp_cell hput 0
  have r1 := hp_cell hput 1
  have r2 := hp_cell hput 2
  have hcu := HCU.out.carry c3 hfr
  have hxx : Ext w (((w3.setCell ⟨w.heap.size, 0, none⟩ (.pointer (some ⟨xb, 0, none⟩))).setCell ⟨w.heap.size, 1, none⟩ (.pointer (some ⟨b, 0, none⟩))).setCell ⟨w.heap.size, 2, none⟩ (.int .i64 (i : Int))) :=
    (((((xA _).trans hx2).trans hx3).set _ _ (Nat.le_refl _)).set _ _ (Nat.le_refl _)).set _ _ (Nat.le_refl _)
  refine bodyPost_ret (v := .agg #[.pointer (some ⟨xb, 0, none⟩), .pointer (some ⟨b, 0, none⟩), .int .i64 (i : Int)]) (by simp [results, Yba.results50, go_sem, r0, r1, r2]; try rfl) rfl ?_
  exact ⟨b, i, rfl, hcu, hxx⟩
end Go.Proofs.Ybulkckvy
