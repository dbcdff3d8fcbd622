import Derived.Test.YbulkckzsDoorRow
set_option linter.unusedVariables false
set_option linter.unusedSimpArgs false
namespace Go.Proofs.YbulkckzsDoor
open Go.RowKit
attribute [local go_sem ↓] Go.wp_at_zero Go.wp_at_succ

def Bytes (w : World) (base : Nat) (v : Value) (bs : List Nat) : Prop := w.ownsRow base 5 1 v bs.length (bs.map bv)
/-- The row's own block alone, and new ones. -/
structure Gr (v : Value) (w : World) (v' : Value) (w' : World) : Prop where
  fr : Fr v.ownBlock.toList w w'
  at_ : ∀ g, v'.ownBlock = some g → v.ownBlock = some g ∨ w.heap.size ≤ g
theorem Gr.of_ext {v : Value} {w w' : World} (h : Ext w w') : Gr v w v w' := ⟨Fr.of_ext h _, fun g hg => .inl hg⟩
theorem Gr.trans {v v1 v2 : Value} {w w1 w2 : World} (h : Gr v w v1 w1) (k : Gr v1 w1 v2 w2) : Gr v w v2 w2 := by
  have hs := h.fr.size
  refine ⟨h.fr.trans' k.fr (fun x hx => ?_), fun g hg => ?_⟩
  · rcases h.at_ x (Option.mem_toList.1 hx) with q | q
    · exact .inl (by simp [q])
    · exact .inr q
  · rcases k.at_ g hg with q | q
    · exact h.at_ g q
    · exact .inr (by omega)
theorem Gr.keep {v v' : Value} {w w' : World} (h : Gr v w v' w') {b : Nat} {o : Obj} (hb : w.heap[b]? = some o) (hv : v.ownBlock ≠ some b) : w'.heap[b]? = some o := h.fr.some hb (fun hm => hv (Option.mem_toList.1 hm))
theorem Gr.ne {v v' : Value} {w w' : World} (h : Gr v w v' w') {b : Nat} (hb : b < w.heap.size) (hv : v.ownBlock ≠ some b) : v'.ownBlock ≠ some b := fun e => by
  rcases h.at_ b e with q | q
  · exact hv q
  · omega
theorem bv_one (ns : List Nat) : ∀ u ∈ ns.map bv, u.oneCell' = true := fun u hu => by
  obtain ⟨n, _, rfl⟩ := List.mem_map.1 hu
  rfl
theorem Bytes.ext {w w' : World} {base : Nat} {v : Value} {bs : List Nat} (h : Bytes w base v bs) (hx : Ext w w') : Bytes w' base v bs := owns_ext h hx
theorem app_bytes {W : World} {base : Nat} (ty : TypeId) (v : Value) (bs ns : List Nat) (ad : Addr) (c : Nat) (hown : Bytes W base v bs) (hns : ∀ j (h : j < ns.length), W.cell? (ad.add j) = some (bv ns[j])) (hn : bs.length ≤ 100000) (hm : ns.length ≤ 1000) (hb : base ≤ W.heap.size) :
    ∃ v' w', (Builtin.append_ #[23, 23] ty #[v, .slice (some ad) ns.length c]).run Ybad.prog W = .ok v' w' ∧ Bytes w' base v' (bs ++ ns) ∧ Gr v W v' w' := by
  obtain ⟨i0, hi0, hz0, hzs, hzb⟩ := info_parts info5
  obtain ⟨v', w4, hr, hown', hgrow, hnil, hat⟩ := run_append_own_at (P := Ybad.prog) W base 23 ty 5 i0 (.int .u8 0) 1 1 Ybad.underlying23 hi0 hz0 hzs hzb rfl (by decide) v bs.length (bs.map bv) hown ad ns.length c (ns.map bv) (by simp)
    (fun j u hu => by
      obtain ⟨hj, e⟩ := List.getElem?_eq_some_iff.1 hu
      rw [List.getElem_map] at e
      rw [← e]
      exact hns j (by simpa using hj)) (bv_one ns) (by unfold maxLen; omega) (by omega) hb
  refine ⟨v', w4, hr, by unfold Bytes; simpa using hown', Fr.of_grown hgrow _ (fun g hg => .inl (by simp [hg])), fun g hg => ?_⟩
  rcases hat with q | q
  · exact .inl (by rw [← q]; exact hg)
  · rw [hg] at q
    have : g = W.heap.size := by injection q
    exact .inr (by omega)
def AppRet (w : World) (base : Nat) (v : Value) (bs ns : List Nat) (e : Ending) (w' : World) : Prop := ∃ v', e = .returned v' ∧ Bytes w' base v' (bs ++ ns) ∧ Gr v w v' w'
theorem get8 (n : Nat) (W : World) (b : Nat) (hb : W.heap[b]? = some (.cells #[.int .u8 (n : Int), .int .u8 0, .int .u8 0, .int .u8 0, .int .u8 0, .int .u8 0, .int .u8 0, .int .u8 0] 5 (0, 0))) : ∀ j (h : j < [n, 0, 0, 0, 0, 0, 0, 0].length), W.cell? ((⟨b, 0, none⟩ : Addr).add j) = some (bv [n, 0, 0, 0, 0, 0, 0, 0][j]) := fun j h => by
  rw [Addr.add_lit, Nat.zero_add, hp_cell hb]
  match j, h with
  | 0, _ => rfl
  | 1, _ => rfl
  | 2, _ => rfl
  | 3, _ => rfl
  | 4, _ => rfl
  | 5, _ => rfl
  | 6, _ => rfl
  | 7, _ => rfl
theorem get4 (n : Nat) (W : World) (b : Nat) (hb : W.heap[b]? = some (.cells #[.int .u8 (n : Int), .int .u8 0, .int .u8 0, .int .u8 0] 5 (0, 0))) : ∀ j (h : j < [n, 0, 0, 0].length), W.cell? ((⟨b, 0, none⟩ : Addr).add j) = some (bv [n, 0, 0, 0][j]) := fun j h => by
  rw [Addr.add_lit, Nat.zero_add, hp_cell hb]
  match j, h with
  | 0, _ => rfl
  | 1, _ => rfl
  | 2, _ => rfl
  | 3, _ => rfl
set_option maxRecDepth 100000 in
set_option maxHeartbeats 1000000 in
theorem app64 (base n : Nat) (v : Value) (bs : List Nat) (w : World) (hn : n < 256) (hown : Bytes w base v bs) (hbs : bs.length ≤ 100000) (hb : base ≤ w.heap.size) :
    Calls Ybad.prog 8 #[.agg #[], v, .int .u64 (n : Int)] w (AppRet w base v bs [n, 0, 0, 0, 0, 0, 0, 0]) := by
  have xA : Ext w ((w.alloc (.cells #[] 37)).alloc (.cells #[.int .u8 (n : Int), .int .u8 0, .int .u8 0, .int .u8 0, .int .u8 0, .int .u8 0, .int .u8 0, .int .u8 0] 5)) := ((Ext.refl w).alloc _).alloc _
  have hnew := hp_alloc_new (w.alloc (.cells #[] 37)) (.cells #[.int .u8 (n : Int), .int .u8 0, .int .u8 0, .int .u8 0, .int .u8 0, .int .u8 0, .int .u8 0, .int .u8 0] 5)
  rw [hp_alloc_size] at hnew
  obtain ⟨v', w', hrun, hown', hgr⟩ := app_bytes 23 v bs [n, 0, 0, 0, 0, 0, 0, 0] ⟨w.heap.size + 1, 0, none⟩ 8 (hown.ext xA) (get8 n _ _ hnew) hbs (by simp) (by have := xA.le; omega)
  have hrun' : (Builtin.append_ #[23, 23] 23 #[v, .slice (some ⟨w.heap.size + 1, 0, none⟩) 8 8]).run Ybad.prog ((w.alloc (.cells #[] 37)).alloc (.cells #[.int .u8 (n : Int), .int .u8 0, .int .u8 0, .int .u8 0, .int .u8 0, .int .u8 0, .int .u8 0, .int .u8 0] 5)) = .ok v' w' := hrun
  have HR := Hid.intro (And.intro hown' ((Gr.of_ext xA).trans hgr))
  have e1 : (n : Int) / 256 = 0 := by omega
  have e2 : (n : Int) / 65536 = 0 := by omega
  have e3 : (n : Int) / 16777216 = 0 := by omega
  have e4 : (n : Int) / 4294967296 = 0 := by omega
  have e5 : (n : Int) / 1099511627776 = 0 := by omega
  have e6 : (n : Int) / 281474976710656 = 0 := by omega
  have e7 : (n : Int) / 72057594037927936 = 0 := by omega
  clear hrun hown' hgr hown xA hnew
  go_enter Ybad.func8, Ybad.ntmps8
  go_wp2_with (at_builtin; refine Lib.wpList_append_run _ rfl _ _ _ _ rfl _ _ rfl rfl _ _ hrun' ?_)
  go_ret
  exact ⟨_, rfl, HR.out.1, HR.out.2⟩
set_option maxRecDepth 100000 in
set_option maxHeartbeats 1000000 in
theorem app32 (base n : Nat) (v : Value) (bs : List Nat) (w : World) (hn : n < 256) (hown : Bytes w base v bs) (hbs : bs.length ≤ 100000) (hb : base ≤ w.heap.size) :
    Calls Ybad.prog 9 #[.agg #[], v, .int .u32 (n : Int)] w (AppRet w base v bs [n, 0, 0, 0]) := by
  have xA : Ext w ((w.alloc (.cells #[] 37)).alloc (.cells #[.int .u8 (n : Int), .int .u8 0, .int .u8 0, .int .u8 0] 5)) := ((Ext.refl w).alloc _).alloc _
  have hnew := hp_alloc_new (w.alloc (.cells #[] 37)) (.cells #[.int .u8 (n : Int), .int .u8 0, .int .u8 0, .int .u8 0] 5)
  rw [hp_alloc_size] at hnew
  obtain ⟨v', w', hrun, hown', hgr⟩ := app_bytes 23 v bs [n, 0, 0, 0] ⟨w.heap.size + 1, 0, none⟩ 4 (hown.ext xA) (get4 n _ _ hnew) hbs (by simp) (by have := xA.le; omega)
  have hrun' : (Builtin.append_ #[23, 23] 23 #[v, .slice (some ⟨w.heap.size + 1, 0, none⟩) 4 4]).run Ybad.prog ((w.alloc (.cells #[] 37)).alloc (.cells #[.int .u8 (n : Int), .int .u8 0, .int .u8 0, .int .u8 0] 5)) = .ok v' w' := hrun
  have HR := Hid.intro (And.intro hown' ((Gr.of_ext xA).trans hgr))
  have e1 : (n : Int) / 256 = 0 := by omega
  have e2 : (n : Int) / 65536 = 0 := by omega
  have e3 : (n : Int) / 16777216 = 0 := by omega
  clear hrun hown' hgr hown xA hnew
  go_enter Ybad.func9, Ybad.ntmps9
  go_wp2_with (at_builtin; refine Lib.wpList_append_run _ rfl _ _ _ _ rfl _ _ rfl rfl _ _ hrun' ?_)
  go_ret
  exact ⟨_, rfl, HR.out.1, HR.out.2⟩
end Go.Proofs.YbulkckzsDoor
