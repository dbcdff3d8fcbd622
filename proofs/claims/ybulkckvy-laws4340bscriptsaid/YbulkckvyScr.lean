import Derived.Test.YbulkckvyIdx8
import Derived.Test.YbulkckvyBLaw
set_option linter.unusedVariables false
set_option linter.unusedSimpArgs false
namespace Go.Proofs.Ybulkckvy
open Go.RowKit

/-- The row 'present' in the block pb. -/
structure BRow (m pb : Nat) (P : Nat → Bool) (wr : World) : Prop where
  row : ∃ C, wr.heap[pb]? = some (.cells C 4 (0, 0)) ∧ C.size = m ∧ ∀ i, i < m → C[i]? = some (.bool (P i))
theorem BRow.ext {m pb : Nat} {P : Nat → Bool} {w w' : World} (h : BRow m pb P w) (hx : Ext w w') : BRow m pb P w' := by
  obtain ⟨C, h1, h2, h3⟩ := h.row
  exact ⟨C, hx.some h1, h2, h3⟩
theorem BRow.cell {m pb : Nat} {P : Nat → Bool} {w : World} (h : BRow m pb P w) {j : Nat} (hj : j < m) : w.cell? ⟨pb, j, none⟩ = some (.bool (P j)) ∧ w.frozen? ⟨pb, j, none⟩ = false := by
  obtain ⟨C, h1, h2, h3⟩ := h.row
  exact ⟨by rw [hp_cell h1]; exact h3 j hj, hp_frozen h1 _⟩
theorem BRow.set {m pb : Nat} {P : Nat → Bool} {w : World} (h : BRow m pb P w) {j : Nat} (hj : j < m) (b : Bool) : BRow m pb (upd P j b) (w.setCell ⟨pb, j, none⟩ (.bool b)) := by
  obtain ⟨C, h1, h2, h3⟩ := h.row
  refine ⟨_, hp_set_same _ _ _ _ _ _ _ h1, by simp [h2], fun i hi => ?_⟩
  rw [Array.getElem?_setIfInBounds]
  by_cases e : j = i
  · subst e; simp [upd, h2, hj]
  · rw [if_neg e, h3 i hi]; simp [upd, Ne.symm e]
/-- The state of the script. -/
structure BInv (w : World) (m : Nat) (P : Nat → Bool) (wr : World) : Prop where
  idx : ∃ F, IdxAt wr w.heap.size (w.heap.size + 1) (KP m P) F
  row : BRow m (w.heap.size + 1 + 1) P wr
  bel : Below w.heap.size w wr
theorem BInv.ext {w wr w' : World} {m : Nat} {P : Nat → Bool} (h : BInv w m P wr) (hx : Ext wr w') : BInv w m P w' := by
  obtain ⟨F, hI⟩ := h.idx
  exact ⟨⟨F, hI.ext hx⟩, h.row.ext hx, h.bel.trans (hx.below h.bel.size)⟩
theorem BInv.fr {w wr w2 w3 : World} {m : Nat} {P : Nat → Bool} {F : List Nat} (h : BInv w m P wr) (hI : IdxAt wr w.heap.size (w.heap.size + 1) (KP m P) F) (hx : Ext wr w2) (hF : Fr ((w.heap.size + 1) :: F) w2 w3) : BRow m (w.heap.size + 1 + 1) P w3 ∧ Below w.heap.size w w3 := by
  obtain ⟨C, h1, h2, h3⟩ := h.row.row
  have hsz := h.bel.size
  have hle := hx.le
  refine ⟨⟨C, hF.some (hx.some h1) (fun hm => ?_), h2, h3⟩, (h.bel.trans (hx.below hsz)).trans (hF.below (by omega) (fun x hm => ?_))⟩
  · rcases List.mem_cons.1 hm with e | e
    · omega
    · exact (hI.ext hx).out (hx.some h1) (by decide) e
  · rcases List.mem_cons.1 hm with e | e
    · omega
    · exact hI.ge x e
theorem BInv.put {w w3 : World} {m j : Nat} {P : Nat → Bool} {F : List Nat} {b : Bool} (hI : IdxAt w3 w.heap.size (w.heap.size + 1) (KP m (upd P j b)) F) (hR : BRow m (w.heap.size + 1 + 1) P w3) (hB : Below w.heap.size w w3) (hj : j < m) : BInv w m (upd P j b) (w3.setCell ⟨w.heap.size + 1 + 1, j, none⟩ (.bool b)) := by
  obtain ⟨C, h1, h2, h3⟩ := hR.row
  exact ⟨⟨F, hI.carry (by omega) (hI.out h1 (by decide)) (Fr.one w3 ⟨w.heap.size + 1 + 1, j, none⟩ _)⟩, hR.set hj b, hB.setCell (by simp; omega) _⟩
theorem BInv.ins {w wr w2 w3 : World} {m j : Nat} {P : Nat → Bool} {F : List Nat} {e : Ending} (h : BInv w m P wr) (hI : IdxAt wr w.heap.size (w.heap.size + 1) (KP m P) F) (hx : Ext wr w2) (hd : IdxIns w2 w.heap.size (w.heap.size + 1) (KP m P) F (bkey j) e w3) (hm : m ≤ 10000) (hj : j < m) (hp : P j = false) :
    e = .returned (.tuple #[]) ∧ BInv w m (upd P j true) (w3.setCell ⟨w.heap.size + 1 + 1, j, none⟩ (.bool true)) ∧ w3.cell? ⟨w.heap.size + 1 + 1, j, none⟩ = some (.bool false) ∧ w3.frozen? ⟨w.heap.size + 1 + 1, j, none⟩ = false := by
  obtain ⟨he, F', hI', hF, hG⟩ := hd
  obtain ⟨hR, hB⟩ := h.fr hI hx hF
  rw [KP_ins hm hj hp] at hI'
  refine ⟨he, BInv.put hI' hR hB hj, ?_, (hR.cell hj).2⟩
  rw [(hR.cell hj).1, hp]
/-- What stands behind Delete, the cursor's copy and the turn of 'present'. -/
structure BCur (w : World) (m : Nat) (P : Nat → Bool) (j b i cb : Nat) (W : World) : Prop where
  inv : BInv w m P W
  cur : CurAt W w.heap.size (w.heap.size + 1) (KP m P) (bkey j) (.agg #[.pointer (some ⟨w.heap.size + 1, 0, none⟩), .pointer (some ⟨b, 0, none⟩), .int .i64 (i : Int)])
  cell : W.heap[cb]? = some (.cells #[.pointer (some ⟨w.heap.size + 1, 0, none⟩), .pointer (some ⟨b, 0, none⟩), .int .i64 (i : Int)] 55 (0, 0))
theorem BInv.del {w wr w2 w3 : World} {m j : Nat} {P : Nat → Bool} {F : List Nat} {e : Ending} (h : BInv w m P wr) (hI : IdxAt wr w.heap.size (w.heap.size + 1) (KP m P) F) (hx : Ext wr w2) (hd : IdxDel w2 w.heap.size (w.heap.size + 1) (KP m P) F (bkey j) e w3) (hm : m ≤ 10000) (hj : j < m) :
    ∃ b i : Nat, e = .returned (.tuple #[.agg #[.pointer (some ⟨w.heap.size + 1, 0, none⟩), .pointer (some ⟨b, 0, none⟩), .int .i64 (i : Int)], .bool (P j)]) ∧
      BCur w m (upd P j false) j b i w3.heap.size ((w3.alloc (.cells #[.pointer (some ⟨w.heap.size + 1, 0, none⟩), .pointer (some ⟨b, 0, none⟩), .int .i64 (i : Int)] 55)).setCell ⟨w.heap.size + 1 + 1, j, none⟩ (.bool false)) ∧
      (∀ o, (w3.alloc o).cell? ⟨w.heap.size + 1 + 1, j, none⟩ = some (.bool (P j))) ∧ (∀ o, (w3.alloc o).frozen? ⟨w.heap.size + 1 + 1, j, none⟩ = false) := by
  obtain ⟨b, i, F', he, hI', hc, hF, hG⟩ := hd
  obtain ⟨hR, hB⟩ := h.fr hI hx hF
  unfold delIf at hI' hc
  rw [KP_del hm hj] at hI' hc
  rw [KP_at hm hj] at he
  have xA : ∀ o, Ext w3 (w3.alloc o) := fun o => (Ext.refl w3).alloc o
  obtain ⟨C, h1, h2, h3⟩ := hR.row
  have hlt := hp_lt h1
  refine ⟨b, i, he, ⟨BInv.put (hI'.ext (xA _)) (hR.ext (xA _)) (hB.trans ((xA _).below hB.size)) hj, (hc.ext (xA _)).carry2 ((xA _).some h1) (by decide) (Fr.one _ ⟨w.heap.size + 1 + 1, j, none⟩ _), ?_⟩, fun o => ((hR.ext (xA o)).cell hj).1, fun o => ((hR.ext (xA o)).cell hj).2⟩
  rw [hp_set_ne _ _ _ _ (by simp; omega)]
  exact hp_alloc_new _ _
theorem upd_same (P : Nat → Bool) (j : Nat) (b : Bool) : upd P j b j = b := by simp [upd]
/-- The start: the empty root, the index, 'present'. -/
theorem info4 : (Yba.prog.info? 4).map (fun i => (i.zero, i.size, i.bytes)) = some (some (.bool false), 1, 1) := by kernel_rfl
theorem make4 (n : Nat) (hn : n ≤ 10000) : ∃ C : Array Value, C.size = n ∧ (∀ i, i < n → C[i]? = some (.bool false)) ∧ ∀ w, (Instr.makeSlice 49 (.int .i64 (n : Int)) (.int .i64 (n : Int))).run Yba.prog w = .ok (.slice (some ⟨w.heap.size, 0, none⟩) n n) (w.alloc (.cells C 4)) := by
  obtain ⟨i, hi, hzz⟩ := Option.map_eq_some_iff.1 info4
  simp only [Prod.mk.injEq] at hzz
  obtain ⟨hz0, hs, hby⟩ := hzz
  refine ⟨madeCells (Value.bool false).cells ((n : Int).toNat * i.size), ?_, fun j hj => ?_, fun w => ?_⟩
  · rw [hs]; simp [madeCells, Value.cells]
  · rw [hs]; simp [madeCells, Value.cells, hj, Nat.mod_one]
  · have := run_make (P := Yba.prog) w 49 4 i _ Yba.underlying49 hi hz0 .i64 .i64 n n (by omega) (by omega) (by rw [hby]; omega) (by omega)
    simpa using this
theorem BInv.start (w : World) (m : Nat) (C : Array Value) (h1 : C.size = m) (h2 : ∀ i, i < m → C[i]? = some (.bool false)) :
    BInv w m (fun _ => false) (((w.alloc (.cells #[.slice none 0 0, .pointer none, .pointer none, .slice none 0 0, .slice none 0 0] 44)).alloc (.cells #[.string ⟨#[]⟩, .pointer none, .slice none 0 0, .slice none 0 0, .bool true, .bool true, .pointer (some ⟨w.heap.size, 0, none⟩)] 48)).alloc (.cells C 4)) := by
  have s1 := hp_alloc_size w (.cells #[.slice none 0 0, .pointer none, .pointer none, .slice none 0 0, .slice none 0 0] 44)
  have s2 := hp_alloc_size (w.alloc (.cells #[.slice none 0 0, .pointer none, .pointer none, .slice none 0 0, .slice none 0 0] 44)) (.cells #[.string ⟨#[]⟩, .pointer none, .slice none 0 0, .slice none 0 0, .bool true, .bool true, .pointer (some ⟨w.heap.size, 0, none⟩)] 48)
  have hx : Ext w (((w.alloc (.cells #[.slice none 0 0, .pointer none, .pointer none, .slice none 0 0, .slice none 0 0] 44)).alloc (.cells #[.string ⟨#[]⟩, .pointer none, .slice none 0 0, .slice none 0 0, .bool true, .bool true, .pointer (some ⟨w.heap.size, 0, none⟩)] 48)).alloc (.cells C 4)) := (((Ext.refl w).alloc _).alloc _).alloc _
  have e1 := (((Ext.refl _).alloc (.cells #[.string ⟨#[]⟩, .pointer none, .slice none 0 0, .slice none 0 0, .bool true, .bool true, .pointer (some ⟨w.heap.size, 0, none⟩)] 48)).alloc (.cells C 4)).some (hp_alloc_new w (.cells #[.slice none 0 0, .pointer none, .pointer none, .slice none 0 0, .slice none 0 0] 44))
  have e2 := ((Ext.refl _).alloc (.cells C 4)).some (hp_alloc_new (w.alloc (.cells #[.slice none 0 0, .pointer none, .pointer none, .slice none 0 0, .slice none 0 0] 44)) (.cells #[.string ⟨#[]⟩, .pointer none, .slice none 0 0, .slice none 0 0, .bool true, .bool true, .pointer (some ⟨w.heap.size, 0, none⟩)] 48))
  have e3 := hp_alloc_new ((w.alloc (.cells #[.slice none 0 0, .pointer none, .pointer none, .slice none 0 0, .slice none 0 0] 44)).alloc (.cells #[.string ⟨#[]⟩, .pointer none, .slice none 0 0, .slice none 0 0, .bool true, .bool true, .pointer (some ⟨w.heap.size, 0, none⟩)] 48)) (.cells C 4)
  rw [s1] at e2
  rw [s2, s1] at e3
  refine ⟨⟨_, ⟨w.heap.size, [⟨w.heap.size, .slice none 0 0, []⟩], [], _, _, _, _, e2, ⟨⟨rfl, List.Pairwise.nil, fun h => by simp [kssOf] at h, fun c hc => by simp [kssOf] at hc; simp [hc]⟩, .inl ⟨_, rfl, rfl, rfl, ⟨e1, ⟨rfl, .inl ⟨rfl, rfl⟩⟩, Nat.le_refl _⟩, rfl⟩, hx.le⟩, ?_⟩⟩, ⟨C, e3, h1, h2⟩, hx⟩
  rw [KP_none]; simp [keysOf, kssOf]
end Go.Proofs.Ybulkckvy
