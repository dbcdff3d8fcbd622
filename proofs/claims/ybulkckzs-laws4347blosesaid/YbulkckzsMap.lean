import Derived.Test.YbulkckzsAdd
import Derived.Maps.Own
import Derived.Maps.OwnOps
import Derived.Maps.OwnSet
set_option linter.unusedVariables false
set_option linter.unusedSimpArgs false
namespace Go.Proofs.Ybulkckzs
open Go.RowKit Go.Maps

theorem law : Keyed Yba.prog 23 := int_keyed Yba.underlying23
theorem zero4 (w : World) : (zeroValue 4).run Yba.prog w = .ok (.bool false) w := by kernel_rfl
/-- A map from uint16 to bool in the block b that reads as D, of at most n entries. -/
def MapAt (w : World) (b n : Nat) (D : DataW Unit) : Prop := w.ownsMap Yba.prog 23 (plainElem (H := Unit) Yba.prog 4) b n D
theorem MapAt.ext {w w' : World} {b n : Nat} {D : DataW Unit} (h : MapAt w b n D) (hx : Ext w w') : MapAt w' b n D := by
  obtain ⟨es, clock, hb, F, hs, hD⟩ := h
  exact ⟨es, clock, hx.some hb, F, hs, hD⟩
theorem MapAt.fr {w w' : World} {bs : List Nat} {b n : Nat} {D : DataW Unit} (h : MapAt w b n D) (hF : Fr bs w w') (hb : b ∉ bs) : MapAt w' b n D := by
  obtain ⟨es, clock, h1, F, hs, hD⟩ := h
  exact ⟨es, clock, hF.some h1 hb, F, hs, hD⟩
theorem MapAt.ne {w : World} {b n x t : Nat} {D : DataW Unit} {c : Array Value} (h : MapAt w b n D) (hx : w.heap[x]? = some (.cells c t (0, 0))) : b ≠ x := fun e => by
  obtain ⟨es, clock, h1, _⟩ := h
  rw [e, hx] at h1
  cases h1
theorem MapAt.drew {w : World} {b n : Nat} {D : DataW Unit} (h : MapAt w b n D) (q : Nat) : MapAt (w.drewN q) b n D := h
theorem MapAt.made (w : World) : MapAt (w.alloc (.map #[] 0)) w.heap.size 0 (.map []) := World.ownsMap_made w _ _ _
def idk (id : Nat) : Lit := .int .u16 (id : Int)
theorem idk_key {id : Nat} (h : id ≤ 65535) : keyOf Yba.prog 23 (.int .u16 (id : Int)) = some (idk id) := keyOf_int_mk Yba.underlying23 (by simp [Lit.wf, IntKind.min, IntKind.max, IntKind.signed, IntKind.bits]; omega)
def lookB (D : DataW Unit) (id : Nat) : Bool := match D.atKey (idk id) (.lit (.bool false)) with
  | .lit (.bool c) => c
  | _ => false
theorem plain_bool_inv' {P : Program} {e : TypeId} (he : P.underlying e = some .bool) {v : Value} {z : DataW Unit × List MemPlace} (h : plainElem (H := Unit) P e v = some z) : ∃ c, v = .bool c ∧ z = (.lit (.bool c), []) := by
  unfold plainElem at h
  rw [he] at h
  cases v <;> simp at h
  exact ⟨_, rfl, h.symm⟩
theorem MapAt.look {w : World} {b n : Nat} {D : DataW Unit} (h : MapAt w b n D) {id : Nat} (hid : id ≤ 65535) : (Instr.lookup 49 (.map (some b)) (.int .u16 (id : Int)) false).run Yba.prog w = .ok (.bool (lookB D id)) w := by
  obtain ⟨v, ps, hrun, hv⟩ := World.ownsMap.lookup h law Yba.underlying49 (zero4 w) (plainElem_bool Yba.underlying4 false) (idk_key hid)
  obtain ⟨c, rfl, hc⟩ := plain_bool_inv' Yba.underlying4 hv
  simp only [Prod.mk.injEq] at hc
  rw [hrun]
  unfold lookB
  rw [hc.1]
theorem MapAt.len {w : World} {b n : Nat} {D : DataW Unit} (h : MapAt w b n D) (ty : TypeId) : (Builtin.len_ #[49] ty #[.map (some b)]).run Yba.prog w = .ok (.int .i64 (Maps.size D)) w := World.ownsMap.len h Yba.underlying49 ty
theorem MapAt.upd {w : World} {b n : Nat} {D : DataW Unit} (h : MapAt w b n D) {id : Nat} (hid : id ≤ 65535) (hn : n < 100000) (v : Bool) : ∃ w', (Instr.mapUpdate 49 (.map (some b)) (.int .u16 (id : Int)) (.bool v)).run Yba.prog w = .ok () w' ∧ MapAt w' b (n + 1) (D.put (idk id) (.lit (.bool v))) ∧ Fr [b] w w' := by
  obtain ⟨w', h1, h2, h3⟩ := World.ownsMap.update h law Yba.underlying49 (by unfold maxLen; omega) (idk_key hid) (plainElem_bool Yba.underlying4 v)
  exact ⟨w', h1, h2, Fr.of_grown h3 _ (fun g hg => .inl (by injection hg with e; simp [e]))⟩

/-- The domain's cells that lose works on. -/
structure DomAt (w : World) (db : Nat) (lost : Value) (n : Nat) (x : Int) : Prop where
  ex : ∃ C, w.heap[db]? = some (.cells C 54 (0, 0)) ∧ C[7]? = some (.int .u64 (n : Int)) ∧ C[8]? = some (.int .i64 x) ∧ C[9]? = some (.pointer none) ∧ C[10]? = some lost
theorem DomAt.ext {w w' : World} {db n : Nat} {lost : Value} {x : Int} (h : DomAt w db lost n x) (hx : Ext w w') : DomAt w' db lost n x := by
  obtain ⟨C, h1, h2⟩ := h.ex
  exact ⟨C, hx.some h1, h2⟩
theorem DomAt.fr {w w' : World} {bs : List Nat} {db n : Nat} {lost : Value} {x : Int} (h : DomAt w db lost n x) (hF : Fr bs w w') (hb : db ∉ bs) : DomAt w' db lost n x := by
  obtain ⟨C, h1, h2⟩ := h.ex
  exact ⟨C, hF.some h1 hb, h2⟩
theorem DomAt.cells {w : World} {db n : Nat} {lost : Value} {x : Int} (h : DomAt w db lost n x) :
    w.cell? ⟨db, 7, none⟩ = some (.int .u64 (n : Int)) ∧ w.cell? ⟨db, 8, none⟩ = some (.int .i64 x) ∧ w.cell? ⟨db, 9, none⟩ = some (.pointer none) ∧ w.cell? ⟨db, 10, none⟩ = some lost ∧ ∀ o, w.frozen? ⟨db, o, none⟩ = false := by
  obtain ⟨C, h1, h2, h3, h4, h5⟩ := h.ex
  exact ⟨by rw [hp_cell h1]; exact h2, by rw [hp_cell h1]; exact h3, by rw [hp_cell h1]; exact h4, by rw [hp_cell h1]; exact h5, fun o => hp_frozen h1 o⟩
theorem DomAt.setLost {w : World} {db n : Nat} {lost : Value} {x : Int} (h : DomAt w db lost n x) (v : Value) : DomAt (w.setCell ⟨db, 10, none⟩ v) db v n x := by
  obtain ⟨C, h1, h2, h3, h4, h5⟩ := h.ex
  have hs : 10 < C.size := (Array.getElem?_eq_some_iff.1 h5).1
  refine ⟨_, hp_set_same _ _ _ _ _ _ _ h1, ?_, ?_, ?_, ?_⟩ <;> rw [Array.getElem?_setIfInBounds] <;> simp [h2, h3, h4, hs]
theorem DomAt.setSeen {w : World} {db n : Nat} {lost : Value} {x : Int} (h : DomAt w db lost n x) (n' : Nat) (x' : Int) : DomAt (((w.setCell ⟨db, 7, none⟩ (.int .u64 (n' : Int))).setCell ⟨db, 8, none⟩ (.int .i64 x')).setCell ⟨db, 9, none⟩ (.pointer none)) db lost n' x' := by
  obtain ⟨C, h1, h2, h3, h4, h5⟩ := h.ex
  have hs : 10 < C.size := (Array.getElem?_eq_some_iff.1 h5).1
  have hs9 : 9 < C.size := by omega
  have hs8 : 8 < C.size := by omega
  have hs7 : 7 < C.size := by omega
  refine ⟨_, hp_set_same _ _ _ _ _ _ _ (hp_set_same _ _ _ _ _ _ _ (hp_set_same _ _ _ _ _ _ _ h1)), ?_, ?_, ?_, ?_⟩ <;> simp [Array.getElem?_setIfInBounds, h2, h3, h4, hs, hs7, hs8, hs9]
  exact (Array.getElem?_eq_some_iff.1 h5).2
theorem set3_fr (w : World) (db n' : Nat) (x' : Int) : Fr [db] w (((w.setCell ⟨db, 7, none⟩ (.int .u64 (n' : Int))).setCell ⟨db, 8, none⟩ (.int .i64 x')).setCell ⟨db, 9, none⟩ (.pointer none)) :=
  (((Fr.refl _ w).set _ _ (.inl (by simp))).set _ _ (.inl (by simp))).set _ _ (.inl (by simp))
end Go.Proofs.Ybulkckzs
