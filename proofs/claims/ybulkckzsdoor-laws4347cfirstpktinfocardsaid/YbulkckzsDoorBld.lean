import Derived.Test.YbulkckzsDoorMsg
set_option linter.unusedVariables false
set_option linter.unusedSimpArgs false
namespace Go.Proofs.YbulkckzsDoor
open Go.RowKit

theorem lay_of {C : Array Value} : ∀ (ms : List Msg) (o : Nat), (∀ i (h : i < (encs ms).length), C[o + i]? = some (bv (encs ms)[i])) → Lay C o (ms.map mrec)
  | [], o, h => trivial
  | m :: ms, o, h => by
    have hl := menc_len m
    have hal := al_ge (mrec m).a
    have hrk := mrec_ok m
    have hb : 16 ≤ (mrec m).a ∧ (mrec m).a ≤ 36 ∧ (mrec m).l < 128 ∧ (mrec m).t < 128 := by unfold RK at hrk; omega
    have hh : ∀ j (x : Nat), (hdr (mrec m).a (mrec m).l (mrec m).t)[j]? = some x → C[o + j]? = some (bv x) := fun j x hx => by
      have hj : j < 16 := by have := (List.getElem?_eq_some_iff.1 hx).1; simpa [hdr] using this
      have e : (encs (m :: ms))[j]? = some x := by
        simp only [encs, menc, enc]
        rw [List.getElem?_append_left (by simp [hdr]; omega), List.getElem?_append_left (by simp [hdr]; omega), List.getElem?_append_left (by simp [hdr]; omega)]
        exact hx
      obtain ⟨h1, h2⟩ := List.getElem?_eq_some_iff.1 e
      rw [h j h1, h2]
    refine ⟨⟨hh 0 _ rfl, fun j h1 h2 => ?_, hh 8 _ rfl, fun j h1 h2 => ?_, hh 12 _ rfl, fun j h1 h2 => ?_⟩, hb, lay_of ms _ (fun i hi => ?_)⟩
    · refine hh j 0 ?_
      match j, h1, h2 with
      | 1, _, _ => rfl
      | 2, _, _ => rfl
      | 3, _, _ => rfl
      | 4, _, _ => rfl
      | 5, _, _ => rfl
      | 6, _, _ => rfl
      | 7, _, _ => rfl
    · refine hh j 0 ?_
      match j, h1, h2 with
      | 9, _, _ => rfl
      | 10, _, _ => rfl
      | 11, _, _ => rfl
    · refine hh j 0 ?_
      have : j = 13 ∨ j = 14 ∨ j = 15 := by omega
      rcases this with rfl | rfl | rfl <;> rfl
    · have hlt : al (mrec m).a + i < (encs (m :: ms)).length := by simp [encs, hl]; omega
      have := h (al (mrec m).a + i) hlt
      rw [← Nat.add_assoc] at this
      rw [this]
      congr 2
      have e : (encs (m :: ms))[al (mrec m).a + i]? = (encs ms)[i]? := by
        simp only [encs]
        rw [List.getElem?_append_right (by omega)]
        congr 1; omega
      rw [List.getElem?_eq_getElem hlt, List.getElem?_eq_getElem hi] at e
      exact Option.some.inj e
/-- The state of zzs4347cbuild's loop: the result's cell, the want's cell, the bytes. -/
structure BI (w : World) (v4 : Value) (bs : List Nat) (h l : Int) (z : Option Addr) (wr : World) : Prop where
  res : wr.heap[w.heap.size]? = some (.cells #[.int .u64 0, .int .u64 0, .pointer none] 31 (0, 0))
  want : wr.heap[w.heap.size + 1]? = some (.cells #[.int .u64 h, .int .u64 l, .pointer z] 31 (0, 0))
  by_ : Bytes wr w.heap.size v4 bs
  ext : Ext w wr
theorem BI.alloc {w wr w' : World} {v4 : Value} {bs : List Nat} {h l : Int} {z : Option Addr} (hI : BI w v4 bs h l z wr) (hx : Ext wr w') : BI w v4 bs h l z w' :=
  ⟨hx.some hI.res, hx.some hI.want, hI.by_.ext hx, hI.ext.trans hx⟩
theorem BI.ne {w wr : World} {v4 : Value} {bs : List Nat} {h l : Int} {z : Option Addr} (hI : BI w v4 bs h l z wr) {b t : Nat} {c : Array Value} (hb : wr.heap[b]? = some (.cells c t (0, 0))) (ht : t ≠ 5) : v4.ownBlock ≠ some b := fun e => by
  obtain ⟨c', hc'⟩ := own_ty hI.by_ e
  rw [hb] at hc'
  injection hc' with hc'
  injection hc' with _ q _
  exact ht q
theorem BI.ge {w wr : World} {v4 : Value} {bs : List Nat} {h l : Int} {z : Option Addr} (hI : BI w v4 bs h l z wr) {b : Nat} (hb : v4.ownBlock = some b) : w.heap.size ≤ b ∧ b < wr.heap.size := by
  obtain ⟨c', hc'⟩ := own_ty hI.by_ hb
  refine ⟨?_, hp_lt hc'⟩
  rcases hI.by_.2 with ⟨q, _⟩ | ⟨g, cap, cur, q, hg, _⟩
  · rw [q] at hb; cases hb
  · rw [q] at hb
    have : g = b := by injection hb
    omega
theorem BI.put {w wr w' : World} {v4 v' : Value} {bs bs' : List Nat} {h l : Int} {z : Option Addr} (hI : BI w v4 bs h l z wr) (hG : Gr v4 wr v' w') (hB : Bytes w' w.heap.size v' bs') : BI w v' bs' h l z w' := by
  refine ⟨hG.keep hI.res (hI.ne hI.res (by decide)), hG.keep hI.want (hI.ne hI.want (by decide)), hB, ?_⟩
  have h1 : Fr [] w wr := Fr.of_ext hI.ext []
  exact (h1.trans' hG.fr (fun x hx => .inr (hI.ge (Option.mem_toList.1 hx)).1)).ext
theorem BI.store {w wr : World} {v4 : Value} {bs : List Nat} {h l : Int} {z : Option Addr} (hI : BI w v4 bs h l z wr) (h' l' : Int) (z' : Option Addr) :
    BI w v4 bs h' l' z' (((wr.setCell ⟨w.heap.size + 1, 0, none⟩ (.int .u64 h')).setCell ⟨w.heap.size + 1, 1, none⟩ (.int .u64 l')).setCell ⟨w.heap.size + 1, 2, none⟩ (.pointer z')) := by
  obtain ⟨hput, hfr⟩ := addr_put h' l' z' hI.want rfl
  refine ⟨hfr.some hI.res (by simp), hput, owns_fr hI.by_ hfr (fun g hg hm => ?_), ((hI.ext.set _ _ (by simp)).set _ _ (by simp)).set _ _ (by simp)⟩
  have e : g = w.heap.size + 1 := by simpa using hm
  subst e
  exact hI.ne hI.want (by decide) hg
theorem BI.cells {w wr : World} {v4 : Value} {bs : List Nat} {h l : Int} {z : Option Addr} (hI : BI w v4 bs h l z wr) :
    wr.cell? ⟨w.heap.size + 1, 0, none⟩ = some (.int .u64 h) ∧ wr.cell? ⟨w.heap.size + 1, 1, none⟩ = some (.int .u64 l) ∧ wr.cell? ⟨w.heap.size + 1, 2, none⟩ = some (.pointer z) ∧ ∀ o, wr.frozen? ⟨w.heap.size + 1, o, none⟩ = false :=
  ⟨by rw [hp_cell hI.want]; rfl, by rw [hp_cell hI.want]; rfl, by rw [hp_cell hI.want]; rfl, fun o => hp_frozen hI.want o⟩
/-- The message's copy. -/
theorem msg_data {W : World} {mb : Nat} {m : Msg} (h : W.heap[mb]? = some (.cells (mcells m) 45 (0, 0))) (k : Nat) (hk : k ≤ 16) : DataAt W mb 2 ((ad16 m.a).take k) := by
  refine ⟨_, _, _, h, fun j hj => ?_⟩
  have hj16 : j < 16 := by simp [ad16] at hj; omega
  rw [List.getElem_take]
  have hc : j = 0 ∨ j = 1 ∨ j = 2 ∨ j = 3 ∨ j = 4 ∨ j = 5 ∨ j = 6 ∨ j = 7 ∨ j = 8 ∨ j = 9 ∨ j = 10 ∨ j = 11 ∨ j = 12 ∨ j = 13 ∨ j = 14 ∨ j = 15 := by omega
  rcases hc with rfl | rfl | rfl | rfl | rfl | rfl | rfl | rfl | rfl | rfl | rfl | rfl | rfl | rfl | rfl | rfl <;> rfl
theorem Bytes.data {W : World} {base : Nat} {v : Value} {ds : List Nat} (h : Bytes W base v ds) (h0 : 0 < ds.length) : ∃ g c, v = .slice (some ⟨g, 0, none⟩) ds.length c ∧ DataAt W g 0 ds := by
  rcases h.2 with ⟨_, q⟩ | ⟨g, cap, cur, rfl, _, hc, _, _, _, ht⟩
  · omega
  · refine ⟨g, cap, rfl, _, _, _, hc, fun j hj => ?_⟩
    rw [Nat.zero_add, ← Array.getElem?_toList, ← List.getElem?_take_of_lt (i := j) (j := ds.length * 1) (by omega), ht]
    simp [hj]
end Go.Proofs.YbulkckzsDoor
