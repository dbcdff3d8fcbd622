import Derived.Test.YbulkckzsLaw
set_option linter.unusedVariables false
set_option linter.unusedSimpArgs false
namespace Go.Proofs.Ybulkckzs
open Go.RowKit Go.Maps

def tcells (d : Int) : Array Value := #[.int .u64 (addN d : Int), .int .i64 (addX d), .pointer none]
/-- What stands around the domain: sb, ab: the cells of seen and at. -/
structure LTail (w : World) (hv : Int) (n N : Nat) (D D' : DataW Unit) (db B sb ab : Nat) (s t : Int) (n' : Nat) (x' : Int) (W : World) : Prop where
  inv : LInv w hv n D W
  dom : DomAt W db (.map (some B)) n' x'
  lost : MapAt W B N D'
  sc : W.heap[sb]? = some (.cells (tcells s) 46 (0, 0))
  ac : W.heap[ab]? = some (.cells (tcells t) 46 (0, 0))
  hB : w.heap.size + 1 < B
theorem LTail.ext {w W W' : World} {hv : Int} {n N : Nat} {D D' : DataW Unit} {db B sb ab : Nat} {s t : Int} {n' : Nat} {x' : Int} (h : LTail w hv n N D D' db B sb ab s t n' x' W) (hx : Ext W W') : LTail w hv n N D D' db B sb ab s t n' x' W' :=
  ⟨h.inv.ext hx, h.dom.ext hx, h.lost.ext hx, hx.some h.sc, hx.some h.ac, h.hB⟩
theorem LTail.exp {w W : World} {hv : Int} {n N : Nat} {D D' : DataW Unit} {db B sb ab : Nat} {s t : Int} {n' : Nat} {x' : Int} (h : LTail w hv n N D D' db B sb ab s t n' x' W) {id : Nat} (hid : id ≤ 65535) (hn : n < 10000) :
    ∃ w7, (Instr.mapUpdate 49 (.map (some (w.heap.size + 1))) (.int .u16 (id : Int)) (.bool true)).run Yba.prog W = .ok () w7 ∧ LTail w hv (n + 1) N (D.put (idk id) (.lit (.bool true))) D' db B sb ab s t n' x' w7 ∧ Fr [w.heap.size + 1] W w7 := by
  obtain ⟨w7, hr, hm, hf⟩ := h.inv.ex.upd hid (by omega) true
  obtain ⟨C, hC, _⟩ := h.dom.ex
  exact ⟨w7, hr, ⟨h.inv.put hm hf, h.dom.fr hf (by simpa using Ne.symm (h.inv.ex.ne hC)), h.lost.fr hf (by have := h.hB; simp; omega), hf.some h.sc (by simpa using Ne.symm (h.inv.ex.ne h.sc)), hf.some h.ac (by simpa using Ne.symm (h.inv.ex.ne h.ac)), h.hB⟩, hf⟩
/-- Ahead of lose. -/
structure LPre (w : World) (hv : Int) (hm : Bool) (n : Nat) (D : DataW Unit) (v15 : Value) (db sb ab : Nat) (s t : Int) (W : World) : Prop where
  inv : LInv w hv n D W
  dom : DomAt W db v15 (addN s) (addX s)
  mp : if hm then v15 = .map (some (w.heap.size + 1 + 1)) ∧ MapAt W (w.heap.size + 1 + 1) n D else v15 = .map none ∧ n = 0 ∧ D = .map []
  sc : W.heap[sb]? = some (.cells (tcells s) 46 (0, 0))
  ac : W.heap[ab]? = some (.cells (tcells t) 46 (0, 0))
  hdb : w.heap.size + 1 < db
theorem lose_both {w W : World} {hm : Bool} {n : Nat} {D : DataW Unit} {v15 : Value} {db sb ab : Nat} {s t : Int} (h : LPre w 1 hm n D v15 db sb ab s t W) {id : Nat} (hid : id ≤ 65535) (hn : n ≤ 1024) :
    Calls Yba.prog 5 #[.pointer (some ⟨w.heap.size, 0, none⟩), .pointer (some ⟨db, 0, none⟩), .int .u16 (id : Int), tv (addN t) (addX t)] W fun e w' => e = .returned (.tuple #[]) ∧ ∃ B, LTail w 1 n (n + 1) D (D.put (idk id) (.lit (.bool true))) db B sb ab s t (if s < t then addN t else addN s) (if s < t then addX t else addX s) w' := by
  have c3 := h.inv.cell
  have hsd : ∀ {x : Nat} {c : Array Value}, W.heap[x]? = some (.cells c 46 (0, 0)) → x ≠ db := fun hx e => by
    obtain ⟨C, hC, _⟩ := h.dom.ex
    rw [e, hC] at hx
    injection hx with hx
    injection hx with _ e2 _
    exact absurd e2 (by decide)
  have hN : laterN (addN t) (addX t) (addN s) (addX s) = if s < t then addN t else addN s := by unfold laterN; rw [after_add]; simp
  have hX : laterX (addN t) (addX t) (addN s) (addX s) = if s < t then addX t else addX s := by unfold laterX; rw [after_add]; simp
  have key : ∀ B w', w.heap.size + 1 < B → (∀ {x : Nat} {c : Array Value}, W.heap[x]? = some (.cells c 46 (0, 0)) → x ≠ B) → LoseOn W db B n D id (laterN (addN t) (addX t) (addN s) (addX s)) (laterX (addN t) (addX t) (addN s) (addX s)) w' →
      LTail w 1 n (n + 1) D (D.put (idk id) (.lit (.bool true))) db B sb ab s t (if s < t then addN t else addN s) (if s < t then addX t else addX s) w' := fun B w' hB hne hl => by
    obtain ⟨hd, hm', hf⟩ := hl
    rw [hN, hX] at hd
    have hdb := h.hdb
    exact ⟨h.inv.fr hf (fun x hx => by simp at hx; omega), hd, hm', hf.some h.sc (by simp [hsd h.sc, hne h.sc]), hf.some h.ac (by simp [hsd h.ac, hne h.ac]), hB⟩
  have hmp := h.mp
  cases hm with
  | true =>
    obtain ⟨rfl, hM⟩ := hmp
    refine (lose_some w.heap.size db id (addN t) (addN s) (w.heap.size + 1 + 1) n (addX t) (addX s) D W hid (addN_lt t) (addN_lt s) (by omega) c3 h.dom hM).mono ?_
    rintro e w' ⟨rfl, hl⟩
    exact ⟨rfl, _, key _ w' (by omega) (fun hx => Ne.symm (hM.ne hx)) hl⟩
  | false =>
    obtain ⟨rfl, rfl, rfl⟩ := hmp
    have hsz := hp_lt h.sc
    have hsz2 := h.inv.ex
    refine (lose_nil w.heap.size db id (addN t) (addN s) (addX t) (addX s) W hid (addN_lt t) (addN_lt s) c3 h.dom).mono ?_
    rintro e w' ⟨rfl, hl⟩
    refine ⟨rfl, _, key _ w' ?_ (fun hx => ?_) hl⟩
    · have := h.inv.bel.size
      obtain ⟨C, hC, _⟩ := h.inv.dec
      obtain ⟨es, clock, hb, _⟩ := h.inv.ex
      have := (Array.getElem?_eq_some_iff.1 hb).1
      omega
    · have := hp_lt hx; omega
end Go.Proofs.Ybulkckzs
