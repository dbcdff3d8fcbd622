import Derived.Test.YbulkckvyAt
set_option linter.unusedVariables false
set_option linter.unusedSimpArgs false
namespace Go.Proofs.Ybulkckvy
open Go.RowKit

/-- The leaf where a seek of k ends. -/
theorem seek_fits {ls : List Leaf} {ss : List ByteArray} (h : Good (kssOf ls) ss) (k : ByteArray) : ∃ A l B, ls = A ++ l :: B ∧ A.length = pos k ss ∧ (∀ x ∈ keysOf A, klt x k = true) ∧ (∀ x ∈ keysOf B, klt x k = false) := by
  have hl : ss.length + 1 = ls.length := by have := h.len; simpa [kssOf] using this
  have hi := pos_le k ss
  have hlt : pos k ss < ls.length := by omega
  have hsplit : ls = ls.take (pos k ss) ++ ls[pos k ss] :: ls.drop (pos k ss + 1) := by
    rw [← List.drop_eq_getElem_cons hlt, List.take_append_drop]
  have hA : (ls.take (pos k ss)).length = pos k ss := by rw [List.length_take]; omega
  have hl1 : (kssOf (ls.take (pos k ss))).length = (ss.take (pos k ss)).length := by rw [kss_len, hA, List.length_take]; omega
  have hl2 : (ss.drop (pos k ss)).length = (kssOf (ls.drop (pos k ss + 1))).length := by rw [kss_len, List.length_drop, List.length_drop]; omega
  have ho := h.ord
  have hseq := seqT_at (kssOf (ls.take (pos k ss))) (ss.take (pos k ss)) ls[pos k ss].ks (kssOf (ls.drop (pos k ss + 1))) (ss.drop (pos k ss)) hl1
  rw [List.take_append_drop] at hseq
  rw [hsplit, kssOf_append, hseq] at ho
  rw [List.pairwise_append, List.pairwise_append] at ho
  refine ⟨_, _, _, hsplit, hA, fun x hx => ?_, fun x hx => ?_⟩
  · obtain ⟨s, hs, hxs⟩ := key_head hl1 ho.1 x (mem_headK hl1 hx)
    obtain ⟨i, hi', rfl⟩ := List.getElem_of_mem hs
    rw [List.length_take] at hi'
    rw [List.getElem_take] at hxs
    exact klt_trans hxs (pos_lt h.seps (by omega) (by omega))
  · obtain ⟨s, hs, hxs⟩ := key_tail hl2 ho.2.1.2.1 x (mem_tailK hl2 hx)
    obtain ⟨i, hi', rfl⟩ := List.getElem_of_mem hs
    rw [List.length_drop] at hi'
    rw [List.getElem_drop] at hxs
    have hge := pos_ge (k := k) h.seps (j := pos k ss + i) (by omega) (by omega)
    cases hh : klt x k with
    | false => rfl
    | true => have := klt_of_lt_le hh hge; rw [hxs] at this; cases this
/-- A cursor at the place of k among the keys K. -/
def CurAt (w : World) (base xb : Nat) (K : List ByteArray) (k : ByteArray) (v : Value) : Prop :=
  ∃ (l : Leaf) (i : Nat) (p n : Option Nat), v = .agg #[.pointer (some ⟨xb, 0, none⟩), .pointer (some ⟨l.b, 0, none⟩), .int .i64 (i : Int)] ∧ LeafAt w base l p n ∧ ((∃ h : i < l.ks.length, K[pos k K]? = some l.ks[i]) ∨ (i = l.ks.length ∧ pos k K = K.length))
theorem CurAt.ext {w w' : World} {base xb : Nat} {K : List ByteArray} {k : ByteArray} {v : Value} (h : CurAt w base xb K k v) (hx : Ext w w') : CurAt w' base xb K k v := by
  obtain ⟨l, i, p, n, h1, h2, h3⟩ := h
  exact ⟨l, i, p, n, h1, h2.ext hx, h3⟩
/-- The place over all keys. -/
theorem place {A B : List Leaf} {l : Leaf} {k : ByteArray} (h1 : ∀ x ∈ keysOf A, klt x k = true) (h2 : ∀ x ∈ keysOf B, klt x k = false) : pos k (keysOf (A ++ l :: B)) = (keysOf A).length + pos k l.ks := by
  have : keysOf (A ++ l :: B) = keysOf A ++ l.ks ++ keysOf B := flatten_mid A l B
  rw [this]
  exact pos_mid h1 h2
theorem place_in {A B : List Leaf} {l : Leaf} {k : ByteArray} (h1 : ∀ x ∈ keysOf A, klt x k = true) (h2 : ∀ x ∈ keysOf B, klt x k = false) (hi : pos k l.ks < l.ks.length) : (keysOf (A ++ l :: B))[pos k (keysOf (A ++ l :: B))]? = some l.ks[pos k l.ks] := by
  rw [place h1 h2, show keysOf (A ++ l :: B) = keysOf A ++ l.ks ++ keysOf B from flatten_mid A l B, List.append_assoc, List.getElem?_append_right (by omega), show (keysOf A).length + pos k l.ks - (keysOf A).length = pos k l.ks by omega, List.getElem?_append_left hi, List.getElem?_eq_getElem hi]
theorem place_next {A B : List Leaf} {l m : Leaf} {k : ByteArray} (h1 : ∀ x ∈ keysOf A, klt x k = true) (h2 : ∀ x ∈ keysOf (m :: B), klt x k = false) (hi : pos k l.ks = l.ks.length) (hm : 0 < m.ks.length) : (keysOf (A ++ l :: m :: B))[pos k (keysOf (A ++ l :: m :: B))]? = some m.ks[0] := by
  rw [place h1 h2, show keysOf (A ++ l :: m :: B) = keysOf A ++ l.ks ++ keysOf (m :: B) from flatten_mid A l (m :: B), List.append_assoc, List.getElem?_append_right (by omega), show (keysOf A).length + pos k l.ks - (keysOf A).length = pos k l.ks by omega, List.getElem?_append_right (by omega), hi, Nat.sub_self]
  have : keysOf (m :: B) = m.ks ++ keysOf B := by simp [keysOf, kssOf]
  rw [this, List.getElem?_append_left hm, List.getElem?_eq_getElem hm]
end Go.Proofs.Ybulkckvy
