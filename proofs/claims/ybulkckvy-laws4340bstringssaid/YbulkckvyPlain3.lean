import Derived.Test.YbulkckvyTreeOps
import Derived.Test.YbulkckvyTurn
/-! The plain law of delete: keys and separators in one sequence. No Go in sight. -/
set_option linter.unusedVariables false
set_option linter.unusedSimpArgs false
namespace Go.Proofs.Ybulkckvy

/-- In order, whatever the leaves' sizes. -/
structure Ordd (kss : List (List ByteArray)) (ss : List ByteArray) : Prop where
  len : ss.length + 1 = kss.length
  ord : (seqT kss ss).Pairwise RI
theorem Good.ordd {kss : List (List ByteArray)} {ss : List ByteArray} (h : Good kss ss) : Ordd kss ss := ⟨h.len, h.ord⟩
theorem delK_sub (k : ByteArray) (c : List ByteArray) : (delK k c).Sublist c := by
  unfold delK
  have h : (c.take (pos k c) ++ c.drop (pos k c + 1)).Sublist (c.take (pos k c) ++ c.drop (pos k c)) := List.Sublist.append (List.Sublist.refl _) (List.drop_sublist_drop_left c (by omega))
  rwa [List.take_append_drop] at h
theorem Ordd.sub {P S : List (List ByteArray)} {c c' : List ByteArray} {s1 s2 : List ByteArray} (h : Ordd (P ++ c :: S) (s1 ++ s2)) (hl : P.length = s1.length) (hs : c'.Sublist c) : Ordd (P ++ c' :: S) (s1 ++ s2) := by
  refine ⟨by have := h.len; simp at *; omega, ?_⟩
  have ho := h.ord
  rw [seqT_at P s1 _ S s2 hl] at ho ⊢
  exact ho.sublist (List.Sublist.append (List.Sublist.refl _) (List.Sublist.append (hs.map _) (List.Sublist.refl _)))
/-- The sequence at two leaves and the separator between them. -/
theorem seqT_two (P S : List (List ByteArray)) (a b : List ByteArray) (s1 s2 : List ByteArray) (s : ByteArray) (hl : P.length = s1.length) : seqT (P ++ a :: b :: S) (s1 ++ s :: s2) = headI P s1 ++ (a.map kI ++ (sI s :: (b.map kI ++ tailI s2 S))) := by
  rw [seqT_at P s1 a (b :: S) (s :: s2) hl, tailI_cons]
theorem Ordd.merge {P S : List (List ByteArray)} {a b : List ByteArray} {s1 s2 : List ByteArray} {s : ByteArray} (h : Ordd (P ++ a :: b :: S) (s1 ++ s :: s2)) (hl : P.length = s1.length) : Ordd (P ++ (a ++ b) :: S) (s1 ++ s2) := by
  refine ⟨by have := h.len; simp at *; omega, ?_⟩
  have ho := h.ord
  rw [seqT_two _ _ _ _ _ _ _ hl] at ho
  rw [seqT_at P s1 _ S s2 hl, List.map_append, List.append_assoc]
  exact ho.sublist (List.Sublist.append (List.Sublist.refl _) (List.Sublist.append (List.Sublist.refl _) (List.sublist_cons_self _ _)))
theorem Ordd.resep {P S : List (List ByteArray)} {a b a' b' : List ByteArray} {s1 s2 : List ByteArray} {s x : ByteArray} (h : Ordd (P ++ a :: b :: S) (s1 ++ s :: s2)) (hl : P.length = s1.length) (he : a ++ b = a' ++ x :: b') (ha : a' ≠ []) :
    Ordd (P ++ a' :: (x :: b') :: S) (s1 ++ x :: s2) := by
  have hm := (h.merge hl).ord
  rw [seqT_at P s1 _ S s2 hl, he] at hm
  refine ⟨by have := h.len; simp at *; omega, ?_⟩
  rw [seqT_two _ _ _ _ _ _ _ hl]
  exact cut_ord hm ha

theorem foundB_iff {k : ByteArray} {c : List ByteArray} : foundB k c = true ↔ c[pos k c]? = some k := by
  unfold foundB
  cases h : c[pos k c]? with
  | none => simp
  | some x => simp
/-- The key's place over all leaves. -/
theorem del_mid {k : ByteArray} {P c S : List ByteArray} (h1 : ∀ x ∈ P, klt x k = true) (h2 : ∀ x ∈ S, klt k x = true) :
    foundB k (P ++ c ++ S) = foundB k c ∧ (foundB k c = true → delK k (P ++ c ++ S) = P ++ delK k c ++ S) := by
  have hp := pos_le k c
  have hpm : pos k (P ++ c ++ S) = P.length + pos k c := pos_mid h1 (fun x hx => klt_asymm (h2 x hx))
  refine ⟨?_, fun hf => ?_⟩
  · apply Bool.eq_iff_iff.2
    rw [foundB_iff, foundB_iff, hpm, List.append_assoc, List.getElem?_append_right (by omega), show P.length + pos k c - P.length = pos k c by omega]
    rcases Nat.lt_or_ge (pos k c) c.length with hlt | hge
    · rw [List.getElem?_append_left hlt]
    · rw [List.getElem?_append_right hge, List.getElem?_eq_none hge]
      constructor
      · intro he
        have hm := List.mem_of_getElem? he
        have := h2 k hm
        rw [klt_irrefl] at this
        cases this
      · intro he; cases he
  · have hlt := foundB_lt hf
    unfold delK
    rw [hpm, List.append_assoc P c S, List.take_append, List.drop_append]
    rw [List.take_of_length_le (by omega), List.drop_of_length_le (by omega), show P.length + pos k c - P.length = pos k c by omega, show P.length + pos k c + 1 - P.length = pos k c + 1 by omega, List.take_append_of_le_length hp, List.drop_append_of_le_length (by omega)]
    simp
theorem Fits.del {k : ByteArray} {P : List (List ByteArray)} {c : List ByteArray} {S : List (List ByteArray)} {s1 s2 : List ByteArray} (h : Fits k P c S s1 s2) :
    foundB k (P ++ c :: S).flatten = foundB k c ∧ (foundB k c = true → delK k (P ++ c :: S).flatten = P.flatten ++ delK k c ++ S.flatten) := by
  have : (P ++ c :: S).flatten = P.flatten ++ c ++ S.flatten := by simp
  rw [this]
  exact del_mid (fun x hx => h.below x (mem_headK h.len hx)) (fun x hx => h.above x (mem_tailK h.len2 hx))
/-- Of the right sizes: good. -/
theorem Ordd.good {kss : List (List ByteArray)} {ss : List ByteArray} (h : Ordd kss ss) (hs : ∀ c ∈ kss, (2 ≤ kss.length → 32 ≤ c.length) ∧ c.length ≤ 64) : Good kss ss := ⟨h.len, h.ord, fun h2 c hc => (hs c hc).1 h2, fun c hc => (hs c hc).2⟩
end Go.Proofs.Ybulkckvy
