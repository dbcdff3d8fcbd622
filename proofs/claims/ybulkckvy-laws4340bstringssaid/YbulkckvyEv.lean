import Derived.Test.YbulkckvyTurn
set_option linter.unusedVariables false
set_option linter.unusedSimpArgs false
namespace Go.Proofs.Ybulkckvy
open Go.RowKit

/-- An inner root over leaves has come about, from the world w and the blocks F on. -/
def Ev (w : World) (F : List Nat) (base r : Nat) (vc vs : Value) (bs : List Nat) (ls : List Leaf) (ss : List ByteArray) (w' : World) : Prop :=
  InnerG w' base r vc vs bs ls ss ∧ Fr F w w' ∧ ∀ x ∈ footI r vc vs ls, x ∈ F ∨ w.heap.size ≤ x

theorem mem_footI {r x : Nat} {vc vs : Value} {ls : List Leaf} : x ∈ footI r vc vs ls ↔ x = r ∨ vc.ownBlock = some x ∨ vs.ownBlock = some x ∨ x ∈ footL ls := by
  simp only [footI, List.mem_cons, List.mem_append, Option.mem_toList, Option.mem_def]
theorem Ev.start {w : World} {base r : Nat} {vc vs : Value} {bs : List Nat} {ls : List Leaf} {ss : List ByteArray} (h : InnerG w base r vc vs bs ls ss) : Ev w (footI r vc vs ls) base r vc vs bs ls ss w :=
  ⟨h, Fr.refl _ _, fun x hx => .inl hx⟩
theorem Ev.ext {w w1 w2 : World} {F : List Nat} {base r : Nat} {vc vs : Value} {bs : List Nat} {ls : List Leaf} {ss : List ByteArray} (h : Ev w F base r vc vs bs ls ss w1) (hx : Ext w1 w2) : Ev w F base r vc vs bs ls ss w2 :=
  ⟨h.1.ext hx, h.2.1.trans (Fr.of_ext hx _), h.2.2⟩
theorem Ev.turn {w w1 w2 : World} {F : List Nat} {base r : Nat} {vc vs : Value} {bs : List Nat} {A B : List Leaf} {l l' : Leaf} {ss : List ByteArray} (h : Ev w F base r vc vs bs (A ++ l :: B) ss w1)
    (ht : Turned w1 base l (lastB A none) (nextB B none) l' w2) : Ev w F base r vc vs bs (A ++ l' :: B) ss w2 := by
  obtain ⟨h1, h2, h3⟩ := h
  obtain ⟨q1, q2, q3, _⟩ := h1.turn ht
  have hs := h2.size
  refine ⟨q1, Fr.trans' h2 q2 (fun x hx => h3 x (mem_footI.2 (.inr (.inr (.inr hx))))), fun x hx => ?_⟩
  rcases mem_footI.1 hx with e | e | e | e
  · exact h3 x (mem_footI.2 (.inl e))
  · exact h3 x (mem_footI.2 (.inr (.inl e)))
  · exact h3 x (mem_footI.2 (.inr (.inr (.inl e))))
  · rcases q3 x e with e | e
    · exact h3 x (mem_footI.2 (.inr (.inr (.inr e))))
    · exact .inr (by omega)
theorem Ev.seps {w w1 W : World} {F : List Nat} {base r : Nat} {vc vs v' : Value} {bs : List Nat} {ls : List Leaf} {ss ss' : List ByteArray} (h : Ev w F base r vc vs bs ls ss w1) (hg : w1.grownBy W vs.ownBlock) (hs : Strs W base v' ss')
    (hgg : ∀ g, v'.ownBlock = some g → vs.ownBlock = some g ∨ w1.heap.size ≤ g) : Ev w F base r vc v' bs ls ss' (W.setCell ⟨r, 4, none⟩ v') := by
  obtain ⟨h1, h2, h3⟩ := h
  obtain ⟨q1, q2⟩ := h1.setSeps hg hs
  have hsz := h2.size
  refine ⟨q1, Fr.trans' h2 q2 (fun x hx => h3 x (mem_footI.2 ?_)), fun x hx => ?_⟩
  · rcases List.mem_cons.1 hx with e | e
    · exact .inl e
    · exact .inr (.inr (.inl (Option.mem_toList.1 e)))
  · rcases mem_footI.1 hx with e | e | e | e
    · exact h3 x (mem_footI.2 (.inl e))
    · exact h3 x (mem_footI.2 (.inr (.inl e)))
    · rcases hgg x e with e | e
      · exact h3 x (mem_footI.2 (.inr (.inr (.inl e))))
      · exact .inr (by omega)
    · exact h3 x (mem_footI.2 (.inr (.inr (.inr e))))
theorem Ev.chs {w w1 W : World} {F : List Nat} {base r : Nat} {vc vs v' : Value} {bs bs' : List Nat} {ls : List Leaf} {ss : List ByteArray} (h : Ev w F base r vc vs bs ls ss w1) (hg : w1.grownBy W vc.ownBlock) (hs : Ptrs W base v' bs')
    (hgg : ∀ g, v'.ownBlock = some g → vc.ownBlock = some g ∨ w1.heap.size ≤ g) : Ev w F base r v' vs bs' ls ss (W.setCell ⟨r, 3, none⟩ v') := by
  obtain ⟨h1, h2, h3⟩ := h
  obtain ⟨q1, q2⟩ := h1.setCh hg hs
  have hsz := h2.size
  refine ⟨q1, Fr.trans' h2 q2 (fun x hx => h3 x (mem_footI.2 ?_)), fun x hx => ?_⟩
  · rcases List.mem_cons.1 hx with e | e
    · exact .inl e
    · exact .inr (.inl (Option.mem_toList.1 e))
  · rcases mem_footI.1 hx with e | e | e | e
    · exact h3 x (mem_footI.2 (.inl e))
    · rcases hgg x e with e | e
      · exact h3 x (mem_footI.2 (.inr (.inl e)))
      · exact .inr (by omega)
    · exact h3 x (mem_footI.2 (.inr (.inr (.inl e))))
    · exact h3 x (mem_footI.2 (.inr (.inr (.inr e))))

theorem Fr.one (w : World) (p : Addr) (v : Value) : Fr [p.block] w (w.setCell p v) := (Fr.refl _ w).set _ _ (.inl (by simp))
/-- A separator is overwritten. -/
theorem Strs.set {w : World} {base g cap i : Nat} {ss : List ByteArray} (h : Strs w base (.slice (some ⟨g, 0, none⟩) ss.length cap) ss) (hi : i < ss.length) (x : ByteArray) :
    Strs (w.setCell ⟨g, i, none⟩ (.string x)) base (.slice (some ⟨g, 0, none⟩) ss.length cap) (ss.set i x) := by
  obtain ⟨h1, h2⟩ := h
  rcases h2 with ⟨h2, _⟩ | ⟨g', cap', cur, e, h3, h4, h5, h6, h7, h8⟩
  · cases h2
  · injection e with e1 e2 e3
    injection e1 with e1
    injection e1 with e1
    subst e1; subst e3
    have hl : (ss.set i x).length = ss.length := by simp
    refine ⟨by simp, .inr ⟨g, cap, cur.setIfInBounds i (.string x), by rw [hl], h3, hp_set_same _ _ _ _ _ _ _ h4, by rw [hl]; exact h5, h6, by simp [h7], ?_⟩⟩
    rw [hl, Array.toList_setIfInBounds, List.take_set, h8, List.map_set]
theorem Ev.sep {w w1 : World} {F : List Nat} {base r gs cap i : Nat} {vc : Value} {bs : List Nat} {ls : List Leaf} {ss : List ByteArray} (h : Ev w F base r vc (.slice (some ⟨gs, 0, none⟩) ss.length cap) bs ls ss w1) (hi : i < ss.length) (x : ByteArray) :
    Ev w F base r vc (.slice (some ⟨gs, 0, none⟩) ss.length cap) bs ls (ss.set i x) (w1.setCell ⟨gs, i, none⟩ (.string x)) := by
  obtain ⟨h1, h2, h3⟩ := h
  obtain ⟨c9, hc9⟩ := own_ty h1.se (g := gs) rfl
  have hF : Fr [gs] w1 (w1.setCell ⟨gs, i, none⟩ (.string x)) := Fr.one w1 ⟨gs, i, none⟩ _
  have hne : ∀ b c t, w1.heap[b]? = some (.cells c t (0, 0)) → t ≠ 9 → b ∉ [gs] := fun b c t hb ht hm => ty_ne hb hc9 ht (by simpa using hm)
  refine ⟨⟨hF.some h1.node (hne r _ _ h1.node (by decide)), ?_, h1.se.set hi x, h1.low, ?_, h1.nd, h1.nr, h1.nv⟩, Fr.trans' h2 hF (fun y hy => h3 y (mem_footI.2 (.inr (.inr (.inl (by simp at hy; rw [hy]; rfl)))))), h3⟩
  · exact owns_fr h1.ch hF (fun g hg => by obtain ⟨c, hc⟩ := own_ty h1.ch hg; exact hne g c _ hc (by decide))
  · refine seg_other h1.seg hF (fun y hy => ⟨fun c hc _ => hne y c _ hc (by decide) hy, fun c hc => hne y c _ hc (by decide) hy⟩)

theorem nextB_mem {B : List Leaf} {nb : Nat} (hn : nextB B none = some nb) : nb ∈ B.map (·.b) := by
  cases B with
  | nil => cases hn
  | cons m B => simp only [nextB, Option.some.injEq] at hn; simp [hn]
theorem rowsOf_sub {A B : List Leaf} (h : A.Sublist B) : (rowsOf A).Sublist (rowsOf B) := h.filterMap _
theorem footL_sub {A B : List Leaf} (h : A.Sublist B) {x : Nat} (hx : x ∈ footL A) : x ∈ footL B := by
  simp only [footL, List.mem_append] at hx ⊢
  rcases hx with hx | hx
  · exact .inl ((h.map _).subset hx)
  · exact .inr ((rowsOf_sub h).subset hx)
/-- The leaf b is taken out of the chain. -/
theorem InnerG.unlink {w1 w2 : World} {base r : Nat} {vc vs : Value} {bs : List Nat} {A B : List Leaf} {a b : Leaf} {ss : List ByteArray} (h : InnerG w1 base r vc vs bs (A ++ a :: b :: B) ss) (hF : Fr (a.b :: (nextB B none).toList) w1 w2)
    (hn : w2.heap[a.b]? = some (.cells #[a.v, toP (lastB A none), toP (nextB B none), .slice none 0 0, .slice none 0 0] 44 (0, 0)))
    (hd : ∀ nb c, nextB B none = some nb → w1.heap[nb]? = some (.cells c 44 (0, 0)) → w2.heap[nb]? = some (.cells (c.setIfInBounds 1 (.pointer (some ⟨a.b, 0, none⟩))) 44 (0, 0))) :
    InnerG w2 base r vc vs bs (A ++ a :: B) ss := by
  have hsub : (A ++ a :: B).Sublist (A ++ a :: b :: B) := List.Sublist.append (List.Sublist.refl _) (List.Sublist.cons_cons _ (List.sublist_cons_self _ _))
  have hty := seg_ty h.seg
  have hfoot : ∀ x ∈ a.b :: (nextB B none).toList, x ∈ (a :: b :: B).map (·.b) := fun x hx => by
    rcases List.mem_cons.1 hx with e | e
    · simp [e]
    · have := nextB_mem (Option.mem_toList.1 e); simp only [List.map_cons]; simp [this]
  have hfoot' : ∀ x ∈ a.b :: (nextB B none).toList, x ∈ (A ++ a :: b :: B).map (·.b) := fun x hx => by
    rw [List.map_append]; exact List.mem_append_right _ (hfoot x hx)
  have hne : ∀ y c t, w1.heap[y]? = some (.cells c t (0, 0)) → t ≠ 44 → y ∉ a.b :: (nextB B none).toList := fun y c t hy ht hm => by
    obtain ⟨c', hc'⟩ := hty.1 y (hfoot' y hm)
    exact ty_ne hy hc' ht rfl
  have hrow : ∀ m ∈ A ++ a :: b :: B, ∀ g, m.v.ownBlock = some g → g ∉ a.b :: (nextB B none).toList := fun m hm g hg => by
    obtain ⟨c, hc⟩ := hty.2 g (mem_rows hm hg)
    exact hne g c _ hc (by decide)
  have hseg := h.seg
  rw [seg_append] at hseg
  obtain ⟨sA, sa, sb, sB⟩ := hseg
  have hnd := h.nd
  simp only [List.map_append, List.map_cons] at hnd
  rw [List.nodup_append, List.nodup_cons, List.nodup_cons] at hnd
  obtain ⟨nA, ⟨na, nb, nB⟩, nAB⟩ := hnd
  refine ⟨hF.some h.node (fun hm => h.nr (hfoot' r hm)), ?_, ?_, h.low, ?_, h.nd.sublist (hsub.map _), fun hm => h.nr ((hsub.map _).subset hm), h.nv.sublist (rowsOf_sub hsub)⟩
  · exact owns_fr h.ch hF (fun g hg => by obtain ⟨c, hc⟩ := own_ty h.ch hg; exact hne g c _ hc (by decide))
  · exact owns_fr h.se hF (fun g hg => by obtain ⟨c, hc⟩ := own_ty h.se hg; exact hne g c _ hc (by decide))
  · rw [seg_append]
    refine ⟨?_, ⟨hn, ?_, sa.low⟩, ?_⟩
    · refine seg_carry hF A _ _ sA (fun m hm => ⟨fun hx => ?_, hrow m (by simp [hm])⟩)
      exact nAB m.b (List.mem_map_of_mem hm) m.b (by simpa using hfoot _ hx) rfl
    · exact owns_fr sa.ents hF (hrow a (by simp))
    · refine seg_tail sB hF (fun m hm => ⟨?_, hrow m (by simp [hm])⟩) hd nB
      by_cases hq : nextB B none = some m.b
      · exact .inr hq
      · refine .inl (fun hx => ?_)
        rcases List.mem_cons.1 hx with e | e
        · exact na (by rw [← e]; exact List.mem_cons_of_mem _ (List.mem_map_of_mem hm))
        · exact hq (Option.mem_toList.1 e)
theorem Ev.unlink {w w1 w2 : World} {F : List Nat} {base r : Nat} {vc vs : Value} {bs : List Nat} {A B : List Leaf} {a b : Leaf} {ss : List ByteArray} (h : Ev w F base r vc vs bs (A ++ a :: b :: B) ss w1) (hF : Fr (a.b :: (nextB B none).toList) w1 w2)
    (hn : w2.heap[a.b]? = some (.cells #[a.v, toP (lastB A none), toP (nextB B none), .slice none 0 0, .slice none 0 0] 44 (0, 0)))
    (hd : ∀ nb c, nextB B none = some nb → w1.heap[nb]? = some (.cells c 44 (0, 0)) → w2.heap[nb]? = some (.cells (c.setIfInBounds 1 (.pointer (some ⟨a.b, 0, none⟩))) 44 (0, 0))) :
    Ev w F base r vc vs bs (A ++ a :: B) ss w2 := by
  obtain ⟨h1, h2, h3⟩ := h
  have hsub : (A ++ a :: B).Sublist (A ++ a :: b :: B) := List.Sublist.append (List.Sublist.refl _) (List.Sublist.cons_cons _ (List.sublist_cons_self _ _))
  refine ⟨h1.unlink hF hn hd, Fr.trans' h2 hF (fun x hx => h3 x (mem_footI.2 (.inr (.inr (.inr ?_))))), fun x hx => h3 x (mem_footI.2 ?_)⟩
  · simp only [footL, List.map_append, List.map_cons, List.mem_append, List.mem_cons]
    rcases List.mem_cons.1 hx with e | e
    · exact .inl (.inr (.inl e))
    · exact .inl (.inr (.inr (.inr (nextB_mem (Option.mem_toList.1 e)))))
  · rcases mem_footI.1 hx with e | e | e | e
    · exact .inl e
    · exact .inr (.inl e)
    · exact .inr (.inr (.inl e))
    · exact .inr (.inr (.inr (footL_sub hsub e)))
theorem Ev.unlink_none {w w1 : World} {F : List Nat} {base r : Nat} {vc vs : Value} {bs : List Nat} {A : List Leaf} {a b : Leaf} {ss : List ByteArray} (h : Ev w F base r vc vs bs (A ++ [a, b]) ss w1) :
    Ev w F base r vc vs bs (A ++ [a]) ss (w1.setCell ⟨a.b, 2, none⟩ (.pointer none)) := by
  have hseg := h.1.seg
  rw [seg_append] at hseg
  refine Ev.unlink (B := []) h (Fr.one w1 ⟨a.b, 2, none⟩ _) ?_ (fun nb c hn => by cases hn)
  rw [hp_set_same _ _ _ _ _ _ _ hseg.2.1.node]; rfl
theorem Ev.unlink_some {w w1 : World} {F : List Nat} {base r : Nat} {vc vs : Value} {bs : List Nat} {A B : List Leaf} {a b m : Leaf} {ss : List ByteArray} (h : Ev w F base r vc vs bs (A ++ a :: b :: m :: B) ss w1) :
    Ev w F base r vc vs bs (A ++ a :: m :: B) ss ((w1.setCell ⟨a.b, 2, none⟩ (.pointer (some ⟨m.b, 0, none⟩))).setCell ⟨m.b, 1, none⟩ (.pointer (some ⟨a.b, 0, none⟩))) := by
  have hseg := h.1.seg
  rw [seg_append] at hseg
  have hnd := h.1.nd
  simp only [List.map_append, List.map_cons] at hnd
  rw [List.nodup_append, List.nodup_cons] at hnd
  have hne : a.b ≠ m.b := fun e => hnd.2.1.1 (by simp [e])
  refine Ev.unlink (B := m :: B) h (Fr.set (Fr.set (Fr.refl _ w1) _ _ (.inl (by simp))) _ _ (.inl (by simp [nextB]))) ?_ (fun nb c hn hc => ?_)
  · rw [hp_set_ne _ _ _ _ hne, hp_set_same _ _ _ _ _ _ _ hseg.2.1.node]; rfl
  · simp only [nextB, Option.some.injEq] at hn
    subst hn
    rw [hp_set_same _ _ _ _ _ _ _ (by rw [hp_set_ne _ _ _ _ (Ne.symm hne)]; exact hc)]
end Go.Proofs.Ybulkckvy
