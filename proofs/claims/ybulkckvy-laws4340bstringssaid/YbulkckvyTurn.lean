import Derived.Test.YbulkckvyInsInner2
set_option linter.unusedVariables false
set_option linter.unusedSimpArgs false
namespace Go.Proofs.Ybulkckvy
open Go.RowKit

/-- The leaf l has turned in its place: it is l' now. -/
def Turned (w : World) (base : Nat) (l : Leaf) (p n : Option Nat) (l' : Leaf) (w' : World) : Prop :=
  l'.b = l.b ∧ LeafAt w' base l' p n ∧ Fr l.foot w w' ∧ ∀ g, l'.v.ownBlock = some g → l.v.ownBlock = some g ∨ w.heap.size ≤ g

theorem Turned.mk {w W W4 : World} {base : Nat} {l : Leaf} {p n : Option Nat} {v' : Value} {ks' : List ByteArray} (hl : LeafAt W base l p n) (hx : Ext w W) (hown : Ents W4 base v' ks') (hgrow : W.grownBy W4 l.v.ownBlock)
    (hgg : ∀ g, v'.ownBlock = some g → l.v.ownBlock = some g ∨ W.heap.size ≤ g) :
    Turned w base l p n ⟨l.b, v', ks'⟩ (W4.setCell ⟨l.b, 0, none⟩ v') := by
  have hbl : some l.b ≠ l.v.ownBlock := fun e => (hl.row_ne e.symm hl.node) rfl
  have hn4 : W4.heap[l.b]? = some (.cells #[l.v, toP p, toP n, .slice none 0 0, .slice none 0 0] 44 (0, 0)) := (hgrow.block _ (hp_lt hl.node) hbl).trans hl.node
  have hsz := hx.le
  refine ⟨rfl, ⟨?_, ?_, hl.low⟩, ?_, ?_⟩
  · rw [hp_set_same _ _ _ _ _ _ _ hn4]; rfl
  · exact owns_block hown (fun g' o hg ho => by
      obtain ⟨c, hc⟩ := own_ty hown hg
      rw [hp_set_ne _ _ _ _ (ty_ne hc hn4 (by decide))]; exact ho)
  · refine Fr.set (Fr.trans' (Fr.of_ext hx _) (Fr.of_grown hgrow l.v.ownBlock.toList (fun g hg => .inl (by rw [hg]; simp))) (fun x hx => .inl (List.mem_cons_of_mem _ hx))) _ _ (.inl (by simp [Leaf.foot]))
  · intro g hg
    rcases hgg g hg with h | h
    · exact .inl h
    · exact .inr (by omega)

theorem InnerG.turn {w w' : World} {base r : Nat} {vc vs : Value} {bs : List Nat} {A B : List Leaf} {l l' : Leaf} {ss : List ByteArray} (h : InnerG w base r vc vs bs (A ++ l :: B) ss) (hg : Turned w base l (lastB A none) (nextB B none) l' w') :
    InnerG w' base r vc vs bs (A ++ l' :: B) ss ∧ Fr (footL (A ++ l :: B)) w w' ∧ (∀ x ∈ footL (A ++ l' :: B), x ∈ footL (A ++ l :: B) ∨ w.heap.size ≤ x) ∧ w'.heap[r]? = w.heap[r]? := by
  obtain ⟨hb, hL', hF, hgg⟩ := hg
  have hl : l ∈ A ++ l :: B := by simp
  obtain ⟨pl, nl, hL⟩ := seg_leaf h.seg l hl
  have hside := seg_beside h.seg h.nd h.nv hF (fun x hx => hx)
  have hmap : (A ++ l' :: B).map (·.b) = (A ++ l :: B).map (·.b) := by simp [hb]
  have hrow : rowsOf (A ++ l' :: B) = rowsOf A ++ (l'.v.ownBlock.toList ++ rowsOf B) := by
    rw [rowsOf_append, rowsOf_cons]
  have hnf : ∀ b c t, w.heap[b]? = some (.cells c t (0, 0)) → (b ≠ l.b) → t ≠ 81 → b ∉ l.foot := fun b c t hb hne ht hm => by
    rcases List.mem_cons.1 hm with e | e
    · exact hne e
    · have e : l.v.ownBlock = some b := by simpa using e
      obtain ⟨c', hc'⟩ := own_ty hL.ents e
      exact ty_ne hb hc' ht rfl
  have hrl : r ≠ l.b := fun e => h.nr (e ▸ List.mem_map_of_mem hl)
  have hlw : l.b < w.heap.size := hp_lt hL.node
  refine ⟨⟨hF.some h.node (hnf r _ _ h.node hrl (by decide)), ?_, ?_, h.low, ?_, by rw [hmap]; exact h.nd, by rw [hmap]; exact h.nr, ?_⟩, ?_, ?_, hF.block r (hp_lt h.node) (hnf r _ _ h.node hrl (by decide))⟩
  · exact owns_fr h.ch hF (fun g' hg' => by obtain ⟨c, hc⟩ := own_ty h.ch hg'; exact hnf g' c 39 hc (ty_ne hc hL.node (by decide)) (by decide))
  · exact owns_fr h.se hF (fun g' hg' => by obtain ⟨c, hc⟩ := own_ty h.se hg'; exact hnf g' c 9 hc (ty_ne hc hL.node (by decide)) (by decide))
  · have hs := h.seg
    rw [seg_append] at hs ⊢
    obtain ⟨hA, hLB⟩ := hs
    have e1 : nextB (l' :: B) none = nextB (l :: B) none := by simp [nextB, hb]
    refine ⟨?_, hL', ?_⟩
    · rw [e1]; exact seg_carry hF A _ _ hA (fun m hm => hside m (.inl hm))
    · rw [hb]; exact seg_carry hF B _ _ hLB.2 (fun m hm => hside m (.inr hm))
  · rw [hrow]
    have hnv := h.nv
    rw [rowsOf_append, rowsOf_cons] at hnv
    cases hv : l'.v.ownBlock with
    | none =>
      rw [List.nodup_append] at hnv ⊢
      obtain ⟨q1, q2, q3⟩ := hnv
      rw [List.nodup_append] at q2
      exact ⟨q1, by simpa using q2.2.1, fun a ha b hb' => q3 a ha b (by simp at hb'; simp [hb'])⟩
    | some g =>
      rcases hgg g hv with e | e
      · rw [e] at hnv; exact hnv
      · have hlt : ∀ x, x ∈ rowsOf A ∨ x ∈ rowsOf B → x < w.heap.size := fun x hx => by
          obtain ⟨c, hc⟩ := (seg_ty h.seg).2 x (by rw [rowsOf_append, rowsOf_cons]; rcases hx with hx | hx <;> simp [hx])
          exact hp_lt hc
        rw [List.nodup_append] at hnv ⊢
        obtain ⟨q1, q2, q3⟩ := hnv
        rw [List.nodup_append] at q2
        refine ⟨q1, List.nodup_cons.2 ⟨fun hm => by have := hlt g (.inr hm); omega, q2.2.1⟩, fun a ha b hb e' => ?_⟩
        rcases List.mem_cons.1 hb with hb | hb
        · have := hlt a (.inl ha); omega
        · exact q3 a ha b (by simp at hb; simp [hb]) e'
  · exact hF.mono (fun x hx => foot_sub hx)
  · intro x hx
    simp only [footL, hmap, hrow, List.mem_append, rowsOf_append, rowsOf_cons, Option.mem_toList] at hx ⊢
    rcases hx with hx | hx | hx | hx
    · exact .inl (.inl hx)
    · exact .inl (.inr (.inl hx))
    · rcases hgg x hx with e | e
      · exact .inl (.inr (.inr (.inl e)))
      · exact .inr e
    · exact .inl (.inr (.inr (.inr hx)))

/-- Without the key at its place. -/
def delK (k : ByteArray) (ks : List ByteArray) : List ByteArray := ks.take (pos k ks) ++ ks.drop (pos k ks + 1)
theorem entsC_delK (k : ByteArray) (ks : List ByteArray) : (entsC ks).take (pos k ks * 3) ++ (entsC ks).drop ((pos k ks + 1) * 3) = entsC (delK k ks) := by
  rw [entsC_take, entsC_drop, delK, entsC_append]
theorem foundB_lt {k : ByteArray} {ks : List ByteArray} (h : foundB k ks = true) : pos k ks < ks.length := by
  unfold foundB at h
  rcases Nat.lt_or_ge (pos k ks) ks.length with h1 | h1
  · exact h1
  · rw [List.getElem?_eq_none (by omega)] at h; cases h
theorem delK_length {k : ByteArray} {ks : List ByteArray} (h : foundB k ks = true) : (delK k ks).length = ks.length - 1 := by
  have := foundB_lt h
  simp [delK]; omega
end Go.Proofs.Ybulkckvy
