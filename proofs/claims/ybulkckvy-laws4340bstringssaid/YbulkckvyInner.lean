import Derived.Test.YbulkckvyInsSplit
set_option linter.unusedVariables false
set_option linter.unusedSimpArgs false
namespace Go.Proofs.Ybulkckvy
open Go.RowKit

def ptrV (b : Nat) : Value := .pointer (some ⟨b, 0, none⟩)
/-- A row of pointers to nodes. -/
def Ptrs (w : World) (base : Nat) (v : Value) (bs : List Nat) : Prop := w.ownsRow base 39 1 v bs.length (bs.map ptrV)
theorem Ptrs.cell {w : World} {base : Nat} {v : Value} {bs : List Nat} (h : Ptrs w base v bs) {g cap : Nat} (hv : v = .slice (some ⟨g, 0, none⟩) bs.length cap) {j : Nat} (hj : j < bs.length) :
    w.cell? ⟨g, j, none⟩ = some (.pointer (some ⟨bs[j], 0, none⟩)) := by
  obtain ⟨_, h2⟩ := h
  rcases h2 with ⟨h1, _⟩ | ⟨g', cap', cur, h1, _, h3, _, _, h6, h7⟩
  · rw [hv] at h1; cases h1
  · rw [hv] at h1
    injection h1 with e1 e2 e3
    injection e1 with e1
    injection e1 with e1
    subst e1; subst e3
    rw [Nat.mul_one] at h7
    rw [hp_cell h3, take_get h7 hj]
    simp [hj, ptrV]
theorem Ptrs.ext {w w' : World} {base : Nat} {v : Value} {bs : List Nat} (h : Ptrs w base v bs) (hx : Ext w w') : Ptrs w' base v bs := owns_ext h hx
theorem Ptrs.form {w : World} {base : Nat} {v : Value} {bs : List Nat} (h : Ptrs w base v bs) (hb : 0 < bs.length) : ∃ g cap, v = .slice (some ⟨g, 0, none⟩) bs.length cap ∧ bs.length ≤ cap := by
  obtain ⟨_, h2⟩ := h
  rcases h2 with ⟨_, h2⟩ | ⟨g, cap, cur, rfl, _, _, h4, _⟩
  · omega
  · exact ⟨g, cap, rfl, h4⟩
theorem Strs.form' {w : World} {base : Nat} {v : Value} {bs : List ByteArray} (h : Strs w base v bs) (hb : 0 < bs.length) : ∃ g cap, v = .slice (some ⟨g, 0, none⟩) bs.length cap ∧ bs.length ≤ cap := by
  obtain ⟨_, h2⟩ := h
  rcases h2 with ⟨_, h2⟩ | ⟨g, cap, cur, rfl, _, _, h4, _⟩
  · omega
  · exact ⟨g, cap, rfl, h4⟩

def rowsOf (ls : List Leaf) : List Nat := ls.filterMap fun l => l.v.ownBlock
/-- The blocks of the leaves. -/
def footL (ls : List Leaf) : List Nat := ls.map (·.b) ++ rowsOf ls
/-- An inner root over leaves. -/
structure Inner (w : World) (base r : Nat) (vc vs : Value) (ls : List Leaf) (ss : List ByteArray) : Prop where
  node : w.heap[r]? = some (.cells #[.slice none 0 0, .pointer none, .pointer none, vc, vs] 44 (0, 0))
  ch : Ptrs w base vc (ls.map (·.b))
  se : Strs w base vs ss
  low : base ≤ r
  seg : Seg w base none ls none
  nd : (ls.map (·.b)).Nodup
  nr : r ∉ ls.map (·.b)
  nv : (rowsOf ls).Nodup
def footI (r : Nat) (vc vs : Value) (ls : List Leaf) : List Nat := r :: (vc.ownBlock.toList ++ (vs.ownBlock.toList ++ footL ls))

theorem mem_rows {ls : List Leaf} {l : Leaf} {g : Nat} (h : l ∈ ls) (hg : l.v.ownBlock = some g) : g ∈ rowsOf ls := List.mem_filterMap.2 ⟨l, h, hg⟩
theorem of_rows {ls : List Leaf} {g : Nat} (h : g ∈ rowsOf ls) : ∃ l ∈ ls, l.v.ownBlock = some g := List.mem_filterMap.1 h
theorem rowsOf_append (A B : List Leaf) : rowsOf (A ++ B) = rowsOf A ++ rowsOf B := by simp [rowsOf]
theorem rowsOf_cons (l : Leaf) (B : List Leaf) : rowsOf (l :: B) = l.v.ownBlock.toList ++ rowsOf B := by
  unfold rowsOf
  cases h : l.v.ownBlock with
  | none => simp [List.filterMap_cons, h]
  | some g => simp [List.filterMap_cons, h]

theorem ty_ne {w : World} {a b : Nat} {ca cb : Array Value} {ta tb : TypeId} (ha : w.heap[a]? = some (.cells ca ta (0, 0))) (hb : w.heap[b]? = some (.cells cb tb (0, 0))) (h : ta ≠ tb) : a ≠ b := fun e => by
  subst e
  rw [ha] at hb
  injection hb with hb
  injection hb with _ hb _
  exact h hb
/-- Every block of the leaves is of type 44 or 81. -/
theorem seg_ty {w : World} {base : Nat} {ls : List Leaf} {p n : Option Nat} (h : Seg w base p ls n) : (∀ b ∈ ls.map (·.b), ∃ c, w.heap[b]? = some (.cells c 44 (0, 0))) ∧ (∀ g ∈ rowsOf ls, ∃ c, w.heap[g]? = some (.cells c 81 (0, 0))) := by
  refine ⟨fun b hb => ?_, fun g hg => ?_⟩
  · obtain ⟨l, hl, rfl⟩ := List.mem_map.1 hb
    obtain ⟨p', n', hL⟩ := seg_leaf h l hl
    exact ⟨_, hL.node⟩
  · obtain ⟨l, hl, hg⟩ := of_rows hg
    obtain ⟨p', n', hL⟩ := seg_leaf h l hl
    exact own_ty hL.ents hg

/-- The leaves but l, where only l's blocks (and new ones) have turned. -/
theorem seg_beside {w w' : World} {base : Nat} {A B : List Leaf} {l : Leaf} {bs : List Nat} (hs : Seg w base none (A ++ l :: B) none) (hnd : ((A ++ l :: B).map (·.b)).Nodup) (hnv : (rowsOf (A ++ l :: B)).Nodup) (hf : Fr bs w w') (hbs : ∀ x ∈ bs, x ∈ l.foot) :
    ∀ m, m ∈ A ∨ m ∈ B → m.b ∉ bs ∧ ∀ g, m.v.ownBlock = some g → g ∉ bs := by
  have hty := seg_ty hs
  have hl : l ∈ A ++ l :: B := by simp
  obtain ⟨pl, nl, hL⟩ := seg_leaf hs l hl
  intro m hm
  have hmm : m ∈ A ++ l :: B := by rcases hm with h | h <;> simp [h]
  obtain ⟨pm, nm, hM⟩ := seg_leaf hs m hmm
  have hbne : m.b ≠ l.b := by
    simp only [List.map_append, List.map_cons] at hnd
    rw [List.nodup_append] at hnd
    obtain ⟨h1, h2, h3⟩ := hnd
    rw [List.nodup_cons] at h2
    rcases hm with h | h
    · exact h3 _ (List.mem_map_of_mem h) _ (by simp)
    · exact fun e => h2.1 (e ▸ List.mem_map_of_mem h)
  have hvne : ∀ g g', m.v.ownBlock = some g → l.v.ownBlock = some g' → g ≠ g' := fun g g' h1 h2 => by
    rw [rowsOf_append, rowsOf_cons, h2] at hnv
    rw [List.nodup_append] at hnv
    obtain ⟨q1, q2, q3⟩ := hnv
    rcases hm with h | h
    · exact q3 _ (mem_rows h h1) _ (by simp)
    · rw [List.nodup_append] at q2
      exact fun e => q2.2.2 g' (by simp) g (mem_rows h h1) e.symm
  refine ⟨fun hx => ?_, fun g hg hx => ?_⟩
  · rcases List.mem_cons.1 (hbs _ hx) with e | e
    · exact hbne e
    · have : l.v.ownBlock = some m.b := by simpa using e
      exact hL.row_ne this hM.node rfl
  · rcases List.mem_cons.1 (hbs _ hx) with e | e
    · exact hM.row_ne hg hL.node e
    · have : l.v.ownBlock = some g := by simpa using e
      exact hvne g g hg this rfl

/-- Every block of the tree is below the heap's size. -/
theorem Inner.lt {w : World} {base r : Nat} {vc vs : Value} {ls : List Leaf} {ss : List ByteArray} (h : Inner w base r vc vs ls ss) : ∀ x ∈ footI r vc vs ls, x < w.heap.size := by
  intro x hx
  simp only [footI, footL, List.mem_cons, List.mem_append, Option.mem_toList] at hx
  rcases hx with rfl | hx | hx | hx | hx
  · exact hp_lt h.node
  · obtain ⟨c, hc⟩ := own_ty h.ch hx; exact hp_lt hc
  · obtain ⟨c, hc⟩ := own_ty h.se hx; exact hp_lt hc
  · obtain ⟨c, hc⟩ := (seg_ty h.seg).1 x hx; exact hp_lt hc
  · obtain ⟨c, hc⟩ := (seg_ty h.seg).2 x hx; exact hp_lt hc

theorem foot_sub {A B : List Leaf} {l : Leaf} {x : Nat} (h : x ∈ l.foot) : x ∈ footL (A ++ l :: B) := by
  simp only [footL, List.map_append, List.map_cons, rowsOf_append, rowsOf_cons, List.mem_append, List.mem_cons]
  rcases List.mem_cons.1 h with h | h
  · exact .inl (.inr (.inl h))
  · exact .inr (.inr (.inl h))

/-- A leaf has grown in its place. -/
theorem Inner.grew {w w' : World} {base r : Nat} {vc vs : Value} {A B : List Leaf} {l : Leaf} {ss : List ByteArray} {k : ByteArray} (h : Inner w base r vc vs (A ++ l :: B) ss) (hg : Grew w base l (lastB A none) (nextB B none) k w') :
    ∃ v', Inner w' base r vc vs (A ++ ⟨l.b, v', insK k l.ks⟩ :: B) ss ∧ Fr (footI r vc vs (A ++ l :: B)) w w' ∧ ∀ x ∈ footI r vc vs (A ++ ⟨l.b, v', insK k l.ks⟩ :: B), x ∈ footI r vc vs (A ++ l :: B) ∨ w.heap.size ≤ x := by
  obtain ⟨g, cap, hL', hF, hgg⟩ := hg
  have hl : l ∈ A ++ l :: B := by simp
  obtain ⟨pl, nl, hL⟩ := seg_leaf h.seg l hl
  have hside := seg_beside h.seg h.nd h.nv hF (fun x hx => hx)
  have hmap : (A ++ (⟨l.b, .slice (some ⟨g, 0, none⟩) (l.ks.length + 1) cap, insK k l.ks⟩ : Leaf) :: B).map (·.b) = (A ++ l :: B).map (·.b) := by simp
  have hrow : rowsOf (A ++ (⟨l.b, .slice (some ⟨g, 0, none⟩) (l.ks.length + 1) cap, insK k l.ks⟩ : Leaf) :: B) = rowsOf A ++ (g :: rowsOf B) := by
    rw [rowsOf_append, rowsOf_cons]; rfl
  have hnf : ∀ b c t, w.heap[b]? = some (.cells c t (0, 0)) → (b ≠ l.b) → t ≠ 81 → b ∉ l.foot := fun b c t hb hne ht hm => by
    rcases List.mem_cons.1 hm with e | e
    · exact hne e
    · have e : l.v.ownBlock = some b := by simpa using e
      obtain ⟨c', hc'⟩ := own_ty hL.ents e
      exact ty_ne hb hc' ht rfl
  have hrl : r ≠ l.b := fun e => h.nr (e ▸ List.mem_map_of_mem hl)
  have hlw : l.b < w.heap.size := hp_lt hL.node
  refine ⟨_, ⟨hF.some h.node (hnf r _ _ h.node hrl (by decide)), ?_, ?_, h.low, ?_, by rw [hmap]; exact h.nd, by rw [hmap]; exact h.nr, ?_⟩, ?_, ?_⟩
  · unfold Ptrs; rw [hmap]
    exact owns_fr h.ch hF (fun g' hg' => by obtain ⟨c, hc⟩ := own_ty h.ch hg'; exact hnf g' c 39 hc (ty_ne hc hL.node (by decide)) (by decide))
  · exact owns_fr h.se hF (fun g' hg' => by obtain ⟨c, hc⟩ := own_ty h.se hg'; exact hnf g' c 9 hc (ty_ne hc hL.node (by decide)) (by decide))
  · have hs := h.seg
    rw [seg_append] at hs ⊢
    obtain ⟨hA, hLB⟩ := hs
    refine ⟨?_, hL', ?_⟩
    · exact seg_carry hF A _ _ hA (fun m hm => hside m (.inl hm))
    · exact seg_carry hF B _ _ hLB.2 (fun m hm => hside m (.inr hm))
  · rw [hrow]
    have hnv := h.nv
    rw [rowsOf_append, rowsOf_cons] at hnv
    rcases hgg with e | e
    · rw [e] at hnv; simpa using hnv
    · have hlt : ∀ x, x ∈ rowsOf A ∨ x ∈ rowsOf B → x < w.heap.size := fun x hx => by
        obtain ⟨c, hc⟩ := (seg_ty h.seg).2 x (by rw [rowsOf_append, rowsOf_cons]; rcases hx with hx | hx <;> simp [hx])
        exact hp_lt hc
      rw [List.nodup_append] at hnv ⊢
      obtain ⟨q1, q2, q3⟩ := hnv
      rw [List.nodup_append] at q2
      refine ⟨q1, List.nodup_cons.2 ⟨fun hm => by have := hlt g (.inr hm); omega, q2.2.1⟩, fun a ha b hb e' => ?_⟩
      rcases List.mem_cons.1 hb with hb | hb
      · have := hlt a (.inl ha); omega
      · exact q3 a ha b (by simp [hb]) e'
  · exact hF.mono (fun x hx => by simp only [footI, List.mem_cons, List.mem_append]; exact .inr (.inr (.inr (foot_sub hx))))
  · intro x hx
    simp only [footI, footL, hmap, hrow, List.mem_cons, List.mem_append, rowsOf_append, rowsOf_cons, Option.mem_toList] at hx ⊢
    rcases hx with hx | hx | hx | hx | hx | hx | hx
    · exact .inl (.inl hx)
    · exact .inl (.inr (.inl hx))
    · exact .inl (.inr (.inr (.inl hx)))
    · exact .inl (.inr (.inr (.inr (.inl hx))))
    · exact .inl (.inr (.inr (.inr (.inr (.inl hx)))))
    · subst hx
      rcases hgg with e | e
      · exact .inl (.inr (.inr (.inr (.inr (.inr (.inl e))))))
      · exact .inr e
    · exact .inl (.inr (.inr (.inr (.inr (.inr (.inr hx))))))
end Go.Proofs.Ybulkckvy
