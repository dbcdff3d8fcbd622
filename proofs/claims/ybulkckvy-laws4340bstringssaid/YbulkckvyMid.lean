import Derived.Test.YbulkckvyInsInner
set_option linter.unusedVariables false
set_option linter.unusedSimpArgs false
namespace Go.Proofs.Ybulkckvy
open Go.RowKit

/-- An inner root in the making: what its row of children holds (bs) need not be its leaves yet. -/
structure InnerG (w : World) (base r : Nat) (vc vs : Value) (bs : List Nat) (ls : List Leaf) (ss : List ByteArray) : Prop where
  node : w.heap[r]? = some (.cells #[.slice none 0 0, .pointer none, .pointer none, vc, vs] 44 (0, 0))
  ch : Ptrs w base vc bs
  se : Strs w base vs ss
  low : base ≤ r
  seg : Seg w base none ls none
  nd : (ls.map (·.b)).Nodup
  nr : r ∉ ls.map (·.b)
  nv : (rowsOf ls).Nodup
theorem Inner.toG {w : World} {base r : Nat} {vc vs : Value} {ls : List Leaf} {ss : List ByteArray} (h : Inner w base r vc vs ls ss) : InnerG w base r vc vs (ls.map (·.b)) ls ss := ⟨h.node, h.ch, h.se, h.low, h.seg, h.nd, h.nr, h.nv⟩
theorem InnerG.toI {w : World} {base r : Nat} {vc vs : Value} {ls : List Leaf} {ss : List ByteArray} (h : InnerG w base r vc vs (ls.map (·.b)) ls ss) : Inner w base r vc vs ls ss := ⟨h.node, h.ch, h.se, h.low, h.seg, h.nd, h.nr, h.nv⟩
theorem InnerG.ext {w w' : World} {base r : Nat} {vc vs : Value} {bs : List Nat} {ls : List Leaf} {ss : List ByteArray} (h : InnerG w base r vc vs bs ls ss) (hx : Ext w w') : InnerG w' base r vc vs bs ls ss :=
  ⟨hx.some h.node, h.ch.ext hx, h.se.ext hx, h.low, seg_carry (Fr.of_ext hx []) _ _ _ h.seg (by simp), h.nd, h.nr, h.nv⟩
theorem InnerG.cell3 {w : World} {base r : Nat} {vc vs : Value} {bs : List Nat} {ls : List Leaf} {ss : List ByteArray} (h : InnerG w base r vc vs bs ls ss) : w.cell? ⟨r, 3, none⟩ = some vc := by rw [hp_cell h.node]; rfl
theorem InnerG.cell4 {w : World} {base r : Nat} {vc vs : Value} {bs : List Nat} {ls : List Leaf} {ss : List ByteArray} (h : InnerG w base r vc vs bs ls ss) : w.cell? ⟨r, 4, none⟩ = some vs := by rw [hp_cell h.node]; rfl
theorem InnerG.free {w : World} {base r : Nat} {vc vs : Value} {bs : List Nat} {ls : List Leaf} {ss : List ByteArray} (h : InnerG w base r vc vs bs ls ss) (o : Nat) : w.frozen? ⟨r, o, none⟩ = false := hp_frozen h.node o

/-- The leaves stand where blocks of other types turn. -/
theorem seg_other {w w' : World} {base : Nat} {ls : List Leaf} {bs : List Nat} (hs : Seg w base none ls none) (hf : Fr bs w w') (hb : ∀ x ∈ bs, (∀ c, w.heap[x]? = some (.cells c 44 (0, 0)) → x ∉ ls.map (·.b)) ∧ ∀ c, w.heap[x]? ≠ some (.cells c 81 (0, 0))) : Seg w' base none ls none := by
  have hty := seg_ty hs
  refine seg_carry hf _ _ _ hs (fun l hl => ⟨fun hm => ?_, fun g hg hm => ?_⟩)
  · have hmem : l.b ∈ ls.map (·.b) := List.mem_map_of_mem hl
    obtain ⟨c, hc⟩ := hty.1 _ hmem
    exact (hb _ hm).1 c hc hmem
  · obtain ⟨c, hc⟩ := hty.2 g (mem_rows hl hg)
    exact (hb _ hm).2 c hc

/-- The row of separators is turned and stored back. -/
theorem InnerG.setSeps {w W : World} {base r : Nat} {vc vs v' : Value} {bs : List Nat} {ls : List Leaf} {ss ss' : List ByteArray} (h : InnerG w base r vc vs bs ls ss) (hg : w.grownBy W vs.ownBlock) (hs : Strs W base v' ss') :
    InnerG (W.setCell ⟨r, 4, none⟩ v') base r vc v' bs ls ss' ∧ Fr (r :: vs.ownBlock.toList) w (W.setCell ⟨r, 4, none⟩ v') := by
  have hne : ∀ b c t, w.heap[b]? = some (.cells c t (0, 0)) → t ≠ 9 → some b ≠ vs.ownBlock := fun b c t hb ht e => by
    obtain ⟨c', hc'⟩ := own_ty h.se e.symm
    exact ty_ne hb hc' ht rfl
  have hF0 : Fr vs.ownBlock.toList w W := Fr.of_grown hg _ (fun g hg => .inl (by rw [hg]; simp))
  have hF : Fr (r :: vs.ownBlock.toList) w (W.setCell ⟨r, 4, none⟩ v') := (hF0.mono (fun x hx => List.mem_cons_of_mem _ hx)).set _ _ (.inl (by simp))
  have hn : W.heap[r]? = _ := (hg.block r (hp_lt h.node) (hne r _ _ h.node (by decide))).trans h.node
  refine ⟨⟨by rw [hp_set_same _ _ _ _ _ _ _ hn]; rfl, ?_, ?_, h.low, ?_, h.nd, h.nr, h.nv⟩, hF⟩
  · refine owns_fr h.ch hF (fun g hg' hm => ?_)
    obtain ⟨c, hc⟩ := own_ty h.ch hg'
    rcases List.mem_cons.1 hm with e | e
    · exact ty_ne hc h.node (by decide) e
    · exact hne g c 39 hc (by decide) (Option.mem_toList.1 e).symm
  · refine owns_block hs (fun g o hg' ho => ?_)
    obtain ⟨c, hc⟩ := own_ty hs hg'
    rw [hp_set_ne _ _ _ _ (ty_ne hc hn (by decide))]; exact ho
  · refine seg_other h.seg hF (fun x hx => ⟨fun c hc hm => ?_, fun c hc => ?_⟩)
    · rcases List.mem_cons.1 hx with e | e
      · exact h.nr (e ▸ hm)
      · exact hne x c 44 hc (by decide) (Option.mem_toList.1 e).symm
    · rcases List.mem_cons.1 hx with e | e
      · exact ty_ne hc h.node (by decide) e
      · exact hne x c 81 hc (by decide) (Option.mem_toList.1 e).symm
/-- The row of children likewise. -/
theorem InnerG.setCh {w W : World} {base r : Nat} {vc vs v' : Value} {bs bs' : List Nat} {ls : List Leaf} {ss : List ByteArray} (h : InnerG w base r vc vs bs ls ss) (hg : w.grownBy W vc.ownBlock) (hs : Ptrs W base v' bs') :
    InnerG (W.setCell ⟨r, 3, none⟩ v') base r v' vs bs' ls ss ∧ Fr (r :: vc.ownBlock.toList) w (W.setCell ⟨r, 3, none⟩ v') := by
  have hne : ∀ b c t, w.heap[b]? = some (.cells c t (0, 0)) → t ≠ 39 → some b ≠ vc.ownBlock := fun b c t hb ht e => by
    obtain ⟨c', hc'⟩ := own_ty h.ch e.symm
    exact ty_ne hb hc' ht rfl
  have hF0 : Fr vc.ownBlock.toList w W := Fr.of_grown hg _ (fun g hg => .inl (by rw [hg]; simp))
  have hF : Fr (r :: vc.ownBlock.toList) w (W.setCell ⟨r, 3, none⟩ v') := (hF0.mono (fun x hx => List.mem_cons_of_mem _ hx)).set _ _ (.inl (by simp))
  have hn : W.heap[r]? = _ := (hg.block r (hp_lt h.node) (hne r _ _ h.node (by decide))).trans h.node
  refine ⟨⟨by rw [hp_set_same _ _ _ _ _ _ _ hn]; rfl, ?_, ?_, h.low, ?_, h.nd, h.nr, h.nv⟩, hF⟩
  · refine owns_block hs (fun g o hg' ho => ?_)
    obtain ⟨c, hc⟩ := own_ty hs hg'
    rw [hp_set_ne _ _ _ _ (ty_ne hc hn (by decide))]; exact ho
  · refine owns_fr h.se hF (fun g hg' hm => ?_)
    obtain ⟨c, hc⟩ := own_ty h.se hg'
    rcases List.mem_cons.1 hm with e | e
    · exact ty_ne hc h.node (by decide) e
    · exact hne g c 9 hc (by decide) (Option.mem_toList.1 e).symm
  · refine seg_other h.seg hF (fun x hx => ⟨fun c hc hm => ?_, fun c hc => ?_⟩)
    · rcases List.mem_cons.1 hx with e | e
      · exact h.nr (e ▸ hm)
      · exact hne x c 44 hc (by decide) (Option.mem_toList.1 e).symm
    · rcases List.mem_cons.1 hx with e | e
      · exact ty_ne hc h.node (by decide) e
      · exact hne x c 81 hc (by decide) (Option.mem_toList.1 e).symm

/-- The leaves behind a split one: the first of them has another leaf ahead of it now. -/
theorem seg_tail {w w' : World} {base : Nat} {B : List Leaf} {lb rb : Nat} {bs : List Nat} (hs : Seg w base (some lb) B none) (hf : Fr bs w w') (hB : ∀ m ∈ B, (m.b ∉ bs ∨ nextB B none = some m.b) ∧ ∀ g, m.v.ownBlock = some g → g ∉ bs)
    (hd : ∀ nb c, nextB B none = some nb → w.heap[nb]? = some (.cells c 44 (0, 0)) → w'.heap[nb]? = some (.cells (c.setIfInBounds 1 (.pointer (some ⟨rb, 0, none⟩))) 44 (0, 0))) (hnd : (B.map (·.b)).Nodup) : Seg w' base (some rb) B none := by
  cases B with
  | nil => trivial
  | cons m B =>
    obtain ⟨h1, h2⟩ := hs
    refine ⟨⟨?_, owns_fr h1.ents hf (hB m (by simp)).2, h1.low⟩, seg_carry hf B _ _ h2 (fun m' hm' => ⟨?_, (hB m' (by simp [hm'])).2⟩)⟩
    · rw [hd m.b _ rfl h1.node]; rfl
    · rcases (hB m' (by simp [hm'])).1 with h | h
      · exact h
      · simp only [nextB, Option.some.injEq] at h
        rw [List.map_cons, List.nodup_cons] at hnd
        exact absurd (List.mem_map_of_mem hm') (h ▸ hnd.1)

theorem Inner.split {w w4 : World} {base r : Nat} {vc vs : Value} {A B : List Leaf} {l : Leaf} {ss : List ByteArray} {k : ByteArray} {e : Ending} (h : Inner w base r vc vs (A ++ l :: B) ss) (hsp : SplitPost w base l (lastB A none) (nextB B none) k e w4) :
    ∃ (l1 l2 : Leaf) (x : ByteArray), e = .returned (.tuple #[.string x, .pointer (some ⟨l2.b, 0, none⟩)]) ∧ (insK k l.ks)[32]? = some x ∧ l1.b = l.b ∧ l1.ks = (insK k l.ks).take 32 ∧ l2.ks = (insK k l.ks).drop 32 ∧
      InnerG w4 base r vc vs ((A ++ l :: B).map (·.b)) (A ++ l1 :: l2 :: B) ss ∧ Fr (footL (A ++ l :: B)) w w4 ∧ ∀ x ∈ footL (A ++ l1 :: l2 :: B), x ∈ footL (A ++ l :: B) ∨ w.heap.size ≤ x := by
  obtain ⟨g, cap, rb, rg, x, he, hx, hL1, hL2, hF, hgg, hrb, hrg, hrbg, hrgg, hnx⟩ := hsp
  refine ⟨⟨l.b, .slice (some ⟨g, 0, none⟩) 32 cap, (insK k l.ks).take 32⟩, ⟨rb, .slice (some ⟨rg, 0, none⟩) 33 65, (insK k l.ks).drop 32⟩, x, he, hx, rfl, rfl, rfl, ?_, ?_, ?_⟩
  · have hl : l ∈ A ++ l :: B := by simp
    have hL := h.leaf
    have hty := seg_ty h.seg
    have hnd := h.nd
    simp only [List.map_append, List.map_cons] at hnd
    rw [List.nodup_append, List.nodup_cons] at hnd
    obtain ⟨nA, ⟨nl, nB⟩, nAB⟩ := hnd
    have hnv := h.nv
    rw [rowsOf_append, rowsOf_cons, List.nodup_append, List.nodup_append] at hnv
    obtain ⟨vA, ⟨vl, vB, vlB⟩, vAB⟩ := hnv
    have hnextB : ∀ nb, nextB B none = some nb → nb ∈ B.map (·.b) := fun nb hn => by
      cases B with
      | nil => cases hn
      | cons m B => simp only [nextB, Option.some.injEq] at hn; simp [hn]
    have hlb : ∀ m ∈ A ++ l :: B, m.b < w.heap.size := fun m hm => by obtain ⟨c, hc⟩ := hty.1 m.b (List.mem_map_of_mem hm); exact hp_lt hc
    have hlv : ∀ x ∈ rowsOf (A ++ l :: B), x < w.heap.size := fun x hm => by obtain ⟨c, hc⟩ := hty.2 x hm; exact hp_lt hc
    -- a block of another type than 81 that is neither l's nor the next leaf's is kept
    have hout : ∀ b c t, w.heap[b]? = some (.cells c t (0, 0)) → b ≠ l.b → t ≠ 81 → b ∉ B.map (·.b) → b ∉ l.foot ++ (nextB B none).toList := fun b c t hb h1 h2 h3 hm => by
      rcases List.mem_append.1 hm with hm | hm
      · rcases List.mem_cons.1 hm with e | e
        · exact h1 e
        · obtain ⟨c', hc'⟩ := own_ty hL.ents (Option.mem_toList.1 e)
          exact ty_ne hb hc' h2 rfl
      · exact h3 (hnextB b (Option.mem_toList.1 hm))
    -- a row of another leaf is kept
    have hrow : ∀ m, m ∈ A ∨ m ∈ B → ∀ g', m.v.ownBlock = some g' → g' ∉ l.foot ++ (nextB B none).toList := fun m hm g' hg' hx => by
      have hmm : m ∈ A ++ l :: B := by rcases hm with h | h <;> simp [h]
      obtain ⟨pm, nm, hM⟩ := seg_leaf h.seg m hmm
      rcases List.mem_append.1 hx with hx | hx
      · rcases List.mem_cons.1 hx with e | e
        · exact hM.row_ne hg' hL.node e
        · rcases hm with hm | hm
          · exact vAB _ (mem_rows hm hg') _ (by simp [Option.mem_toList.1 e]) rfl
          · exact vlB _ e _ (mem_rows hm hg') rfl
      · obtain ⟨c, hc⟩ := hty.1 g' (by have := hnextB g' (Option.mem_toList.1 hx); simp only [List.map_append, List.map_cons]; simp [this])
        obtain ⟨c', hc'⟩ := own_ty hM.ents hg'
        exact ty_ne hc hc' (by decide) rfl
    have hrl : r ≠ l.b := fun e => h.nr (e ▸ List.mem_map_of_mem hl)
    have hrB : r ∉ B.map (·.b) := fun hm => h.nr (by simp only [List.map_append, List.map_cons]; simp [hm])
    have hseg := h.seg
    rw [seg_append] at hseg
    obtain ⟨sA, _, sB⟩ := hseg
    refine ⟨hF.some h.node (hout r _ _ h.node hrl (by decide) hrB), ?_, ?_, h.low, ?_, ?_, ?_, ?_⟩
    · exact owns_fr h.ch hF (fun g' hg' => by
        obtain ⟨c, hc⟩ := own_ty h.ch hg'
        exact hout g' c 39 hc (ty_ne hc hL.node (by decide)) (by decide) (fun hm => by
          obtain ⟨c', hc'⟩ := hty.1 g' (by simp only [List.map_append, List.map_cons]; simp [hm])
          exact ty_ne hc hc' (by decide) rfl))
    · exact owns_fr h.se hF (fun g' hg' => by
        obtain ⟨c, hc⟩ := own_ty h.se hg'
        exact hout g' c 9 hc (ty_ne hc hL.node (by decide)) (by decide) (fun hm => by
          obtain ⟨c', hc'⟩ := hty.1 g' (by simp only [List.map_append, List.map_cons]; simp [hm])
          exact ty_ne hc hc' (by decide) rfl))
    · rw [seg_append]
      refine ⟨?_, hL1, hL2, ?_⟩
      · refine seg_carry hF A _ _ sA (fun m hm => ⟨?_, hrow m (.inl hm)⟩)
        have hmm : m ∈ A ++ l :: B := by simp [hm]
        obtain ⟨c, hc⟩ := hty.1 m.b (List.mem_map_of_mem hmm)
        exact hout m.b c 44 hc (nAB _ (List.mem_map_of_mem hm) _ (by simp)) (by decide) (fun hB => nAB _ (List.mem_map_of_mem hm) _ (by simp [hB]) rfl)
      · refine seg_tail sB hF (fun m hm => ⟨?_, hrow m (.inr hm)⟩) (fun nb c hn hc => hnx nb c hn hc) nB
        by_cases hq : nextB B none = some m.b
        · exact .inr hq
        · refine .inl (fun hx => ?_)
          have hmm : m ∈ A ++ l :: B := by simp [hm]
          obtain ⟨c, hc⟩ := hty.1 m.b (List.mem_map_of_mem hmm)
          rcases List.mem_append.1 hx with hx | hx
          · rcases List.mem_cons.1 hx with e | e
            · exact nl (e ▸ List.mem_map_of_mem hm)
            · obtain ⟨c', hc'⟩ := own_ty hL.ents (Option.mem_toList.1 e)
              exact ty_ne hc hc' (by decide) rfl
          · exact hq (Option.mem_toList.1 hx)
    · simp only [List.map_append, List.map_cons]
      rw [List.nodup_append, List.nodup_cons, List.nodup_cons]
      refine ⟨nA, ⟨?_, ?_, nB⟩, ?_⟩
      · intro hm
        rcases List.mem_cons.1 hm with e | e
        · have := hlb l hl; omega
        · exact nl e
      · intro hm
        obtain ⟨m, hm', e⟩ := List.mem_map.1 hm
        have := hlb m (by simp [hm'])
        omega
      · intro a ha b hb' e
        rcases List.mem_cons.1 hb' with e' | hb'
        · exact nAB a ha b (by simp [e']) e
        · rcases List.mem_cons.1 hb' with e' | hb'
          · obtain ⟨m, hm', e''⟩ := List.mem_map.1 ha
            have := hlb m (by simp [hm'])
            omega
          · exact nAB a ha b (by simp [hb']) e
    · intro hm
      simp only [List.map_append, List.map_cons, List.mem_append, List.mem_cons] at hm
      have hrw := hp_lt h.node
      rcases hm with hm | hm | hm | hm
      · exact h.nr (by simp only [List.map_append]; simp [hm])
      · exact hrl hm
      · omega
      · exact hrB hm
    · rw [rowsOf_append, rowsOf_cons, rowsOf_cons, List.nodup_append]
      have hlA : ∀ x ∈ rowsOf A, x < w.heap.size := fun x hx => hlv x (by rw [rowsOf_append]; simp [hx])
      have hlB : ∀ x ∈ rowsOf B, x < w.heap.size := fun x hx => hlv x (by rw [rowsOf_append, rowsOf_cons]; simp [hx])
      show (rowsOf A).Nodup ∧ ([g] ++ ([rg] ++ rowsOf B)).Nodup ∧ _
      refine ⟨vA, ?_, ?_⟩
      · simp only [List.singleton_append, List.nodup_cons]
        refine ⟨fun hm => ?_, fun hm => by have := hlB rg hm; omega, vB⟩
        rcases List.mem_cons.1 hm with e | e
        · exact hrgg e.symm
        · rcases hgg with hg | hg
          · exact vlB g (by simp [hg]) g e rfl
          · have := hlB g e; omega
      · intro a ha b hb' e
        have hb'' : b = g ∨ b = rg ∨ b ∈ rowsOf B := by
          have hb1 : b ∈ [g] ++ ([rg] ++ rowsOf B) := hb'
          simpa using hb1
        have := hlA a ha
        rcases hb'' with e' | e' | hb''
        · rcases hgg with hg | hg
          · exact vAB a ha b (by simp [e', hg]) e
          · omega
        · omega
        · exact vAB a ha b (by simp [hb'']) e
  · refine hF.mono (fun y hy => ?_)
    rcases List.mem_append.1 hy with hy | hy
    · exact foot_sub hy
    · have hn := Option.mem_toList.1 hy
      cases B with
      | nil => cases hn
      | cons m B =>
        simp only [nextB, Option.mem_def, Option.some.injEq] at hn
        simp [footL, hn]
  · intro y hy
    simp only [footL, List.map_append, List.map_cons, rowsOf_append, rowsOf_cons, List.mem_append, List.mem_cons] at hy ⊢
    have q1 : ∀ z, z ∈ (Value.slice (some (⟨g, 0, none⟩ : Addr)) 32 cap).ownBlock.toList → z = g := fun z hz => by simpa [Value.ownBlock] using hz
    have q2 : ∀ z, z ∈ (Value.slice (some (⟨rg, 0, none⟩ : Addr)) 33 65).ownBlock.toList → z = rg := fun z hz => by simpa [Value.ownBlock] using hz
    rcases hy with (hy | hy | hy | hy) | (hy | hy | hy | hy)
    · exact .inl (.inl (.inl hy))
    · exact .inl (.inl (.inr (.inl hy)))
    · exact .inr (by omega)
    · exact .inl (.inl (.inr (.inr hy)))
    · exact .inl (.inr (.inl hy))
    · have := q1 y hy
      rcases hgg with hg | hg
      · exact .inl (.inr (.inr (.inl (by simp [hg, this]))))
      · exact .inr (by omega)
    · have := q2 y hy; exact .inr (by omega)
    · exact .inl (.inr (.inr (.inr hy)))
end Go.Proofs.Ybulkckvy
