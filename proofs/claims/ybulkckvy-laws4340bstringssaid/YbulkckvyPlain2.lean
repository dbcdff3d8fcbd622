import Derived.Test.YbulkckvyPlain
import Derived.Test.YbulkckvyInsInner2
set_option linter.unusedVariables false
set_option linter.unusedSimpArgs false
namespace Go.Proofs.Ybulkckvy

theorem headI_cons (c : List ByteArray) (P : List (List ByteArray)) (s : ByteArray) (s1 : List ByteArray) : headI (c :: P) (s :: s1) = c.map kI ++ (sI s :: headI P s1) := by simp [headI]
theorem tailI_cons (c : List ByteArray) (S : List (List ByteArray)) (s : ByteArray) (s2 : List ByteArray) : tailI (s :: s2) (c :: S) = sI s :: (c.map kI ++ tailI s2 S) := by simp [tailI]
theorem mem_kI {x : ByteArray} {c : List ByteArray} : kI x ∈ c.map kI ↔ x ∈ c := by
  constructor
  · intro h
    obtain ⟨y, hy, e⟩ := List.mem_map.1 h
    have : y = x := by simpa [kI] using e
    exact this ▸ hy
  · exact fun h => List.mem_map_of_mem h
theorem not_sI {x : ByteArray} {c : List ByteArray} : sI x ∉ c.map kI := fun h => by
  obtain ⟨y, hy, e⟩ := List.mem_map.1 h
  simp [kI, sI] at e
/-- A key ahead lies below the separator that follows its leaf. -/
theorem key_head : ∀ {P : List (List ByteArray)} {s1 : List ByteArray}, P.length = s1.length → (headI P s1).Pairwise RI → ∀ x, kI x ∈ headI P s1 → ∃ s ∈ s1, klt x s = true
  | [], [], _, _, x, hx => by simp [headI] at hx
  | [], _ :: _, h, _, _, _ => by simp at h
  | _ :: _, [], h, _, _, _ => by simp at h
  | c :: P, s :: s1, h, hp, x, hx => by
    rw [headI_cons] at hp hx
    rw [List.pairwise_append] at hp
    obtain ⟨_, hp2, hp3⟩ := hp
    rcases List.mem_append.1 hx with hx | hx
    · exact ⟨s, by simp, RI_ks.1 (hp3 _ hx (sI s) (by simp))⟩
    · rcases List.mem_cons.1 hx with e | hx
      · simp [kI, sI] at e
      · rw [List.pairwise_cons] at hp2
        obtain ⟨s', hs', hlt⟩ := key_head (by simpa using h) hp2.2 x hx
        exact ⟨s', by simp [hs'], hlt⟩
/-- A key behind lies at or above the separator ahead of its leaf. -/
theorem key_tail : ∀ {s2 : List ByteArray} {S : List (List ByteArray)}, s2.length = S.length → (tailI s2 S).Pairwise RI → ∀ x, kI x ∈ tailI s2 S → ∃ s ∈ s2, klt x s = false
  | [], [], _, _, x, hx => by simp [tailI] at hx
  | [], _ :: _, h, _, _, _ => by simp at h
  | _ :: _, [], h, _, _, _ => by simp at h
  | s :: s2, c :: S, h, hp, x, hx => by
    rw [tailI_cons] at hp hx
    rw [List.pairwise_cons] at hp
    rcases List.mem_cons.1 hx with e | hx
    · simp [kI, sI] at e
    · exact ⟨s, by simp, RI_sk.1 (hp.1 _ hx)⟩
theorem sep_head : ∀ {P : List (List ByteArray)} {s1 : List ByteArray} {s : ByteArray}, sI s ∈ headI P s1 → s ∈ s1
  | [], _, _, h => by simp [headI] at h
  | _ :: _, [], _, h => by simp [headI] at h
  | c :: P, t :: s1, s, h => by
    rw [headI_cons] at h
    rcases List.mem_append.1 h with h | h
    · exact absurd h not_sI
    · rcases List.mem_cons.1 h with e | h
      · simp [sI] at e; simp [e]
      · simp [sep_head h]
theorem sep_tail : ∀ {S : List (List ByteArray)} {s2 : List ByteArray} {s : ByteArray}, sI s ∈ tailI s2 S → s ∈ s2
  | [], _, _, h => by simp [tailI] at h
  | _ :: _, [], _, h => by simp [tailI] at h
  | c :: S, t :: s2, s, h => by
    rw [tailI_cons] at h
    rcases List.mem_cons.1 h with e | h
    · simp [sI] at e; simp [e]
    · rcases List.mem_append.1 h with h | h
      · exact absurd h not_sI
      · simp [sep_tail h]

theorem mem_insK {x k : ByteArray} {ks : List ByteArray} : x ∈ insK k ks ↔ x = k ∨ x ∈ ks := by
  unfold insK
  rw [List.mem_append, List.mem_cons]
  constructor
  · rintro (h | h | h)
    · exact .inr (List.mem_of_mem_take h)
    · exact .inl h
    · exact .inr (List.mem_of_mem_drop h)
  · rintro (h | h)
    · exact .inr (.inl h)
    · rw [← List.take_append_drop (pos k ks) ks, List.mem_append] at h
      rcases h with h | h
      · exact .inl h
      · exact .inr (.inr h)
theorem insK_rising {k : ByteArray} {ks : List ByteArray} (h : Rising ks) (hk : k ∉ ks) : Rising (insK k ks) := by
  unfold insK Rising
  have hs := h
  unfold Rising at hs
  rw [← List.take_append_drop (pos k ks) ks, List.pairwise_append] at hs
  obtain ⟨h1, h2, h3⟩ := hs
  have hlo : ∀ x ∈ ks.take (pos k ks), klt x k = true := fun x hx => by
    obtain ⟨i, hi, rfl⟩ := List.getElem_of_mem hx
    rw [List.length_take] at hi
    rw [List.getElem_take]
    exact pos_lt h (by omega) (by omega)
  have hhi : ∀ x ∈ ks.drop (pos k ks), klt k x = true := fun x hx => by
    have hm := List.mem_of_mem_drop hx
    obtain ⟨i, hi, rfl⟩ := List.getElem_of_mem hx
    rw [List.length_drop] at hi
    rw [List.getElem_drop] at hm ⊢
    have := pos_ge (k := k) h (j := pos k ks + i) (by omega) (by omega)
    cases hh : klt k ks[pos k ks + i] with
    | true => rfl
    | false => exact absurd (klt_total this hh ▸ hm) hk
  rw [List.pairwise_append, List.pairwise_cons]
  refine ⟨h1, ⟨hhi, h2⟩, fun a ha b hb => ?_⟩
  rcases List.mem_cons.1 hb with e | hb
  · rw [e]; exact hlo a ha
  · exact h3 a ha b hb
/-- The place of k in a row whose ends lie on either side of it. -/
theorem pos_mid {k : ByteArray} {P c S : List ByteArray} (h1 : ∀ x ∈ P, klt x k = true) (h2 : ∀ x ∈ S, klt x k = false) : pos k (P ++ c ++ S) = P.length + pos k c := by
  unfold pos
  rw [List.countP_append, List.countP_append]
  have e1 : P.countP (fun x => klt x k) = P.length := List.countP_eq_length.2 h1
  have e2 : S.countP (fun x => klt x k) = 0 := List.countP_eq_zero.2 (fun x hx => by simp [h2 x hx])
  rw [e1, e2]; rfl
theorem insK_mid {k : ByteArray} {P c S : List ByteArray} (h1 : ∀ x ∈ P, klt x k = true) (h2 : ∀ x ∈ S, klt x k = false) : insK k (P ++ c ++ S) = P ++ insK k c ++ S := by
  have hp := pos_le k c
  unfold insK
  rw [pos_mid h1 h2]
  rw [List.append_assoc P c S, List.take_append, List.drop_append]
  rw [List.take_of_length_le (by omega), List.drop_of_length_le (by omega), show P.length + pos k c - P.length = pos k c by omega, List.take_append_of_le_length hp, List.drop_append_of_le_length hp]
  simp
theorem map_rising {c : List ByteArray} : (c.map kI).Pairwise RI ↔ Rising c := by
  unfold Rising
  rw [List.pairwise_map]
  constructor
  · exact fun h => List.pairwise_iff_getElem.2 fun i j hi hj hij => RI_kk.1 (List.pairwise_iff_getElem.1 h i j hi hj hij)
  · exact fun h => List.pairwise_iff_getElem.2 fun i j hi hj hij => RI_kk.2 (List.pairwise_iff_getElem.1 h i j hi hj hij)

/-- Where k belongs. -/
structure Fits (k : ByteArray) (P : List (List ByteArray)) (c : List ByteArray) (S : List (List ByteArray)) (s1 s2 : List ByteArray) : Prop where
  good : Good (P ++ c :: S) (s1 ++ s2)
  len : P.length = s1.length
  lo : ∀ s ∈ s1, klt k s = false
  hi : ∀ s ∈ s2, klt k s = true
theorem Fits.len2 {k : ByteArray} {P : List (List ByteArray)} {c : List ByteArray} {S : List (List ByteArray)} {s1 s2 : List ByteArray} (h : Fits k P c S s1 s2) : s2.length = S.length := by
  have := h.good.len
  have := h.len
  simp at *; omega
theorem Fits.ord {k : ByteArray} {P : List (List ByteArray)} {c : List ByteArray} {S : List (List ByteArray)} {s1 s2 : List ByteArray} (h : Fits k P c S s1 s2) : (headI P s1 ++ (c.map kI ++ tailI s2 S)).Pairwise RI := by
  rw [← seqT_at P s1 c S s2 h.len]; exact h.good.ord
theorem Fits.below {k : ByteArray} {P : List (List ByteArray)} {c : List ByteArray} {S : List (List ByteArray)} {s1 s2 : List ByteArray} (h : Fits k P c S s1 s2) : ∀ x, kI x ∈ headI P s1 → klt x k = true := fun x hx => by
  have ho := h.ord
  rw [List.pairwise_append] at ho
  obtain ⟨s, hs, hlt⟩ := key_head h.len ho.1 x hx
  exact klt_of_lt_le hlt (h.lo s hs)
theorem Fits.above {k : ByteArray} {P : List (List ByteArray)} {c : List ByteArray} {S : List (List ByteArray)} {s1 s2 : List ByteArray} (h : Fits k P c S s1 s2) : ∀ x, kI x ∈ tailI s2 S → klt k x = true := fun x hx => by
  have ho := h.ord
  rw [List.pairwise_append, List.pairwise_append] at ho
  obtain ⟨s, hs, hge⟩ := key_tail h.len2 ho.2.1.2.1 x hx
  exact klt_of_lt_le (h.hi s hs) hge
theorem mem_headK {P : List (List ByteArray)} {s1 : List ByteArray} (h : P.length = s1.length) {x : ByteArray} (hx : x ∈ P.flatten) : kI x ∈ headI P s1 := by
  rw [← keysI_head P s1 h] at hx
  obtain ⟨⟨b, y⟩, hm, he⟩ := List.mem_filterMap.1 hx
  cases b with
  | true => simp at he
  | false => simp at he; subst he; exact hm
theorem mem_tailK {s2 : List ByteArray} {S : List (List ByteArray)} (h : s2.length = S.length) {x : ByteArray} (hx : x ∈ S.flatten) : kI x ∈ tailI s2 S := by
  rw [← keysI_tail s2 S h] at hx
  obtain ⟨⟨b, y⟩, hm, he⟩ := List.mem_filterMap.1 hx
  cases b with
  | true => simp at he
  | false => simp at he; subst he; exact hm
theorem Fits.flat {k : ByteArray} {P : List (List ByteArray)} {c : List ByteArray} {S : List (List ByteArray)} {s1 s2 : List ByteArray} (h : Fits k P c S s1 s2) : insK k (P ++ c :: S).flatten = P.flatten ++ insK k c ++ S.flatten := by
  have : (P ++ c :: S).flatten = P.flatten ++ c ++ S.flatten := by simp
  rw [this]
  refine insK_mid (fun x hx => h.below x (mem_headK h.len hx)) (fun x hx => klt_asymm (h.above x (mem_tailK h.len2 hx)))
theorem Fits.rising {k : ByteArray} {P : List (List ByteArray)} {c : List ByteArray} {S : List (List ByteArray)} {s1 s2 : List ByteArray} (h : Fits k P c S s1 s2) : Rising c := by
  have ho := h.ord
  rw [List.pairwise_append, List.pairwise_append] at ho
  exact map_rising.1 ho.2.1.1
/-- k laid in: all is in order. -/
theorem Fits.ins {k : ByteArray} {P : List (List ByteArray)} {c : List ByteArray} {S : List (List ByteArray)} {s1 s2 : List ByteArray} (h : Fits k P c S s1 s2) (hk : k ∉ (P ++ c :: S).flatten) :
    (headI P s1 ++ ((insK k c).map kI ++ tailI s2 S)).Pairwise RI := by
  have ho := h.ord
  have hkc : k ∉ c := fun hm => hk (by simp [hm])
  rw [List.pairwise_append, List.pairwise_append] at ho ⊢
  obtain ⟨o1, ⟨o2, o3, o4⟩, o5⟩ := ho
  refine ⟨o1, ⟨map_rising.2 (insK_rising h.rising hkc), o3, fun a ha b hb => ?_⟩, fun a ha b hb => ?_⟩
  · obtain ⟨x, hx, rfl⟩ := List.mem_map.1 ha
    rcases mem_insK.1 hx with e | hx
    · rw [e]
      obtain ⟨t, y⟩ := b
      cases t with
      | true => exact RI_ks.2 (h.hi y (sep_tail hb))
      | false => exact RI_kk.2 (h.above y hb)
    · exact o4 _ (mem_kI.2 hx) b hb
  · rcases List.mem_append.1 hb with hb | hb
    · obtain ⟨x, hx, rfl⟩ := List.mem_map.1 hb
      rcases mem_insK.1 hx with e | hx
      · rw [e]
        obtain ⟨t, y⟩ := a
        cases t with
        | true => exact RI_sk.2 (h.lo y (sep_head ha))
        | false => exact RI_kk.2 (h.below y ha)
      · exact o5 a ha _ (List.mem_append_left _ (mem_kI.2 hx))
    · exact o5 a ha b (List.mem_append_right _ hb)
/-- A separator between the two halves of a leaf. -/
theorem cut_ord {H T : List Item} {c1 c2 : List ByteArray} {x : ByteArray} (h : (H ++ ((c1 ++ x :: c2).map kI ++ T)).Pairwise RI) (hc : c1 ≠ []) : (H ++ (c1.map kI ++ (sI x :: ((x :: c2).map kI ++ T)))).Pairwise RI := by
  obtain ⟨y, c1', rfl⟩ := List.exists_cons_of_ne_nil hc
  have e : H ++ (((y :: c1') ++ x :: c2).map kI ++ T) = (H ++ (y :: c1').map kI) ++ ((x :: c2).map kI ++ T) := by simp
  have e' : H ++ ((y :: c1').map kI ++ (sI x :: ((x :: c2).map kI ++ T))) = (H ++ (y :: c1').map kI) ++ (sI x :: ((x :: c2).map kI ++ T)) := by simp
  rw [e, List.pairwise_append] at h
  rw [e', List.pairwise_append, List.pairwise_cons]
  obtain ⟨h1, h2, h3⟩ := h
  have hyx : klt y x = true := RI_kk.1 (h3 (kI y) (by simp) (kI x) (by simp))
  refine ⟨h1, ⟨fun b hb => ?_, h2⟩, fun a ha b hb => ?_⟩
  · obtain ⟨t, z⟩ := b
    rcases List.mem_append.1 hb with hb | hb
    · cases t with
      | true => exact absurd hb not_sI
      | false =>
        have hz : z ∈ x :: c2 := mem_kI.1 hb
        rcases List.mem_cons.1 hz with e | hz
        · subst e; exact RI_sk.2 (klt_irrefl _)
        · rw [List.pairwise_append] at h2
          have := h2.1
          rw [List.map_cons, List.pairwise_cons] at this
          exact RI_sk.2 (klt_asymm (RI_kk.1 (this.1 _ (mem_kI.2 hz))))
    · rw [List.pairwise_append] at h2
      have hx := h2.2.2 (kI x) (by simp) _ hb
      cases t with
      | true => exact RI_ss.2 (RI_ks.1 hx)
      | false => exact RI_sk.2 (klt_asymm (RI_kk.1 hx))
  · rcases List.mem_cons.1 hb with e | hb
    · rw [e]
      have hax := h3 a ha (kI x) (by simp)
      obtain ⟨t, z⟩ := a
      cases t with
      | false => exact RI_ks.2 (RI_kk.1 hax)
      | true =>
        have hH : (true, z) ∈ H := by
          rcases List.mem_append.1 ha with ha | ha
          · exact ha
          · exact absurd ha not_sI
        rw [List.pairwise_append] at h1
        have hzy := RI_sk.1 (h1.2.2 _ hH (kI y) (by simp))
        exact RI_ss.2 (klt_of_le_lt hzy hyx)
    · exact h3 a ha b hb
end Go.Proofs.Ybulkckvy
