import Derived.Test.YbulkckvyIdx8
import Derived.Test.YbulkckvyBs
set_option linter.unusedVariables false
set_option linter.unusedSimpArgs false
namespace Go.Proofs.Ybulkckvy
open Go.RowKit

theorem pos_split2 {k : ByteArray} {A C : List ByteArray} (h1 : ∀ x ∈ A, klt x k = true) (h2 : ∀ x ∈ C, klt x k = false) : pos k (A ++ C) = A.length := by
  unfold pos
  rw [List.countP_append, List.countP_eq_length.2 h1, List.countP_eq_zero.2 (fun x hx => by simp [h2 x hx])]
  omega
theorem pos_delIf {d : ByteArray} {K : List ByteArray} (hr : Rising K) : pos d (delIf d K) = pos d K := by
  unfold delIf
  split
  · have hp := pos_le d K
    unfold delK
    rw [pos_split2, List.length_take]
    · omega
    · intro x hx
      obtain ⟨i, hi, rfl⟩ := List.getElem_of_mem hx
      rw [List.length_take] at hi
      rw [List.getElem_take]
      exact pos_lt hr (by omega) (by omega)
    · intro x hx
      obtain ⟨i, hi, rfl⟩ := List.getElem_of_mem hx
      rw [List.length_drop] at hi
      rw [List.getElem_drop]
      exact pos_ge hr (by omega) (by omega)
  · rfl
theorem found_pos {d : ByteArray} {K : List ByteArray} (h : foundB d K = true) : pos d K < K.length := by
  unfold foundB at h
  cases hk : K[pos d K]? with
  | none => rw [hk] at h; cases h
  | some x => exact (List.getElem?_eq_some_iff.1 hk).1
theorem delK_len {d : ByteArray} {K : List ByteArray} (h : pos d K < K.length) : (delK d K).length = pos d K + (K.length - (pos d K + 1)) := by
  unfold delK
  rw [List.length_append, List.length_take, List.length_drop]
  omega

/-- The index over K, the model row (in the block g) over M. -/
structure MGen (w : World) (g cap : Nat) (K M : List ByteArray) (F : List Nat) (wr : World) : Prop where
  idx : IdxAt wr w.heap.size (w.heap.size + 1) K F
  out : g ∉ F
  mod : Strs wr w.heap.size (.slice (some ⟨g, 0, none⟩) M.length cap) M
  bel : Below w.heap.size w wr
theorem MGen.ext {w wr w' : World} {g cap : Nat} {K M : List ByteArray} {F : List Nat} (h : MGen w g cap K M F wr) (hx : Ext wr w') : MGen w g cap K M F w' :=
  ⟨h.idx.ext hx, h.out, h.mod.ext hx, h.bel.trans (hx.below h.bel.size)⟩
theorem IdxAt.rising {w : World} {base xb : Nat} {K : List ByteArray} {F : List Nat} (h : IdxAt w base xb K F) : Rising K := by
  obtain ⟨root, ls, ss, a0, a1, a2, a3, _, hT, rfl⟩ := h.ex
  exact hT.good.rising
theorem IdxAt.lt {w : World} {base xb : Nat} {K : List ByteArray} {F : List Nat} (h : IdxAt w base xb K F) : ∀ x ∈ F, x < w.heap.size := by
  obtain ⟨root, ls, ss, a0, a1, a2, a3, _, hT, rfl⟩ := h.ex
  intro x hx
  obtain ⟨c, t, hc, _⟩ := hT.types x hx
  exact hp_lt hc
theorem MGen.row {w wr : World} {g cap : Nat} {K M : List ByteArray} {F : List Nat} (h : MGen w g cap K M F wr) : w.heap.size ≤ g ∧ g < wr.heap.size ∧ g ≠ w.heap.size + 1 ∧ ∃ c, wr.heap[g]? = some (.cells c 9 (0, 0)) := by
  obtain ⟨c, hc⟩ := own_ty h.mod (g := g) rfl
  obtain ⟨root, ls, ss, a0, a1, a2, a3, hx, _, _⟩ := h.idx.ex
  refine ⟨?_, hp_lt hc, ty_ne hc hx (by decide), c, hc⟩
  rcases h.mod.2 with ⟨q, _⟩ | ⟨g', cap', cur, q, hg, _⟩
  · cases q
  · have e : g = g' := by injection q with q _ _; injection q with q; injection q
    omega
theorem mem_str {K : List ByteArray} {u : Value} (h : u ∈ K.map Value.string) : u.oneCell' = true := by
  obtain ⟨s, _, rfl⟩ := List.mem_map.1 h
  rfl
theorem MGen.insM {w wr W w3 : World} {g cap : Nat} {K : List ByteArray} {F : List Nat} {k : ByteArray} {e : Ending} (h : MGen w g cap K K F wr) (hx : Ext wr W)
    (hp : InsPost W w.heap.size 9 1 (.slice (some ⟨g, 0, none⟩) K.length cap) K.length ((K.map Value.string).take (pos k K) ++ [.string k] ++ (K.map Value.string).drop (pos k K)) e w3) :
    ∃ g' cap', e = .returned (.slice (some ⟨g', 0, none⟩) (insK k K).length cap') ∧ MGen w g' cap' K (insK k K) F w3 := by
  have h2 := h.ext hx
  obtain ⟨v', g', rfl, hown, hgrow, hg', hor⟩ := hp
  have hlen : (insK k K).length = K.length + 1 := insK_length k K
  have hf : Fr [g] W w3 := Fr.of_grown hgrow _ (fun x hx => .inl (by have e : some g = some x := hx; injection e with e; simp [e]))
  obtain ⟨r1, r2, r3, c, r4⟩ := h2.row
  have hz : (K.map Value.string).take (pos k K) ++ [.string k] ++ (K.map Value.string).drop (pos k K) = (insK k K).map Value.string := by
    unfold insK; simp [List.map_take, List.map_drop]
  rw [hz] at hown
  obtain ⟨g2, cap', rfl⟩ := own_form hown
  have e2 : g2 = g' := by injection hg'
  subst e2
  refine ⟨g2, cap', by rw [hlen], h2.idx.carry r3 h2.out hf, ?_, ?_, h2.bel.trans (hf.below h2.bel.size (by simpa using r1))⟩
  · rcases hor with q | q
    · have : g = g2 := by injection q
      rw [← this]; exact h2.out
    · intro hm
      have := h2.idx.lt _ hm
      omega
  · unfold Strs
    rw [hlen]; exact hown
theorem MGen.insT {w w3 w4 : World} {g cap : Nat} {K M : List ByteArray} {F : List Nat} {k : ByteArray} {e : Ending} (h : MGen w g cap K M F w3) (hd : IdxIns w3 w.heap.size (w.heap.size + 1) K F k e w4) : e = .returned (.tuple #[]) ∧ ∃ F', MGen w g cap (insK k K) M F' w4 := by
  obtain ⟨he, F', hI, hF, hG⟩ := hd
  obtain ⟨r1, r2, r3, c, r4⟩ := h.row
  refine ⟨he, F', hI, fun hm => ?_, owns_fr h.mod hF (fun x hx hm => ?_), h.bel.trans (hF.below h.bel.size (fun x hm => ?_))⟩
  · rcases hG _ hm with q | q
    · exact h.out q
    · omega
  · have e : g = x := by injection hx
    subst e
    rcases List.mem_cons.1 hm with q | q
    · exact r3 q
    · exact h.out q
  · rcases List.mem_cons.1 hm with q | q
    · omega
    · exact h.idx.ge x q
/-- Behind Delete and the cursor's copy. -/
structure MCur (w : World) (g cap : Nat) (K M : List ByteArray) (F : List Nat) (d : ByteArray) (b i cb : Nat) (W : World) : Prop where
  gen : MGen w g cap K M F W
  cur : CurAt W w.heap.size (w.heap.size + 1) K d (.agg #[.pointer (some ⟨w.heap.size + 1, 0, none⟩), .pointer (some ⟨b, 0, none⟩), .int .i64 (i : Int)])
  cell : W.heap[cb]? = some (.cells #[.pointer (some ⟨w.heap.size + 1, 0, none⟩), .pointer (some ⟨b, 0, none⟩), .int .i64 (i : Int)] 55 (0, 0))
theorem MCur.ext {w W W' : World} {g cap : Nat} {K M : List ByteArray} {F : List Nat} {d : ByteArray} {b i cb : Nat} (h : MCur w g cap K M F d b i cb W) (hx : Ext W W') : MCur w g cap K M F d b i cb W' := ⟨h.gen.ext hx, h.cur.ext hx, hx.some h.cell⟩
theorem MGen.delT {w w3 w4 : World} {g cap : Nat} {K M : List ByteArray} {F : List Nat} {d : ByteArray} {e : Ending} (h : MGen w g cap K M F w3) (hd : IdxDel w3 w.heap.size (w.heap.size + 1) K F d e w4) :
    ∃ (b i : Nat) (F' : List Nat), e = .returned (.tuple #[.agg #[.pointer (some ⟨w.heap.size + 1, 0, none⟩), .pointer (some ⟨b, 0, none⟩), .int .i64 (i : Int)], .bool (foundB d K)]) ∧
      MCur w g cap (delIf d K) M F' d b i w4.heap.size (w4.alloc (.cells #[.pointer (some ⟨w.heap.size + 1, 0, none⟩), .pointer (some ⟨b, 0, none⟩), .int .i64 (i : Int)] 55)) := by
  obtain ⟨b, i, F', he, hI, hc, hF, hG⟩ := hd
  obtain ⟨r1, r2, r3, c, r4⟩ := h.row
  have hx := (Ext.refl w4).alloc (.cells #[.pointer (some ⟨w.heap.size + 1, 0, none⟩), .pointer (some ⟨b, 0, none⟩), .int .i64 (i : Int)] 55)
  have hg : MGen w g cap (delIf d K) M F' w4 := by
    refine ⟨hI, fun hm => ?_, owns_fr h.mod hF (fun x hx hm => ?_), h.bel.trans (hF.below h.bel.size (fun x hm => ?_))⟩
    · rcases hG _ hm with q | q
      · exact h.out q
      · omega
    · have e : g = x := by injection hx
      subst e
      rcases List.mem_cons.1 hm with q | q
      · exact r3 q
      · exact h.out q
    · rcases List.mem_cons.1 hm with q | q
      · omega
      · exact h.idx.ge x q
  exact ⟨b, i, F', he, hg.ext hx, hc.ext hx, hp_alloc_new _ _⟩
/-- The model's entry is struck out. -/
theorem MCur.delM {w W w5 : World} {g cap n j : Nat} {K M : List ByteArray} {F : List Nat} {d : ByteArray} {b i cb : Nat} (h : MCur w g cap K M F d b i cb W) (hp : pos d M < M.length)
    (hown : w5.ownsRow w.heap.size 9 1 (.slice (some ⟨g, 0, none⟩) (pos d M + (M.length - (pos d M + 1))) cap) (pos d M + (M.length - (pos d M + 1))) ((M.map Value.string).take (pos d M) ++ (M.map Value.string).drop (pos d M + 1))) (hgrow : W.grownBy w5 (some g)) :
    MCur w g cap K (delK d M) F d b i cb w5 := by
  have hf : Fr [g] W w5 := Fr.of_grown hgrow _ (fun x hx => .inl (by injection hx with e; simp [e]))
  obtain ⟨r1, r2, r3, c, r4⟩ := h.gen.row
  have hz : (M.map Value.string).take (pos d M) ++ (M.map Value.string).drop (pos d M + 1) = (delK d M).map Value.string := by
    unfold delK; simp [List.map_take, List.map_drop]
  rw [hz, ← delK_len hp] at hown
  exact ⟨⟨h.gen.idx.carry r3 h.gen.out hf, h.gen.out, hown, h.gen.bel.trans (hf.below h.gen.bel.size (by simpa using r1))⟩, h.cur.carry2 r4 (by decide) hf, hf.some h.cell (by simpa using ty_ne h.cell r4 (by decide))⟩
theorem MGen.start (w : World) :
    MGen w (w.heap.size + 1 + 1) 0 [] [] [w.heap.size] (((w.alloc (.cells #[.slice none 0 0, .pointer none, .pointer none, .slice none 0 0, .slice none 0 0] 44)).alloc (.cells #[.string ⟨#[]⟩, .pointer none, .slice none 0 0, .slice none 0 0, .bool true, .bool true, .pointer (some ⟨w.heap.size, 0, none⟩)] 48)).alloc (.cells #[] 9)) := by
  have s1 := hp_alloc_size w (.cells #[.slice none 0 0, .pointer none, .pointer none, .slice none 0 0, .slice none 0 0] 44)
  have s2 := hp_alloc_size (w.alloc (.cells #[.slice none 0 0, .pointer none, .pointer none, .slice none 0 0, .slice none 0 0] 44)) (.cells #[.string ⟨#[]⟩, .pointer none, .slice none 0 0, .slice none 0 0, .bool true, .bool true, .pointer (some ⟨w.heap.size, 0, none⟩)] 48)
  have hx : Ext w (((w.alloc (.cells #[.slice none 0 0, .pointer none, .pointer none, .slice none 0 0, .slice none 0 0] 44)).alloc (.cells #[.string ⟨#[]⟩, .pointer none, .slice none 0 0, .slice none 0 0, .bool true, .bool true, .pointer (some ⟨w.heap.size, 0, none⟩)] 48)).alloc (.cells #[] 9)) := (((Ext.refl w).alloc _).alloc _).alloc _
  have e1 := (((Ext.refl _).alloc (.cells #[.string ⟨#[]⟩, .pointer none, .slice none 0 0, .slice none 0 0, .bool true, .bool true, .pointer (some ⟨w.heap.size, 0, none⟩)] 48)).alloc (.cells #[] 9)).some (hp_alloc_new w (.cells #[.slice none 0 0, .pointer none, .pointer none, .slice none 0 0, .slice none 0 0] 44))
  have e2 := ((Ext.refl _).alloc (.cells #[] 9)).some (hp_alloc_new (w.alloc (.cells #[.slice none 0 0, .pointer none, .pointer none, .slice none 0 0, .slice none 0 0] 44)) (.cells #[.string ⟨#[]⟩, .pointer none, .slice none 0 0, .slice none 0 0, .bool true, .bool true, .pointer (some ⟨w.heap.size, 0, none⟩)] 48))
  have e3 := hp_alloc_new ((w.alloc (.cells #[.slice none 0 0, .pointer none, .pointer none, .slice none 0 0, .slice none 0 0] 44)).alloc (.cells #[.string ⟨#[]⟩, .pointer none, .slice none 0 0, .slice none 0 0, .bool true, .bool true, .pointer (some ⟨w.heap.size, 0, none⟩)] 48)) (.cells #[] 9)
  rw [s1] at e2
  rw [s2, s1] at e3
  refine ⟨⟨w.heap.size, [⟨w.heap.size, .slice none 0 0, []⟩], [], _, _, _, _, e2, ⟨⟨rfl, List.Pairwise.nil, fun h => by simp [kssOf] at h, fun c hc => by simp [kssOf] at hc; simp [hc]⟩, .inl ⟨_, rfl, rfl, rfl, ⟨e1, ⟨rfl, .inl ⟨rfl, rfl⟩⟩, Nat.le_refl _⟩, rfl⟩, hx.le⟩, by simp [keysOf, kssOf]⟩, by simp; omega, ?_, hx⟩
  exact ⟨rfl, .inr ⟨_, 0, #[], rfl, by omega, e3, by simp, by unfold maxLen; omega, rfl, rfl⟩⟩
end Go.Proofs.Ybulkckvy
