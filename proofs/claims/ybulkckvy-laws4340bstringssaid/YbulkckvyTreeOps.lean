import Derived.Test.YbulkckvyPlain2
set_option linter.unusedVariables false
set_option linter.unusedSimpArgs false
namespace Go.Proofs.Ybulkckvy
open Go.RowKit

theorem Fits.fit {k : ByteArray} {P : List (List ByteArray)} {c : List ByteArray} {S : List (List ByteArray)} {s1 s2 : List ByteArray} (h : Fits k P c S s1 s2) (hk : k ∉ (P ++ c :: S).flatten) (hc : c.length < 64) : Good (P ++ insK k c :: S) (s1 ++ s2) := by
  refine ⟨by have := h.good.len; simp at *; omega, by rw [seqT_at P s1 _ S s2 h.len]; exact h.ins hk, fun h2 d hd => ?_, fun d hd => ?_⟩
  · have h2' : 2 ≤ (P ++ c :: S).length := by simp at *; omega
    rcases List.mem_append.1 hd with hd | hd
    · exact h.good.lo h2' d (by simp [hd])
    · rcases List.mem_cons.1 hd with e | hd
      · have := h.good.lo h2' c (by simp); rw [e, insK_length]; omega
      · exact h.good.lo h2' d (by simp [hd])
  · rcases List.mem_append.1 hd with hd | hd
    · exact h.good.hi d (by simp [hd])
    · rcases List.mem_cons.1 hd with e | hd
      · rw [e, insK_length]; omega
      · exact h.good.hi d (by simp [hd])
theorem Fits.split {k x : ByteArray} {P : List (List ByteArray)} {c : List ByteArray} {S : List (List ByteArray)} {s1 s2 : List ByteArray} (h : Fits k P c S s1 s2) (hk : k ∉ (P ++ c :: S).flatten) (hc : c.length = 64) (hx : (insK k c)[32]? = some x) :
    Good (P ++ (insK k c).take 32 :: (insK k c).drop 32 :: S) (s1 ++ x :: s2) := by
  have hl : (insK k c).length = 65 := by rw [insK_length, hc]
  have hd : (insK k c).drop 32 = x :: (insK k c).drop 33 := by
    rw [List.drop_eq_getElem_cons (by omega)]
    congr 1
    rw [List.getElem?_eq_getElem (by omega)] at hx
    injection hx
  have hins := h.ins hk
  rw [← List.take_append_drop 32 (insK k c), hd] at hins
  have hcut := cut_ord hins (by intro e; have := congrArg List.length e; rw [List.length_take, hl] at this; simp at this)
  refine ⟨by have := h.good.len; simp at *; omega, ?_, fun h2 d hd' => ?_, fun d hd' => ?_⟩
  · rw [seqT_at P s1 _ _ (x :: s2) h.len, tailI_cons, hd]
    exact hcut
  · rcases List.mem_append.1 hd' with hd' | hd'
    · have h2' : 2 ≤ (P ++ c :: S).length := by
        have : 0 < P.length := List.length_pos_of_mem hd'
        simp; omega
      exact h.good.lo h2' d (by simp [hd'])
    · rcases List.mem_cons.1 hd' with e | hd'
      · rw [e, List.length_take, hl]; omega
      · rcases List.mem_cons.1 hd' with e | hd'
        · rw [e, List.length_drop, hl]; omega
        · have h2' : 2 ≤ (P ++ c :: S).length := by
            have : 0 < S.length := List.length_pos_of_mem hd'
            simp; omega
          exact h.good.lo h2' d (by simp [hd'])
  · rcases List.mem_append.1 hd' with hd' | hd'
    · exact h.good.hi d (by simp [hd'])
    · rcases List.mem_cons.1 hd' with e | hd'
      · rw [e, List.length_take, hl]; omega
      · rcases List.mem_cons.1 hd' with e | hd'
        · rw [e, List.length_drop, hl]; omega
        · exact h.good.hi d (by simp [hd'])

def kssOf (ls : List Leaf) : List (List ByteArray) := ls.map (·.ks)
def keysOf (ls : List Leaf) : List ByteArray := (kssOf ls).flatten
theorem kssOf_append (A : List Leaf) (l : Leaf) (B : List Leaf) : kssOf (A ++ l :: B) = kssOf A ++ l.ks :: kssOf B := by simp [kssOf]

/-- The leaf under which k belongs. -/
theorem fits_of {ls : List Leaf} {ss : List ByteArray} (h : Good (kssOf ls) ss) (k : ByteArray) : ∃ A l B, ls = A ++ l :: B ∧ A.length = cidx k ss ∧ Fits k (kssOf A) l.ks (kssOf B) (ss.take (cidx k ss)) (ss.drop (cidx k ss)) := by
  have hl : ss.length + 1 = ls.length := by have := h.len; simpa [kssOf] using this
  have hi := cidx_le k ss
  have hlt : cidx k ss < ls.length := by omega
  have hsplit : ls = ls.take (cidx k ss) ++ ls[cidx k ss] :: ls.drop (cidx k ss + 1) := by
    rw [← List.drop_eq_getElem_cons hlt, List.take_append_drop]
  have hA : (ls.take (cidx k ss)).length = cidx k ss := by rw [List.length_take]; omega
  have hmono : ∀ i j (hi : i < ss.length) (hj : j < ss.length), i < j → (fun s => !klt k s) ss[j] = true → (fun s => !klt k s) ss[i] = true := fun i j hi hj hij hx => by
    simp only [Bool.not_eq_true'] at hx ⊢
    cases hh : klt k ss[i] with
    | false => rfl
    | true => have := klt_trans hh (h.seps.get hij hj); rw [hx] at this; cases this
  have hsp := countP_spec (fun s => !klt k s) ss hmono
  refine ⟨_, _, _, hsplit, hA, ⟨?_, ?_, fun s hs => ?_, fun s hs => ?_⟩⟩
  · rw [List.take_append_drop, ← kssOf_append, ← hsplit]; exact h
  · simp only [kssOf, List.length_map, List.length_take]; omega
  · obtain ⟨i, hi', rfl⟩ := List.getElem_of_mem hs
    rw [List.length_take] at hi'
    rw [List.getElem_take]
    have := hsp.1 i (by omega) (by show i < cidx k ss; omega)
    simpa using this
  · obtain ⟨i, hi', rfl⟩ := List.getElem_of_mem hs
    rw [List.length_drop] at hi'
    rw [List.getElem_drop]
    have := hsp.2 (cidx k ss + i) (by omega) (by show cidx k ss ≤ _; omega)
    simpa using this


/-- The tree under 'root', its leaves ls, its separators ss; F: its blocks. -/
structure TreeAt (w : World) (base root : Nat) (ls : List Leaf) (ss : List ByteArray) (F : List Nat) : Prop where
  good : Good (kssOf ls) ss
  mem : (∃ l, ls = [l] ∧ ss = [] ∧ root = l.b ∧ LeafAt w base l none none ∧ F = l.foot) ∨ (0 < ss.length ∧ ∃ vc vs, Inner w base root vc vs ls ss ∧ F = footI root vc vs ls)
  low : base ≤ w.heap.size

/-- New blocks alone have come to the tree. -/
def Grows (F F' : List Nat) (w : World) : Prop := ∀ x ∈ F', x ∈ F ∨ w.heap.size ≤ x

/-- The root, a leaf, has been split. -/
def RootSplit (w : World) (base root : Nat) (K : List ByteArray) (F : List Nat) (k : ByteArray) (e : Ending) (w' : World) : Prop :=
  ∃ l1 l2 x, e = .returned (.tuple #[.string x, .pointer (some ⟨l2.b, 0, none⟩)]) ∧ l1.b = root ∧ LeafAt w' base l1 none (some l2.b) ∧ LeafAt w' base l2 (some l1.b) none ∧ Good (kssOf [l1, l2]) [x] ∧ keysOf [l1, l2] = insK k K ∧
    Fr F w w' ∧ Grows F (footL [l1, l2]) w ∧ (rowsOf [l1, l2]).Nodup ∧ l1.b ≠ l2.b

def InsTree (w : World) (base root : Nat) (K : List ByteArray) (F : List Nat) (k : ByteArray) (e : Ending) (w' : World) : Prop :=
  (e = .returned (.tuple #[.string ⟨#[]⟩, .pointer none]) ∧ ∃ ls' ss' F', TreeAt w' base root ls' ss' F' ∧ keysOf ls' = insK k K ∧ Fr F w w' ∧ Grows F F' w) ∨ RootSplit w base root K F k e w'

theorem flatten_mid (A : List Leaf) (l : Leaf) (B : List Leaf) : keysOf (A ++ l :: B) = (kssOf A).flatten ++ l.ks ++ (kssOf B).flatten := by simp [keysOf, kssOf]

theorem ins_tree (base root : Nat) (ls : List Leaf) (ss : List ByteArray) (F : List Nat) (k : ByteArray) (w : World) (h : TreeAt w base root ls ss F) (hk : k ∉ keysOf ls) (hn : (keysOf ls).length ≤ 1023) :
    Calls Yba.prog 28 #[.pointer (some ⟨root, 0, none⟩), .agg #[.string k, .slice none 0 0, .bool false]] w (InsTree w base root (keysOf ls) F k) := by
  have hb := h.low
  have hfew := h.good.few (by show (keysOf ls).length ≤ 1024; omega)
  rcases h.mem with ⟨l, rfl, rfl, rfl, hL, rfl⟩ | ⟨hs0, vc, vs, hI, rfl⟩
  · -- a leaf
    have hk1 : keysOf [l] = l.ks := by simp [keysOf, kssOf]
    have hfit : Fits k [] l.ks [] [] [] := ⟨h.good, rfl, by simp, by simp⟩
    have hk' : k ∉ ([] ++ l.ks :: ([] : List (List ByteArray))).flatten := by simpa [keysOf, kssOf] using hk
    have hr := hfit.rising
    have hle : l.ks.length ≤ 64 := h.good.hi l.ks (by simp [kssOf])
    by_cases h64 : l.ks.length < 64
    · refine (insLeaf_fit base l none none k w hL hr h64 hb).mono ?_
      rintro e w' ⟨rfl, g, cap, hL', hF, hgg⟩
      have hgood := hfit.fit hk' h64
      refine .inl ⟨rfl, [⟨l.b, .slice (some ⟨g, 0, none⟩) (l.ks.length + 1) cap, insK k l.ks⟩], [], _, ⟨hgood, .inl ⟨_, rfl, rfl, rfl, hL', rfl⟩, by have := hF.size; omega⟩, by rw [hk1]; simp [keysOf, kssOf], hF, fun x hx => ?_⟩
      rcases List.mem_cons.1 hx with e | e
      · exact .inl (by simp [Leaf.foot, e])
      · have e : x = g := by simpa [Value.ownBlock] using e
        subst e
        rcases hgg with q | q
        · exact .inl (by simp [Leaf.foot, q])
        · exact .inr q
    · refine (insLeaf_split base l none none k w hL hr (by omega) hb (fun nb hn => by cases hn)).mono ?_
      rintro e w' ⟨g, cap, rb, rg, x, rfl, hx, hL1, hL2, hF, hgg, hrb, hrg, hrbg, hrgg, _⟩
      have hgood := hfit.split hk' (by omega) hx
      have hlb : l.b < w.heap.size := hp_lt hL.node
      refine .inr ⟨⟨l.b, .slice (some ⟨g, 0, none⟩) 32 cap, (insK k l.ks).take 32⟩, ⟨rb, .slice (some ⟨rg, 0, none⟩) 33 65, (insK k l.ks).drop 32⟩, x, rfl, rfl, hL1, hL2, hgood, ?_, by simpa using hF, fun y hy => ?_, ?_, by show l.b ≠ rb; omega⟩
      · rw [hk1]; simp [keysOf, kssOf]
      · have hy' : y = l.b ∨ y = rb ∨ y = g ∨ y = rg := by simpa [footL, rowsOf, Value.ownBlock] using hy
        rcases hy' with e | e | e | e
        · exact .inl (by simp [Leaf.foot, e])
        · exact .inr (by omega)
        · rcases hgg with q | q
          · exact .inl (by simp [Leaf.foot, q, e])
          · exact .inr (by omega)
        · exact .inr (by omega)
      · show ([g, rg] : List Nat).Nodup
        simp [Ne.symm hrgg]
  · -- an inner node
    obtain ⟨A, l, B, rfl, hA, hfit⟩ := fits_of h.good k
    have hk' : k ∉ (kssOf A ++ l.ks :: kssOf B).flatten := by rw [← kssOf_append]; exact hk
    have hr := hfit.rising
    have hss := h.good.seps
    have hlen : ss.length + 1 = A.length + B.length + 1 := by have := h.good.len; simp [kssOf] at this; omega
    have hle : l.ks.length ≤ 64 := h.good.hi l.ks (by simp [kssOf])
    have hcnt : A.length + B.length + 1 ≤ 32 := by simp [kssOf] at hfew; omega
    have hflat : insK k (keysOf (A ++ l :: B)) = (kssOf A).flatten ++ insK k l.ks ++ (kssOf B).flatten := by
      have := hfit.flat
      rw [← kssOf_append] at this
      exact this
    by_cases h64 : l.ks.length < 64
    · refine (insInner_fit base root vc vs A B l ss k w hI hA.symm hr hss hs0 (by omega) h64 (by omega) hb).mono ?_
      rintro e w' ⟨rfl, hG⟩
      obtain ⟨v', hI', hF, hgr⟩ := hI.grew hG
      have hgood := hfit.fit hk' h64
      rw [List.take_append_drop] at hgood
      refine .inl ⟨rfl, A ++ ⟨l.b, v', insK k l.ks⟩ :: B, ss, _, ⟨by rw [kssOf_append]; exact hgood, .inr ⟨hs0, vc, vs, hI', rfl⟩, by have := hF.size; omega⟩, ?_, hF, hgr⟩
      rw [hflat, flatten_mid]
    · refine (insInner_split base root vc vs A B l ss k w hI hA.symm hr hss hs0 hlen (by omega) (by omega) hb).mono ?_
      rintro e w' ⟨rfl, l1, l2, x, vc', vs', hx, hb1, hk1, hk2, hI', hF, hgr⟩
      have hgood := hfit.split hk' (by omega) hx
      rw [← hA] at hgood
      refine .inl ⟨rfl, A ++ l1 :: l2 :: B, ss.take A.length ++ x :: ss.drop A.length, _, ⟨?_, .inr ⟨by simp; omega, vc', vs', hI', rfl⟩, by have := hF.size; omega⟩, ?_, hF, hgr⟩
      · have e : kssOf (A ++ l1 :: l2 :: B) = kssOf A ++ (insK k l.ks).take 32 :: (insK k l.ks).drop 32 :: kssOf B := by simp [kssOf, hk1, hk2]
        rw [e]; exact hgood
      · rw [hflat, flatten_mid]
        have e : (kssOf (l2 :: B)).flatten = l2.ks ++ (kssOf B).flatten := by simp [kssOf]
        rw [e, hk1, hk2, ← List.append_assoc, List.append_assoc _ (List.take 32 _), List.take_append_drop]

/-- A new root over the two halves. -/
theorem new_root {w w' : World} {base root : Nat} {K : List ByteArray} {F : List Nat} {k : ByteArray} {l1 l2 : Leaf} {x : ByteArray} (hb : base ≤ w'.heap.size) (hL1 : LeafAt w' base l1 none (some l2.b)) (hL2 : LeafAt w' base l2 (some l1.b) none) (hg : Good (kssOf [l1, l2]) [x])
    (hnv : (rowsOf [l1, l2]).Nodup) (hne : l1.b ≠ l2.b) (c1 c2 : Array Value) (h1 : c1 = #[.pointer (some ⟨l1.b, 0, none⟩), .pointer (some ⟨l2.b, 0, none⟩)]) (h2 : c2 = #[.string x]) :
    ∃ F', TreeAt (((w'.alloc (.cells c1 39)).alloc (.cells c2 9)).alloc (.cells #[.slice none 0 0, .pointer none, .pointer none, .slice (some ⟨w'.heap.size, 0, none⟩) 2 2, .slice (some ⟨w'.heap.size + 1, 0, none⟩) 1 1] 44)) base (w'.heap.size + 1 + 1) [l1, l2] [x] F' ∧
      ∀ y ∈ F', y ∈ footL [l1, l2] ∨ w'.heap.size ≤ y := by
  have s1 := hp_alloc_size w' (.cells c1 39)
  have s2 := hp_alloc_size (w'.alloc (.cells c1 39)) (.cells c2 9)
  have hx : Ext w' (((w'.alloc (.cells c1 39)).alloc (.cells c2 9)).alloc (.cells #[.slice none 0 0, .pointer none, .pointer none, .slice (some ⟨w'.heap.size, 0, none⟩) 2 2, .slice (some ⟨w'.heap.size + 1, 0, none⟩) 1 1] 44)) := (((Ext.refl w').alloc _).alloc _).alloc _
  have e1 : (((w'.alloc (.cells c1 39)).alloc (.cells c2 9)).alloc (.cells #[.slice none 0 0, .pointer none, .pointer none, .slice (some ⟨w'.heap.size, 0, none⟩) 2 2, .slice (some ⟨w'.heap.size + 1, 0, none⟩) 1 1] 44)).heap[w'.heap.size]? = some (.cells c1 39 (0, 0)) := by
    rw [hp_alloc_lt _ _ _ (by omega), hp_alloc_lt _ _ _ (by omega), hp_alloc_new]
  have e2 : (((w'.alloc (.cells c1 39)).alloc (.cells c2 9)).alloc (.cells #[.slice none 0 0, .pointer none, .pointer none, .slice (some ⟨w'.heap.size, 0, none⟩) 2 2, .slice (some ⟨w'.heap.size + 1, 0, none⟩) 1 1] 44)).heap[w'.heap.size + 1]? = some (.cells c2 9 (0, 0)) := by
    rw [hp_alloc_lt _ _ _ (by omega), ← s1, hp_alloc_new]
  have e3 : (((w'.alloc (.cells c1 39)).alloc (.cells c2 9)).alloc (.cells #[.slice none 0 0, .pointer none, .pointer none, .slice (some ⟨w'.heap.size, 0, none⟩) 2 2, .slice (some ⟨w'.heap.size + 1, 0, none⟩) 1 1] 44)).heap[w'.heap.size + 1 + 1]? = some (.cells #[.slice none 0 0, .pointer none, .pointer none, .slice (some ⟨w'.heap.size, 0, none⟩) 2 2, .slice (some ⟨w'.heap.size + 1, 0, none⟩) 1 1] 44 (0, 0)) := by
    rw [← s1, ← s2, hp_alloc_new]
  have hl1 : l1.b < w'.heap.size := hp_lt hL1.node
  have hl2 : l2.b < w'.heap.size := hp_lt hL2.node
  refine ⟨_, ⟨hg, .inr ⟨by simp, _, _, ⟨e3, ?_, ?_, by omega, ?_, ?_, ?_, hnv⟩, rfl⟩, by have := hx.le; omega⟩, fun y hy => ?_⟩
  · exact ⟨rfl, .inr ⟨w'.heap.size, 2, c1, rfl, hb, e1, by simp, by unfold maxLen; omega, by rw [h1]; rfl, by rw [h1]; rfl⟩⟩
  · exact ⟨rfl, .inr ⟨w'.heap.size + 1, 1, c2, rfl, by omega, e2, by simp, by unfold maxLen; omega, by rw [h2]; rfl, by rw [h2]; rfl⟩⟩
  · exact ⟨hL1.ext hx, hL2.ext hx, trivial⟩
  · simpa using hne
  · simp; omega
  · simp only [footI, List.mem_cons, List.mem_append, Value.ownBlock, Option.toList_some, List.not_mem_nil, or_false] at hy
    rcases hy with e | e | e | e
    · exact .inr (by omega)
    · exact .inr (by omega)
    · exact .inr (by omega)
    · exact .inl e
end Go.Proofs.Ybulkckvy
