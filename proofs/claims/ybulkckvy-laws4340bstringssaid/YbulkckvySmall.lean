import Derived.Test.YbulkckvyCkey
import Derived.LaidEqlPtr
set_option linter.unusedVariables false
set_option linter.unusedSimpArgs false
namespace Go.Proofs.Ybulkckvy
open Go.RowKit

/-- What the counters and the array 'seen' say of the keys K. -/
structure KInv (C : Array Value) (K : List ByteArray) (count mn : Nat) : Prop where
  len : K.length = count
  csz : C.size = 1000
  seen : ∀ n, n < 1000 → ∃ b, C[n]? = some (.bool b) ∧ (b = true ↔ ckey n ∈ K)
  all : ∀ x ∈ K, ∃ n, n < 1000 ∧ x = ckey n
  top : mn ≤ 1000
  zero : count = 0 → mn = 1000
  low : 0 < count → mn < 1000 ∧ ckey mn ∈ K
  least : ∀ n, n < 1000 → ckey n ∈ K → mn ≤ n
def minN (n m : Nat) : Nat := if n < m then n else m
theorem KInv.step {C : Array Value} {K : List ByteArray} {count mn n : Nat} (h : KInv C K count mn) (hn : n < 1000) (hk : ckey n ∉ K) : KInv (C.setIfInBounds n (.bool true)) (insK (ckey n) K) (count + 1) (minN n mn) := by
  have ht := h.top
  refine ⟨by rw [insK_length, h.len], by simp [h.csz], fun m hm => ?_, fun x hx => ?_, by unfold minN; split <;> omega, fun h0 => by omega, fun _ => ?_, fun m hm hx => ?_⟩
  · by_cases e : m = n
    · subst e
      exact ⟨true, by simp [h.csz, hm], by simp [mem_insK]⟩
    · obtain ⟨b, hb, hi⟩ := h.seen m hm
      refine ⟨b, by rw [Array.getElem?_setIfInBounds_ne (by omega)]; exact hb, hi.trans ?_⟩
      rw [mem_insK]
      exact ⟨.inr, fun hq => hq.elim (fun q => absurd (ckey_inj hm hn q) e) id⟩
  · rcases mem_insK.1 hx with e | hx
    · exact ⟨n, hn, e⟩
    · exact h.all x hx
  · unfold minN
    by_cases hlt : n < mn
    · rw [if_pos hlt]; exact ⟨hn, mem_insK.2 (.inl rfl)⟩
    · rw [if_neg hlt]
      have h0 : 0 < count := by
        rcases Nat.eq_zero_or_pos count with e | e
        · have := h.zero e; omega
        · exact e
      exact ⟨(h.low h0).1, mem_insK.2 (.inr (h.low h0).2)⟩
  · unfold minN
    rcases mem_insK.1 hx with e | hx
    · have := ckey_inj hm hn e
      split <;> omega
    · have := h.least m hm hx
      split <;> omega
/-- The first key is the least. -/
theorem KInv.first {C : Array Value} {K : List ByteArray} {count mn : Nat} (h : KInv C K count mn) (hr : Rising K) (h0 : 0 < count) : K[0]? = some (ckey mn) := by
  have hl := h.len
  have hlt : 0 < K.length := by omega
  obtain ⟨h1, h2⟩ := h.low h0
  rw [List.getElem?_eq_getElem hlt]
  congr 1
  obtain ⟨n, hn, e⟩ := h.all K[0] (List.getElem_mem hlt)
  have hle := h.least n hn (e ▸ List.getElem_mem hlt)
  obtain ⟨j, hj, ej⟩ := List.getElem_of_mem h2
  by_cases hj0 : j = 0
  · subst hj0; exact ej
  · have := hr.get (show 0 < j by omega) hj
    rw [ej, e, ckey_lt hn h1] at this
    have := of_decide_eq_true this
    omega

theorem TreeAt.ge {w : World} {base root : Nat} {ls : List Leaf} {ss : List ByteArray} {F : List Nat} (h : TreeAt w base root ls ss F) : ∀ x ∈ F, base ≤ x := by
  have hrow : ∀ {v : Value} {e : TypeId} {size n : Nat} {xs : List Value}, w.ownsRow base e size v n xs → ∀ g, v.ownBlock = some g → base ≤ g := fun ho g hg => by
    obtain ⟨_, h2⟩ := ho
    rcases h2 with ⟨rfl, _⟩ | ⟨g', cap, cur, rfl, h3, _⟩
    · cases hg
    · have e : g' = g := by injection hg
      omega
  rcases h.mem with ⟨l, rfl, rfl, rfl, hL, rfl⟩ | ⟨_, vc, vs, hI, rfl⟩
  · intro x hx
    rcases List.mem_cons.1 hx with e | e
    · rw [e]; exact hL.low
    · exact hrow hL.ents x (Option.mem_toList.1 e)
  · intro x hx
    simp only [footI, footL, List.mem_cons, List.mem_append, Option.mem_toList] at hx
    rcases hx with rfl | hx | hx | hx | hx
    · exact hI.low
    · exact hrow hI.ch x hx
    · exact hrow hI.se x hx
    · obtain ⟨l, hl, rfl⟩ := List.mem_map.1 hx
      obtain ⟨p, n, hL⟩ := seg_leaf hI.seg l hl
      exact hL.low
    · obtain ⟨l, hl, hg⟩ := of_rows hx
      obtain ⟨p, n, hL⟩ := seg_leaf hI.seg l hl
      exact hrow hL.ents x hg
theorem TreeAt.carry {w w' : World} {base root : Nat} {ls : List Leaf} {ss : List ByteArray} {F bs : List Nat} (h : TreeAt w base root ls ss F) (hf : Fr bs w w') (hd : ∀ x ∈ bs, x ∉ F) : TreeAt w' base root ls ss F := by
  have hsz := hf.size
  have hlow := h.low
  refine ⟨h.good, ?_, by omega⟩
  have hd' : ∀ x ∈ F, x ∉ bs := fun x hx hb => hd x hb hx
  rcases h.mem with ⟨l, rfl, rfl, rfl, hL, rfl⟩ | ⟨hs, vc, vs, hI, rfl⟩
  · exact .inl ⟨l, rfl, rfl, rfl, hL.carry hf (hd' _ (by simp [Leaf.foot])) (fun g hg => hd' g (by simp [Leaf.foot, hg])), rfl⟩
  · refine .inr ⟨hs, vc, vs, ⟨hf.some hI.node (hd' _ (by simp [footI])), owns_fr hI.ch hf (fun g hg => hd' g (by simp [footI, hg])), owns_fr hI.se hf (fun g hg => hd' g (by simp [footI, hg])), hI.low, ?_, hI.nd, hI.nr, hI.nv⟩, rfl⟩
    refine seg_carry hf _ _ _ hI.seg (fun l hl => ⟨hd' _ ?_, fun g hg => hd' g ?_⟩)
    · simp only [footI, footL, List.mem_cons, List.mem_append]; exact .inr (.inr (.inr (.inl (List.mem_map_of_mem hl))))
    · simp only [footI, footL, List.mem_cons, List.mem_append]; exact .inr (.inr (.inr (.inr (mem_rows hl hg))))

/-- The state of the loop: 'seen' in the block w.heap.size, the tree above it. -/
structure SInv (w : World) (root count mn : Nat) (wr : World) : Prop where
  st : ∃ ls ss F C, TreeAt wr (w.heap.size + 1) root ls ss F ∧ wr.heap[w.heap.size]? = some (.cells C 74 (0, 0)) ∧ KInv C (keysOf ls) count mn
  bel : Below w.heap.size w wr

theorem Fr.below1 {F : List Nat} {w a b : World} (h : Fr F a b) (hF : ∀ x ∈ F, w.heap.size + 1 ≤ x) (ha : Below w.heap.size w a) (hs : w.heap.size + 1 ≤ a.heap.size) : Below w.heap.size w b ∧ b.heap[w.heap.size]? = a.heap[w.heap.size]? :=
  ⟨ha.trans (h.below (by omega) (fun x hx => by have := hF x hx; omega)), h.block _ (by omega) (fun hm => by have := hF _ hm; omega)⟩

/-- A new number n: seen[n] = true; the key is made; it goes into the tree, which needs no new root. -/
theorem SInv.step1 {w wr w2 w3 : World} {root count mn n : Nat} {ls ls' : List Leaf} {ss ss' : List ByteArray} {F F' : List Nat} {C : Array Value} (hT : TreeAt wr (w.heap.size + 1) root ls ss F) (hS : wr.heap[w.heap.size]? = some (.cells C 74 (0, 0))) (hK : KInv C (keysOf ls) count mn) (hB : Below w.heap.size w wr)
    (hn : n < 1000) (hk : ckey n ∉ keysOf ls) (hx : Ext (wr.setCell ⟨w.heap.size, n, none⟩ (.bool true)) w2) (root' : Nat) (hT' : TreeAt w3 (w.heap.size + 1) root' ls' ss' F') (hk' : keysOf ls' = insK (ckey n) (keysOf ls)) (hF : Fr F w2 w3) :
    SInv w root' (count + 1) (minN n mn) w3 := by
  have hge := hT.ge
  have hs1 : (wr.setCell ⟨w.heap.size, n, none⟩ (.bool true)).heap[w.heap.size]? = some (.cells (C.setIfInBounds n (.bool true)) 74 (0, 0)) := hp_set_same _ _ _ _ _ _ _ hS
  have hs2 := hx.some hs1
  have hB1 : Below w.heap.size w (wr.setCell ⟨w.heap.size, n, none⟩ (.bool true)) := hB.setCell (by simp) _
  have hB2 : Below w.heap.size w w2 := hB1.trans (hx.below (by have := hp_lt hs1; omega))
  obtain ⟨hB3, hs3⟩ := hF.below1 hge hB2 (by have := hp_lt hs2; omega)
  exact ⟨⟨ls', ss', F', _, hT', hs3.trans hs2, by rw [hk']; exact hK.step hn hk⟩, hB3⟩
end Go.Proofs.Ybulkckvy
