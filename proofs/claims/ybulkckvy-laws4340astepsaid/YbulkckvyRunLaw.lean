import Derived.Test.YbulkckvyPunct
namespace Go.Proofs.Ybulkckvy
open Go.RowKit

theorem hitB_lt {K T : Nat → Nat} {n len1 : Nat} {c : ByteArray} {i : Nat} (h : hitB K T n len1 c i = true) : i < n := by
  simp [hitB] at h; exact h.1.1
theorem run_exists (h : Nat → Bool) (n : Nat) (hn : ∀ i, h i = true → i < n) : ∀ (f s : Nat), s + f = n → ∃ k, s + k ≤ n ∧ (∀ j, s ≤ j → j < s + k → h j = true) ∧ h (s + k) = false := by
  intro f
  induction f with
  | zero =>
    intro s hs
    refine ⟨0, by omega, fun j h1 h2 => by omega, ?_⟩
    cases e : h (s + 0) with
    | false => rfl
    | true => have := hn _ e; omega
  | succ f ih =>
    intro s hs
    cases e : h s with
    | false => exact ⟨0, by omega, fun j h1 h2 => by omega, e⟩
    | true =>
      obtain ⟨k, h1, h2, h3⟩ := ih (s + 1) (by omega)
      refine ⟨k + 1, by omega, fun j g1 g2 => ?_, by rw [show s + (k + 1) = s + 1 + k by omega]; exact h3⟩
      by_cases hj : j = s
      · rw [hj]; exact e
      · exact h2 j (by omega) (by omega)

theorem Toks.carry {g : Nat} {K T : Nat → Nat} {n len1 k : Nat} {w w' : World} (h : Toks g K T n len1 k w) (hb : w'.heap[g]? = w.heap[g]?) : Toks g K T n len1 k w' := by
  obtain ⟨cs, h1, h2⟩ := h
  exact ⟨cs, hb.trans h1, h2⟩

/-- The parser's block, the tokens, and what was there before. -/
structure PSt (W : World) (g pb : Nat) (K T : Nat → Nat) (n len1 i : Nat) (w : World) : Prop where
  toks : Toks g K T n len1 n w
  par : w.heap[pb]? = some (.cells #[.slice (some ⟨g, 0, none⟩) n n, .int .i64 (i : Int)] 29 (0, 0))
  bel : Below W.heap.size W w
  hg : W.heap.size ≤ g
  hp : W.heap.size ≤ pb
  ne : g ≠ pb
theorem PSt.drewN {W : World} {g pb : Nat} {K T : Nat → Nat} {n len1 i : Nat} {w : World} (h : PSt W g pb K T n len1 i w) (m : Nat) : PSt W g pb K T n len1 i (w.drewN m) := by
  have e : (w.drewN m).heap = w.heap := by simp
  exact ⟨h.toks.carry (by rw [e]), by rw [e]; exact h.par, below_drewN h.bel m, h.hg, h.hp, h.ne⟩
theorem PSt.step {W : World} {g pb : Nat} {K T : Nat → Nat} {n len1 i : Nat} {w : World} (h : PSt W g pb K T n len1 i w) (m : Nat) : PSt W g pb K T n len1 (i + 1) ((w.setCell ⟨pb, 1, none⟩ (.int .i64 ((i : Int) + 1))).drewN m) := by
  refine PSt.drewN ?_ m
  refine ⟨h.toks.carry (hp_set_ne _ _ _ _ (by simpa using h.ne)), ?_, h.bel.setCell h.hp _, h.hg, h.hp, h.ne⟩
  rw [hp_set_same _ _ _ _ _ _ _ h.par]
  rfl
theorem at_wrap (att n s : Nat) (hs : s = att % (n + 1)) (h : n ≤ 1024) : wrap64 ((att : Int) % ((n : Int) + 1)) = (s : Int) := by
  have e : (att : Int) % ((n : Int) + 1) = (s : Int) := by rw [hs]; push_cast; rfl
  have hlt : s < n + 1 := by rw [hs]; exact Nat.mod_lt _ (by omega)
  rw [e, IntWalk.wrap64_in (s : Int) ⟨by omega, by omega⟩]
end Go.Proofs.Ybulkckvy
