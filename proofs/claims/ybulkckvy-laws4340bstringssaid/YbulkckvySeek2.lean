import Derived.Test.YbulkckvySeek
import Derived.Test.YbulkckvyFind3
set_option linter.unusedVariables false
set_option linter.unusedSimpArgs false
namespace Go.Proofs.Ybulkckvy
open Go.RowKit
attribute [local go_sem ↓] Go.wp_at_zero Go.wp_at_succ

/-- find on a tree: the leaf and the place. -/
def FindRet (w : World) (base : Nat) (ls : List Leaf) (key : ByteArray) (e : Ending) (w' : World) : Prop :=
  ∃ A l B, ls = A ++ l :: B ∧ (∀ x ∈ keysOf A, klt x key = true) ∧ (∀ x ∈ keysOf B, klt x key = false) ∧ LeafAt w base l (lastB A none) (nextB B none) ∧ e = .returned (.tuple #[.pointer (some ⟨l.b, 0, none⟩), .int .i64 (pos key l.ks : Int)]) ∧ Ext w w'
theorem find_tree (base root kb : Nat) (ls : List Leaf) (ss : List ByteArray) (F : List Nat) (key : ByteArray) (w : World) (h : TreeAt w base root ls ss F) (hn : (keysOf ls).length ≤ 1024) (hk : w.cell? ⟨kb, 0, none⟩ = some (.string key)) :
    Calls Yba.prog 66 #[.pointer (some ⟨root, 0, none⟩), .func (.func 51) #[] #[.pointer (some ⟨kb, 0, none⟩)]] w (FindRet w base ls key) := by
  have hfew := h.good.few hn
  obtain ⟨A, l, B, rfl, hA, h1, h2⟩ := seek_fits h.good key
  have hlen := h.good.len
  simp only [kssOf_append, List.length_append, List.length_cons, kss_len] at hlen hfew
  have hr : Rising l.ks := by
    have := h.good.rising
    rw [kssOf_append] at this
    simp only [List.flatten_append, List.flatten_cons] at this
    exact (List.pairwise_append.1 (List.pairwise_append.1 this).2.1).1
  have hle : l.ks.length ≤ 64 := h.good.hi l.ks (by rw [kssOf_append]; simp)
  rcases h.mem with ⟨l', hl', hs, rfl, hL, rfl⟩ | ⟨hs0, vc, vs, hI, rfl⟩
  · obtain ⟨rfl, rfl, rfl⟩ : A = [] ∧ l = l' ∧ B = [] := by
      cases A with
      | nil => simp at hl'; exact ⟨rfl, hl'.1, hl'.2⟩
      | cons a A => simp at hl'
    refine (find_any base l.b 0 kb 0 0 0 0 0 l none none ss key w (.inl ⟨rfl, rfl⟩) hL hr hle h.good.seps (by omega) hk).mono ?_
    rintro e w' ⟨he, hx⟩
    exact ⟨[], l, [], rfl, h1, h2, hL, he, hx⟩
  · obtain ⟨gc, cc, gs, cs, n, hn', hvc, hvs, hS⟩ := hI.toG.spot hs0
    rw [hA] at hS
    refine (find_any base root 1 kb gc cc gs cs n l _ _ ss key w (.inr ⟨rfl, hS, by omega⟩) hS.lc hr hle h.good.seps (by omega) hk).mono ?_
    rintro e w' ⟨he, hx⟩
    exact ⟨A, l, B, rfl, h1, h2, hS.lc, he, hx⟩
end Go.Proofs.Ybulkckvy
