import Derived.Test.YbulkckvyDelInner
set_option linter.unusedVariables false
set_option linter.unusedSimpArgs false
namespace Go.Proofs.Ybulkckvy
open Go.RowKit

/-- An inner root that has come down to one leaf. -/
def OneLeft (w : World) (F : List Nat) (base root : Nat) (K : List ByteArray) (w' : World) : Prop :=
  ∃ (l : Leaf) (g cc : Nat), w'.cell? ⟨root, 3, none⟩ = some (.slice (some ⟨g, 0, none⟩) 1 cc) ∧ w'.cell? ⟨g, 0, none⟩ = some (.pointer (some ⟨l.b, 0, none⟩)) ∧ LeafAt w' base l none none ∧ l.ks = K ∧ Rising K ∧ l.ks.length ≤ 64 ∧ Fr F w w' ∧ Grows F l.foot w
/-- What node.delete leaves at the root. -/
def DelTree (w : World) (base root : Nat) (K : List ByteArray) (F : List Nat) (k : ByteArray) (e : Ending) (w' : World) : Prop :=
  (foundB k K = false ∧ e = .returned (.bool false) ∧ Ext w w') ∨
  (foundB k K = true ∧ e = .returned (.bool true) ∧ ((∃ ls' ss' F', TreeAt w' base root ls' ss' F' ∧ keysOf ls' = delK k K ∧ Fr F w w' ∧ Grows F F' w) ∨ OneLeft w F base root (delK k K) w'))

theorem DelInn.tree {w w' : World} {F : List Nat} {base r : Nat} {K : List ByteArray} (hb : base ≤ w.heap.size) (h : DelInn w F base r K w') : (∃ ls' ss' F', TreeAt w' base r ls' ss' F' ∧ keysOf ls' = K ∧ Fr F w w' ∧ Grows F F' w) ∨ OneLeft w F base r K w' := by
  obtain ⟨vc, vs, ls, ss, ⟨hI, hF, hfoot⟩, hg, hk⟩ := h
  have hlen := hg.len
  rw [kss_len] at hlen
  have hsz := hF.size
  rcases Nat.eq_zero_or_pos ss.length with h0 | h0
  · obtain ⟨l, rfl⟩ : ∃ l, ls = [l] := by
      cases ls with
      | nil => simp at hlen
      | cons l t => cases t with
        | nil => exact ⟨l, rfl⟩
        | cons x y => simp at hlen; omega
    obtain ⟨g, cc, hv, _⟩ := hI.ch.form (by simp)
    have hc := hI.ch.cell hv (j := 0) (by simp)
    refine .inr ⟨l, g, cc, by rw [hI.cell3, hv]; rfl, by simpa using hc, hI.seg.1, by rw [← hk]; simp [keysOf, kssOf], by rw [← hk]; exact hg.rising, hg.hi _ (by simp [kssOf]), hF, fun x hx => hfoot x (mem_footI.2 (.inr (.inr (.inr ?_))))⟩
    exact foot_sub (A := []) (B := []) hx
  · exact .inl ⟨ls, ss, _, ⟨hg, .inr ⟨h0, vc, vs, hI.toI, rfl⟩, by omega⟩, hk, hF, hfoot⟩

theorem del_tree (base root : Nat) (ls : List Leaf) (ss : List ByteArray) (F : List Nat) (k : ByteArray) (w : World) (h : TreeAt w base root ls ss F) (hn : (keysOf ls).length ≤ 1024) :
    Calls Yba.prog 31 #[.pointer (some ⟨root, 0, none⟩), .string k] w (DelTree w base root (keysOf ls) F k) := by
  have hb := h.low
  have hfew := h.good.few hn
  rcases h.mem with ⟨l, rfl, rfl, rfl, hL, rfl⟩ | ⟨hs0, vc, vs, hI, rfl⟩
  · have hk1 : keysOf [l] = l.ks := by simp [keysOf, kssOf]
    have hr : Rising l.ks := by have := h.good.rising; simpa [kssOf] using this
    have hle : l.ks.length ≤ 64 := h.good.hi l.ks (by simp [kssOf])
    rw [hk1]
    cases hf : foundB k l.ks with
    | false =>
      refine (delLeaf_none base l none none k w hL hr hle hf).mono ?_
      rintro e w' ⟨he, hx⟩
      exact .inl ⟨hf, he, hx⟩
    | true =>
      refine (delLeaf_some base l none none k w hL hr hle hf).mono ?_
      rintro e w' ⟨he, l', hk', hb', hL', hF, hgg⟩
      have hsub := delK_sub k l.ks
      refine .inr ⟨hf, he, .inl ⟨[l'], [], l'.foot, ⟨⟨rfl, ?_, fun h2 => by simp [kssOf] at h2, fun c hc => ?_⟩, .inl ⟨l', rfl, rfl, hb'.symm, hL', rfl⟩, by have := hF.size; omega⟩, by simp [keysOf, kssOf, hk'], hF, fun x hx => ?_⟩⟩
      · have : seqT (kssOf [l']) [] = l'.ks.map kI := by simp [seqT, kssOf, tailI]
        rw [this, map_rising, hk']
        exact List.Pairwise.sublist hsub hr
      · have e : c = l'.ks := by simpa [kssOf] using hc
        have := hsub.length_le
        rw [e, hk']; omega
      · rcases List.mem_cons.1 hx with e | e
        · exact .inl (by simp [Leaf.foot, e, hb'])
        · rcases hgg x (Option.mem_toList.1 e) with q | q
          · exact .inl (by simp [Leaf.foot, q])
          · exact .inr q
  · obtain ⟨A, l, B, rfl, hA, hfit⟩ := fits_of h.good k
    have hr := hfit.rising
    have hlen : ss.length + 1 = A.length + B.length + 1 := by have := h.good.len; simp [kssOf] at this; omega
    have hle : l.ks.length ≤ 64 := h.good.hi l.ks (by simp [kssOf])
    have hcnt : A.length + B.length + 1 ≤ 32 := by simp [kssOf] at hfew; omega
    obtain ⟨hfd, hdel⟩ := hfit.del
    rw [← kssOf_append] at hfd hdel
    cases hf : foundB k l.ks with
    | false =>
      obtain ⟨gc, cc, gs, cs, n, hn', hvc, hvs, hS⟩ := hI.toG.spot (by omega)
      rw [hA] at hS
      refine (delInner_none base root gc cc gs cs n A l _ _ ss k w hS (by omega) h.good.seps (by omega) (by omega) hr hle hf).mono ?_
      rintro e w' ⟨he, hx⟩
      exact .inl ⟨by show foundB k (kssOf (A ++ l :: B)).flatten = false; rw [hfd]; exact hf, he, hx⟩
    | true =>
      refine (delInner_some base root vc vs A B l ss k w hI.toG hA h.good (by omega) (by omega) hr hf hb).mono ?_
      rintro e w' ⟨he, hD⟩
      have e1 : delK k (keysOf (A ++ l :: B)) = keysOf A ++ delK k l.ks ++ keysOf B := hdel hf
      refine .inr ⟨by show foundB k (kssOf (A ++ l :: B)).flatten = true; rw [hfd]; exact hf, he, ?_⟩
      rw [e1]
      exact hD.tree hb
end Go.Proofs.Ybulkckvy
