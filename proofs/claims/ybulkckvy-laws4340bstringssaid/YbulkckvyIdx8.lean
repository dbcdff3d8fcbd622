import Derived.Test.YbulkckvyIdx6
import Derived.Test.YbulkckvyIdx7
import Derived.Test.YbulkckvyBkeys2
set_option linter.unusedVariables false
set_option linter.unusedSimpArgs false
namespace Go.Proofs.Ybulkckvy
open Go.RowKit

theorem cur_parts {w : World} {base xb b i : Nat} {K : List ByteArray} {k : ByteArray} (h : CurAt w base xb K k (.agg #[.pointer (some ⟨xb, 0, none⟩), .pointer (some ⟨b, 0, none⟩), .int .i64 (i : Int)])) :
    ∃ (l : Leaf) (p n : Option Nat), b = l.b ∧ LeafAt w base l p n ∧ ((∃ h : i < l.ks.length, K[pos k K]? = some l.ks[i]) ∨ (i = l.ks.length ∧ pos k K = K.length)) := by
  obtain ⟨l, i', p, n, hv, hL, hpl⟩ := h
  obtain ⟨eb, ei⟩ : b = l.b ∧ i = i' := by
    simp at hv
    exact ⟨hv.1, by omega⟩
  subst ei
  exact ⟨l, p, n, eb, hL, hpl⟩
theorem cur_end {w : World} {base xb b i : Nat} {K : List ByteArray} {k : ByteArray} (h : CurAt w base xb K k (.agg #[.pointer (some ⟨xb, 0, none⟩), .pointer (some ⟨b, 0, none⟩), .int .i64 (i : Int)])) (hp : pos k K = K.length) (W : World) (hx : Ext w W) :
    Calls Yba.prog 17 #[.agg #[.pointer (some ⟨xb, 0, none⟩), .pointer (some ⟨b, 0, none⟩), .int .i64 (i : Int)]] W fun e w' => e = .returned (.bool true) ∧ Ext W w' := by
  obtain ⟨l, p, n, rfl, hL, hpl⟩ := cur_parts h
  rcases hpl with ⟨hi, hk⟩ | ⟨hi, _⟩
  · rw [hp, List.getElem?_eq_none (Nat.le_refl _)] at hk; cases hk
  · obtain ⟨a, cap, hv⟩ := hL.slice
    have c0 := (hL.ext hx).cell0
    rw [hv] at c0
    refine (atEnd_any xb l.b i _ cap a W c0).mono ?_
    rintro e w' ⟨rfl, hx'⟩
    exact ⟨by rw [hi]; simp, hx'⟩
theorem cur_at {w : World} {base xb b i : Nat} {K : List ByteArray} {k s : ByteArray} (h : CurAt w base xb K k (.agg #[.pointer (some ⟨xb, 0, none⟩), .pointer (some ⟨b, 0, none⟩), .int .i64 (i : Int)])) (hp : K[pos k K]? = some s) (W : World) (hx : Ext w W) :
    (Calls Yba.prog 17 #[.agg #[.pointer (some ⟨xb, 0, none⟩), .pointer (some ⟨b, 0, none⟩), .int .i64 (i : Int)]] W fun e w' => e = .returned (.bool false) ∧ Ext W w') ∧
    (Calls Yba.prog 18 #[.agg #[.pointer (some ⟨xb, 0, none⟩), .pointer (some ⟨b, 0, none⟩), .int .i64 (i : Int)]] W fun e w' => e = .returned (.string s) ∧ Ext W w') := by
  obtain ⟨l, p, n, rfl, hL, hpl⟩ := cur_parts h
  rcases hpl with ⟨hi, hk⟩ | ⟨hi, hq⟩
  · obtain ⟨g, cap, hv, _⟩ := hL.some_row (by omega)
    have c0 := (hL.ext hx).cell0
    rw [hv] at c0
    have hs : l.ks[i] = s := by rw [hp] at hk; injection hk with e; exact e.symm
    constructor
    · refine (atEnd_any xb l.b i _ cap _ W c0).mono ?_
      rintro e w' ⟨rfl, hx'⟩
      refine ⟨?_, hx'⟩
      have : ((i : Int) == (l.ks.length : Int)) = false := by simp; omega
      rw [this]
    · refine (key_any xb l.b i g _ cap s W c0 hi ?_).mono (fun e w' h => h)
      have := (((hL.ext hx).ents).cells hv hi).1
      rwa [hs] at this
  · rw [hq, List.getElem?_eq_none (Nat.le_refl _)] at hp; cases hp
theorem CurAt.carry2 {w w' : World} {base xb b0 t : Nat} {K : List ByteArray} {k : ByteArray} {v : Value} {c : Array Value} (h : CurAt w base xb K k v) (hb : w.heap[b0]? = some (.cells c t (0, 0))) (ht : t ≠ 44 ∧ t ≠ 81) (hF : Fr [b0] w w') : CurAt w' base xb K k v := by
  obtain ⟨l, i, p, n, h1, h2, h3⟩ := h
  refine ⟨l, i, p, n, h1, h2.carry hF (fun hm => ?_) (fun g hg hm => ?_), h3⟩
  · have e : l.b = b0 := by simpa using hm
    exact ty_ne h2.node hb (fun e => ht.1 e.symm) e
  · have e : g = b0 := by simpa using hm
    obtain ⟨c', hc'⟩ := own_ty h2.ents hg
    exact ty_ne hc' hb (fun e => ht.2 e.symm) e
theorem IdxAt.ext {w w' : World} {base xb : Nat} {K : List ByteArray} {F : List Nat} (h : IdxAt w base xb K F) (hx : Ext w w') : IdxAt w' base xb K F := by
  obtain ⟨root, ls, ss, a0, a1, a2, a3, h1, hT, hK⟩ := h.ex
  exact ⟨root, ls, ss, a0, a1, a2, a3, hx.some h1, hT.grow hx, hK⟩
theorem IdxAt.carry {w w' : World} {base xb b0 : Nat} {K : List ByteArray} {F : List Nat} (h : IdxAt w base xb K F) (h1 : b0 ≠ xb) (h2 : b0 ∉ F) (hF : Fr [b0] w w') : IdxAt w' base xb K F := by
  obtain ⟨root, ls, ss, a0, a1, a2, a3, hx, hT, hK⟩ := h.ex
  refine ⟨root, ls, ss, a0, a1, a2, a3, hF.some hx (by simpa using Ne.symm h1), hT.carry hF (fun x hm => ?_), hK⟩
  have e : x = b0 := by simpa using hm
  subst e; exact h2
theorem IdxAt.out {w : World} {base xb : Nat} {K : List ByteArray} {F : List Nat} (h : IdxAt w base xb K F) {x t : Nat} {c : Array Value} (hx : w.heap[x]? = some (.cells c t (0, 0))) (ht : t ≠ 44 ∧ t ≠ 39 ∧ t ≠ 9 ∧ t ≠ 81) : x ∉ F := by
  obtain ⟨root, ls, ss, a0, a1, a2, a3, _, hT, _⟩ := h.ex
  exact hT.out hx ht
theorem IdxAt.ge {w : World} {base xb : Nat} {K : List ByteArray} {F : List Nat} (h : IdxAt w base xb K F) : ∀ x ∈ F, base ≤ x := by
  obtain ⟨root, ls, ss, a0, a1, a2, a3, _, hT, _⟩ := h.ex
  exact hT.ge
theorem IdxAt.low {w : World} {base xb : Nat} {K : List ByteArray} {F : List Nat} (h : IdxAt w base xb K F) : base ≤ w.heap.size := by
  obtain ⟨root, ls, ss, a0, a1, a2, a3, _, hT, _⟩ := h.ex
  exact hT.low
theorem bok_idx {w : World} {base xb : Nat} {K : List ByteArray} {F : List Nat} (h : IdxAt w base xb K F) : Calls Yba.prog 16 #[.pointer (some ⟨xb, 0, none⟩)] w fun e w' => e = .returned (.bool true) ∧ w' = w := by
  obtain ⟨root, ls, ss, a0, a1, a2, a3, hx, hT, hK⟩ := h.ex
  exact bokroot_any xb root w (by rw [hp_cell hx]; rfl) hT.rootOk
theorem bkeys_idx {w : World} {base xb : Nat} {K : List ByteArray} {F : List Nat} (h : IdxAt w base xb K F) (hn : K.length ≤ 1024) : Calls Yba.prog 20 #[.pointer (some ⟨xb, 0, none⟩)] w (BKeys w K) := by
  obtain ⟨root, ls, ss, a0, a1, a2, a3, hx, hT, rfl⟩ := h.ex
  have h6 : w.cell? ⟨xb, 6, none⟩ = some (.pointer (some ⟨root, 0, none⟩)) := by rw [hp_cell hx]; rfl
  have hfew := hT.good.few hn
  rw [kss_len] at hfew
  rcases hT.mem with ⟨l, rfl, rfl, rfl, hL, rfl⟩ | ⟨hs, vc, vs, hI, rfl⟩
  · exact bkeys_any base xb l.b 0 l [] w h6 ⟨rfl, Nat.zero_le _, hL.cell3⟩ ⟨hL, trivial⟩ hn (by simp)
  · cases ls with
    | nil => have := hT.good.len; simp [kssOf] at this
    | cons l r =>
      obtain ⟨g, cap, hvc, _⟩ := hI.ch.form (by simp)
      have hc := hI.ch.cell hvc (j := 0) (by simp)
      have h3 := hI.cell3
      rw [hvc] at h3
      exact bkeys_any base xb root 1 l r w h6 ⟨g, _, cap, l.b, h3, by simp, by simpa using hc, Nat.zero_le _, Nat.zero_le _, ⟨rfl, Nat.zero_le _, hI.seg.1.cell3⟩⟩ hI.seg hn (by simp at hfew; omega)
theorem Strs.at {w : World} {B : Nat} {v : Value} {xs : List ByteArray} (h : Strs w B v xs) : ∃ p c, v = .slice p xs.length c ∧ StrAt w p xs := by
  rcases h.form with ⟨e1, e2⟩ | h2
  · exact ⟨none, 0, by rw [e1, e2]; rfl, fun j hj => by rw [e2] at hj; simp at hj⟩
  · obtain ⟨g, cap, cur, hv, _⟩ := h2
    exact ⟨_, cap, hv, fun j hj => ⟨g, rfl, h.cell hv hj⟩⟩
end Go.Proofs.Ybulkckvy
