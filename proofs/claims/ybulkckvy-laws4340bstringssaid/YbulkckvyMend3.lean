import Derived.Test.YbulkckvyMend2
set_option linter.unusedVariables false
set_option linter.unusedSimpArgs false
namespace Go.Proofs.Ybulkckvy
open Go.RowKit
attribute [local go_sem ↓] Go.wp_at_zero Go.wp_at_succ

theorem mend_any (base r : Nat) (vc vs : Value) (F : List Nat) (P S : List Leaf) (c : Leaf) (ss : List ByteArray) (w W : World) (h : Ev w F base r vc vs ((P ++ c :: S).map (·.b)) (P ++ c :: S) ss W) (ho : Ordd (kssOf (P ++ c :: S)) ss)
    (hs : ∀ d, d ∈ P ∨ d ∈ S → 32 ≤ d.ks.length ∧ d.ks.length ≤ 64) (hc : c.ks.length = 31) (h2 : 1 ≤ P.length + S.length) (hfew : P.length + S.length ≤ 100) (hbase : base ≤ W.heap.size) :
    Calls Yba.prog 49 #[.pointer (some ⟨r, 0, none⟩), .int .i64 (P.length : Int)] W fun e w' => e = .returned (.tuple #[]) ∧ DelInn w F base r (keysOf (P ++ c :: S)) w' := by
  have hlen := ho.len
  simp only [kssOf_append, List.length_append, List.length_cons, kss_len] at hlen
  rcases List.eq_nil_or_concat P with rfl | ⟨A, p, hP⟩
  · cases S with
    | nil => simp at h2
    | cons q B =>
      have hq := hs q (by simp)
      simp only [List.length_nil, List.length_cons, Nat.zero_add] at hlen hfew
      rw [show ((([] : List Leaf).length : Nat) : Int) = 0 from rfl]
      by_cases hsp : 32 < q.ks.length
      · refine (mend2a base r vc vs c ss W B q h.1 (by omega) hsp hq.2 hc hbase (by omega)).mono ?_
        rintro e w' ⟨he, hR⟩
        exact ⟨he, ShiftL.inn (A := []) h ho (fun d hd => hs d (by rcases hd with hd | hd <;> simp at hd ⊢; exact .inr hd)) hc hsp hq.2 hR⟩
      · refine (mend4 base r vc vs c ss W B q h.1 (by omega) (by omega) (by omega) hc hbase (by omega)).mono ?_
        rintro e w' ⟨he, hR⟩
        exact ⟨he, MergePost.inn (A := []) h ho (fun d hd => hs d (by rcases hd with hd | hd <;> simp at hd ⊢; exact .inr hd)) (by omega) (by omega) hR⟩
  · rw [List.concat_eq_append] at hP
    subst hP
    have hp := hs p (by simp)
    simp only [List.length_append, List.length_cons, List.length_nil, Nat.zero_add] at hlen hfew
    rw [← snoc_mid] at h ho
    rw [← snoc_mid, show (((A ++ [p]).length : Nat) : Int) = (A.length : Int) + 1 by simp]
    have hsA : ∀ d, d ∈ A ∨ d ∈ S → 32 ≤ d.ks.length ∧ d.ks.length ≤ 64 := fun d hd => hs d (by rcases hd with hd | hd <;> simp [hd])
    by_cases hsp : 32 < p.ks.length
    · refine (mend1 base r vc vs c ss W A S p h.1 (by omega) hsp hp.2 hc hbase (by omega)).mono ?_
      rintro e w' ⟨he, hR⟩
      exact ⟨he, ShiftR.inn h ho hsA hsp hp.2 hc hR⟩
    · cases S with
      | nil =>
        refine (mend3a base r vc vs c ss W A p h.1 (by simp at hlen; omega) (by omega) (by omega) hc hbase (by simp at hfew; omega)).mono ?_
        rintro e w' ⟨he, hR⟩
        exact ⟨he, MergePost.inn h ho hsA (by omega) (by omega) hR⟩
      | cons q B =>
        have hq := hs q (by simp)
        simp only [List.length_cons] at hlen hfew
        by_cases hsq : 32 < q.ks.length
        · refine (mend2b base r vc vs c ss W A B p q h.1 (by omega) (by omega) hsq hq.2 hc hbase (by omega)).mono ?_
          rintro e w' ⟨he, hR⟩
          rw [snoc_mid A (q :: B) p c] at h ho hR ⊢
          exact ⟨he, ShiftL.inn h ho (fun d hd => hs d (by rcases hd with hd | hd; · exact .inl hd
                                                           · exact .inr (List.mem_cons_of_mem _ hd))) hc hsq hq.2 hR⟩
        · refine (mend3b base r vc vs c ss W A B p q h.1 (by omega) (by omega) (by omega) (by omega) hc hbase (by omega)).mono ?_
          rintro e w' ⟨he, hR⟩
          exact ⟨he, MergePost.inn h ho hsA (by omega) (by omega) hR⟩

/-- What delete reads of an inner root at the leaf c, the number of which is i. -/
structure Spot (w : World) (base r gc cc gs cs i n : Nat) (ss : List ByteArray) (c : Leaf) (p q : Option Nat) : Prop where
  c3 : w.cell? ⟨r, 3, none⟩ = some (.slice (some ⟨gc, 0, none⟩) n cc)
  c4 : w.cell? ⟨r, 4, none⟩ = some (.slice (some ⟨gs, 0, none⟩) ss.length cs)
  pc : w.cell? ⟨gc, i, none⟩ = some (.pointer (some ⟨c.b, 0, none⟩))
  lc : LeafAt w base c p q
  se : Strs w base (.slice (some ⟨gs, 0, none⟩) ss.length cs) ss
theorem InnerG.spot {w : World} {base r : Nat} {vc vs : Value} {A B : List Leaf} {c : Leaf} {ss : List ByteArray} (h : InnerG w base r vc vs ((A ++ c :: B).map (·.b)) (A ++ c :: B) ss) (hs : 0 < ss.length) :
    ∃ gc cc gs cs n, n = A.length + 1 + B.length ∧ vc = .slice (some ⟨gc, 0, none⟩) n cc ∧ vs = .slice (some ⟨gs, 0, none⟩) ss.length cs ∧ Spot w base r gc cc gs cs A.length n ss c (lastB A none) (nextB B none) := by
  have hl : ((A ++ c :: B).map (·.b)).length = A.length + 1 + B.length := by simp; omega
  obtain ⟨gc, cc, hvc, _⟩ := h.ch.form (by omega)
  obtain ⟨gs, cs, hvs, _⟩ := h.se.form' hs
  have hp := h.ch.cell hvc (j := A.length) (by omega)
  rw [hl] at hvc
  have hseg := h.seg
  rw [seg_append] at hseg
  refine ⟨gc, cc, gs, cs, _, rfl, hvc, hvs, ⟨by rw [h.cell3, hvc], by rw [h.cell4, hvs], ?_, hseg.2.1, hvs ▸ h.se⟩⟩
  rw [hp]; simp
theorem Spot.ext {w w' : World} {base r gc cc gs cs i n : Nat} {ss : List ByteArray} {c : Leaf} {p q : Option Nat} (h : Spot w base r gc cc gs cs i n ss c p q) (hx : Ext w w') : Spot w' base r gc cc gs cs i n ss c p q := by
  have hc : ∀ {a : Addr} {v : Value}, w.cell? a = some v → w'.cell? a = some v := fun {a v} hv => by rw [hp_cell_eq (w := w) (hx.block (hp_cell_lt hv))]; exact hv
  exact ⟨hc h.c3, hc h.c4, hc h.pc, h.lc.ext hx, h.se.ext hx⟩

set_option maxRecDepth 100000 in
set_option maxHeartbeats 2000000 in
theorem delInner_none (base r gc cc gs cs n : Nat) (A : List Leaf) (c : Leaf) (p q : Option Nat) (ss : List ByteArray) (k : ByteArray) (w : World) (h : Spot w base r gc cc gs cs (cidx k ss) n ss c p q) (hn : cidx k ss < n) (hr : Rising ss) (hss : ss.length ≤ 1000) (hn2 : n ≤ 2000) (hrc : Rising c.ks) (hc : c.ks.length ≤ 64) (hf : foundB k c.ks = false) :
    Calls Yba.prog 31 #[.pointer (some ⟨r, 0, none⟩), .string k] w fun e w' => e = .returned (.bool false) ∧ Ext w w' := by
  have c3 := h.c3
  have HCH := Hid.intro (child_some base gs cs r ss k w h.se hr (by omega) h.c4)
  have HX := Hid.intro (fun (W : World) (hx : Ext w W) => h.ext hx)
  have HD := Hid.intro (fun (W : World) (hx : Ext w W) => delLeaf_none base c p q k W (h.lc.ext hx) hrc hc hf)
  have hbd : (cidx k ss : Int) < (n : Int) := by omega
  clear h hf
  go_enter Yba.func31, Yba.ntmps31
  go_wp2_with (first | (go_at_call 26; refine (leaf_some _ _ _ _ _ c3).mono ?_; rintro e w1 ⟨rfl, h⟩; obtain rfl := h.symm) | (go_at_call 42; refine HCH.out.mono ?_; rintro e w2 ⟨rfl, hx⟩; have d3 := (HX.out w2 hx).c3; have dp := (HX.out w2 hx).pc; clear HCH) | (go_at_call 31; refine (HD.out _ hx).mono ?_; rintro e w3 ⟨rfl, hx3⟩))
  go_ret
  exact ⟨rfl, hx.trans hx3⟩
end Go.Proofs.Ybulkckvy
