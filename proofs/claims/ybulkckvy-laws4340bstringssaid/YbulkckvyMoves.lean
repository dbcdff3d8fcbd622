import Derived.Test.YbulkckvyEv
import Derived.Test.YbulkckvyDelLeaf
set_option linter.unusedVariables false
set_option linter.unusedSimpArgs false
namespace Go.Proofs.Ybulkckvy
open Go.RowKit

/-- The leaf l with the keys ks in its stead. -/
def KeysAt (w : World) (base : Nat) (l : Leaf) (p n : Option Nat) (ks : List ByteArray) (w' : World) : Prop := ∃ l' : Leaf, l'.ks = ks ∧ Turned w base l p n l' w'
def InsRet (w : World) (base : Nat) (l : Leaf) (p n : Option Nat) (ks : List ByteArray) (e : Ending) (w' : World) : Prop :=
  ∃ g m cap, e = .returned (.slice (some ⟨g, 0, none⟩) m cap) ∧ w'.cell? ⟨l.b, 0, none⟩ = some l.v ∧ w'.frozen? ⟨l.b, 0, none⟩ = false ∧ KeysAt w base l p n ks (w'.setCell ⟨l.b, 0, none⟩ (.slice (some ⟨g, 0, none⟩) m cap))
theorem ins_call {w W : World} {base : Nat} {l : Leaf} {p n : Option Nat} {i vb : Nat} {k : ByteArray} (hl : LeafAt w base l p n) (hx : Ext w W) (hvb : W.heap[vb]? = some (.cells #[.string k, .slice none 0 0, .bool false] 81 (0, 0))) (hnew : w.heap.size ≤ vb) (hi : i ≤ l.ks.length) (hlen : l.ks.length ≤ 64) (hbase : base ≤ w.heap.size) :
    Calls Yba.prog 40 #[l.v, .int .i64 (i : Int), .slice (some ⟨vb, 0, none⟩) 1 1] W (InsRet w base l p n (l.ks.take i ++ k :: l.ks.drop i)) := by
  have hlW := hl.ext hx
  have hsz := hx.le
  refine (InsE.ins_any base l.ks.length i vb l.v (entsC l.ks) [.string k, .slice none 0 0, .bool false] W hlW.ents rfl hvb (fun e => by obtain ⟨c, hc⟩ := own_ty hl.ents e; have := hp_lt hc; omega) (by simp [Value.oneCell']) (entsC_one _) (by omega) hi (by omega)).mono ?_
  rintro e w' ⟨v', g, rfl, hown, hgrow, hg, hgg⟩
  obtain ⟨g', cap', rfl⟩ := own_form hown
  have hg' : g' = g := by injection hg
  subst hg'
  obtain ⟨q1, q2⟩ := hlW.stay hgrow
  refine ⟨g', _, cap', rfl, q1, q2, ⟨l.b, _, _⟩, rfl, Turned.mk hlW hx ?_ hgrow (fun g'' hg'' => ?_)⟩
  · unfold Ents
    rw [entsC_append]
    simp only [entsC]
    rw [entsC_take, entsC_drop] at hown
    rw [show (l.ks.take i ++ k :: l.ks.drop i).length = l.ks.length + 1 by simp; omega]
    simpa using hown
  · have : g'' = g' := by injection hg'' with e; exact e.symm
    rw [this]; exact hgg
set_option maxRecDepth 100000 in
/-- append: the keys ks2 that lie at ad. -/
theorem app_call {W : World} {base : Nat} {l : Leaf} {p n : Option Nat} {ty : TypeId} {ks2 : List ByteArray} {ad : Addr} {c : Nat} (hl : LeafAt W base l p n) (hn : 0 < ks2.length) (hs : ∀ j u, (entsC ks2)[j]? = some u → W.cell? (ad.add j) = some u)
    (hlen : l.ks.length ≤ 64) (hlen2 : ks2.length ≤ 64) (hbase : base ≤ W.heap.size) :
    ∃ g m cap w4, (Builtin.append_ #[40, 40] ty #[l.v, .slice (some ad) ks2.length c]).run Yba.prog W = .ok (.slice (some ⟨g, 0, none⟩) m cap) w4 ∧ w4.cell? ⟨l.b, 0, none⟩ = some l.v ∧ w4.frozen? ⟨l.b, 0, none⟩ = false ∧
      KeysAt W base l p n (l.ks ++ ks2) (w4.setCell ⟨l.b, 0, none⟩ (.slice (some ⟨g, 0, none⟩) m cap)) := by
  obtain ⟨i0, hi0, hz0, hzs, hzb⟩ := info_parts InsE.info
  obtain ⟨v', w4, hr, hown, hgrow, hnil, hat⟩ := run_append_own_at (P := Yba.prog) W base 40 ty 81 i0 (.agg #[.string ⟨#[]⟩, .slice none 0 0, .bool false]) 3 48 Yba.underlying40 hi0 hz0 hzs hzb rfl (by decide) l.v l.ks.length (entsC l.ks) hl.ents ad ks2.length c (entsC ks2) (entsC_length _) hs (entsC_one _) (by unfold maxLen; omega) (by omega) hbase
  obtain ⟨m', hm'⟩ : ∃ m', l.ks.length + ks2.length = m' + 1 := ⟨l.ks.length + ks2.length - 1, by omega⟩
  rw [hm'] at hown
  obtain ⟨g, cap, rfl⟩ := own_form hown
  obtain ⟨q1, q2⟩ := hl.stay hgrow
  refine ⟨g, _, cap, w4, hr, q1, q2, ⟨l.b, _, _⟩, rfl, Turned.mk hl (Ext.refl _) ?_ hgrow (fun g' hg' => ?_)⟩
  · have e : (l.ks ++ ks2).length = m' + 1 := by rw [List.length_append]; exact hm'
    unfold Ents
    rw [e, entsC_append]; exact hown
  · have e : g' = g := by injection hg' with e; exact e.symm
    subst e
    rcases hat with h | h
    · exact .inl h.symm
    · have : g' = W.heap.size := by injection h
      exact .inr (by omega)
end Go.Proofs.Ybulkckvy
