import Derived.Test.YbulkckvyShift2
set_option linter.unusedVariables false
set_option linter.unusedSimpArgs false
namespace Go.Proofs.Ybulkckvy
open Go.RowKit
attribute [local go_sem ↓] Go.wp_at_zero Go.wp_at_succ

def SepRet (w : World) (F : List Nat) (base r gs cs n : Nat) (vc : Value) (bs : List Nat) (ls : List Leaf) (ss' : List ByteArray) (e : Ending) (w' : World) : Prop :=
  ∃ m, e = .returned (.slice (some ⟨gs, 0, none⟩) m cs) ∧ w'.cell? ⟨r, 4, none⟩ = some (.slice (some ⟨gs, 0, none⟩) n cs) ∧ w'.frozen? ⟨r, 4, none⟩ = false ∧ Ev w F base r vc (.slice (some ⟨gs, 0, none⟩) m cs) bs ls ss' (w'.setCell ⟨r, 4, none⟩ (.slice (some ⟨gs, 0, none⟩) m cs))
theorem Ev.del_sep {w W : World} {F : List Nat} {base r gs cs i : Nat} {vc : Value} {bs : List Nat} {ls : List Leaf} {ss : List ByteArray} (h : Ev w F base r vc (.slice (some ⟨gs, 0, none⟩) ss.length cs) bs ls ss W) (hi : i < ss.length) (hs : ss.length ≤ 2000) :
    Calls Yba.prog 23 #[.slice (some ⟨gs, 0, none⟩) ss.length cs, .int .i64 (i : Int), .int .i64 ((i : Int) + 1)] W (SepRet w F base r gs cs ss.length vc bs ls (ss.take i ++ ss.drop (i + 1))) := by
  have hd := InsS.del_any base ss.length i (i + 1) gs cs (ss.map Value.string) W h.1.se (by simp [Value.oneCell']) (by omega) (by omega) (by omega)
  rw [show ((i + 1 : Nat) : Int) = (i : Int) + 1 by omega] at hd
  refine hd.mono ?_
  rintro e w' ⟨rfl, hown, hgrow⟩
  obtain ⟨c9, hc9⟩ := own_ty h.1.se (g := gs) rfl
  have hn : w'.heap[r]? = _ := (hgrow.block r (hp_lt h.1.node) (fun e => ty_ne h.1.node hc9 (by decide) (by injection e))).trans h.1.node
  refine ⟨_, rfl, by rw [hp_cell hn]; rfl, hp_frozen hn _, Ev.seps h hgrow ?_ (fun g hg => .inl hg)⟩
  unfold Strs
  rw [show (ss.take i ++ ss.drop (i + 1)).length = i + (ss.length - (i + 1)) by simp; omega, List.map_append, List.map_take, List.map_drop]
  simpa using hown
def ChRet (w : World) (F : List Nat) (base r gc cc n : Nat) (vs : Value) (bs' : List Nat) (ls : List Leaf) (ss : List ByteArray) (e : Ending) (w' : World) : Prop :=
  ∃ m, e = .returned (.slice (some ⟨gc, 0, none⟩) m cc) ∧ w'.cell? ⟨r, 3, none⟩ = some (.slice (some ⟨gc, 0, none⟩) n cc) ∧ w'.frozen? ⟨r, 3, none⟩ = false ∧ Ev w F base r (.slice (some ⟨gc, 0, none⟩) m cc) vs bs' ls ss (w'.setCell ⟨r, 3, none⟩ (.slice (some ⟨gc, 0, none⟩) m cc))
theorem Ev.del_ch {w W : World} {F : List Nat} {base r gc cc i n : Nat} {vs : Value} {bs : List Nat} {ls : List Leaf} {ss : List ByteArray} (hn : bs.length = n) (h : Ev w F base r (.slice (some ⟨gc, 0, none⟩) n cc) vs bs ls ss W) (hi : i + 1 < n) (hs : n ≤ 2000) :
    Calls Yba.prog 46 #[.slice (some ⟨gc, 0, none⟩) n cc, .int .i64 ((i : Int) + 1), .int .i64 ((i : Int) + 2)] W (ChRet w F base r gc cc n vs (bs.take (i + 1) ++ bs.drop (i + 2)) ls ss) := by
  subst hn
  have hd := InsN.del_any base bs.length (i + 1) (i + 2) gc cc (bs.map ptrV) W h.1.ch (by simp [Value.oneCell', ptrV]) (by omega) (by omega) (by omega)
  rw [show ((i + 1 : Nat) : Int) = (i : Int) + 1 by omega, show ((i + 2 : Nat) : Int) = (i : Int) + 2 by omega] at hd
  refine hd.mono ?_
  rintro e w' ⟨rfl, hown, hgrow⟩
  obtain ⟨c9, hc9⟩ := own_ty h.1.ch (g := gc) rfl
  have hn : w'.heap[r]? = _ := (hgrow.block r (hp_lt h.1.node) (fun e => ty_ne h.1.node hc9 (by decide) (by injection e))).trans h.1.node
  refine ⟨_, rfl, by rw [hp_cell hn]; rfl, hp_frozen hn _, Ev.chs h hgrow ?_ (fun g hg => .inl hg)⟩
  unfold Ptrs
  rw [show (bs.take (i + 1) ++ bs.drop (i + 2)).length = i + 1 + (bs.length - (i + 2)) by simp; omega, List.map_append, List.map_take, List.map_drop]
  simpa using hown
theorem Ents.all {w : World} {base : Nat} {ks : List ByteArray} {g cap : Nat} (h : Ents w base (.slice (some ⟨g, 0, none⟩) ks.length cap) ks) : ∀ j u, (entsC ks)[j]? = some u → w.cell? ((⟨g, 0, none⟩ : Addr).add j) = some u := fun j u hj => by
  rcases h.form with ⟨h1, h2⟩ | ⟨g', cap', cur, h1, _, h3, _, _, h6, h7⟩
  · cases h1
  · injection h1 with e1 e2 e3
    injection e1 with e1
    injection e1 with e1
    subst e1; subst e3
    have hlt : j < ks.length * 3 := by
      rw [← entsC_length]
      exact (List.getElem?_eq_some_iff.1 hj).1
    rw [Addr.add_lit, Nat.zero_add, hp_cell h3, take_get h7 hlt]; exact hj
/-- b's keys have gone to the end of a, b is out of the root. -/
def MergePost (w : World) (F : List Nat) (base r : Nat) (A B : List Leaf) (a b : Leaf) (ss : List ByteArray) (w' : World) : Prop :=
  ∃ (a' : Leaf) (vc' vs' : Value), a'.b = a.b ∧ a'.ks = a.ks ++ b.ks ∧ Ev w F base r vc' vs' ((A ++ a' :: B).map (·.b)) (A ++ a' :: B) (ss.take A.length ++ ss.drop (A.length + 1)) w'
end Go.Proofs.Ybulkckvy
