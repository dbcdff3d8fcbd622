import Derived.Test.YbulkckvyMend
import Derived.Test.YbulkckvyPlain3
set_option linter.unusedVariables false
set_option linter.unusedSimpArgs false
namespace Go.Proofs.Ybulkckvy
open Go.RowKit

theorem Ev.trans {w W w' : World} {F : List Nat} {base r : Nat} {vc vs vc' vs' : Value} {bs bs' : List Nat} {ls ls' : List Leaf} {ss ss' : List ByteArray} (h : Ev w F base r vc vs bs ls ss W) (k : Ev W (footI r vc vs ls) base r vc' vs' bs' ls' ss' w') : Ev w F base r vc' vs' bs' ls' ss' w' := by
  obtain ⟨h1, h2, h3⟩ := h
  obtain ⟨k1, k2, k3⟩ := k
  have := h2.size
  refine ⟨k1, Fr.trans' h2 k2 h3, fun x hx => ?_⟩
  rcases k3 x hx with e | e
  · exact h3 x e
  · exact .inr (by omega)

/-- An inner root over good leaves with the keys K. -/
def DelInn (w : World) (F : List Nat) (base r : Nat) (K : List ByteArray) (w' : World) : Prop :=
  ∃ vc' vs' ls' ss', Ev w F base r vc' vs' (ls'.map (·.b)) ls' ss' w' ∧ Good (kssOf ls') ss' ∧ keysOf ls' = K

theorem set_mid (s1 s2 : List ByteArray) (s x : ByteArray) : (s1 ++ s :: s2).set s1.length x = s1 ++ x :: s2 := by simp
/-- The separator at a place. -/
theorem sep_at {ss : List ByteArray} {i : Nat} (h : i < ss.length) : ∃ s1 s s2, ss = s1 ++ s :: s2 ∧ s1.length = i :=
  ⟨ss.take i, ss[i], ss.drop (i + 1), by rw [← List.drop_eq_getElem_cons h, List.take_append_drop], by simp; omega⟩
theorem kss_two (A B : List Leaf) (a b : Leaf) : kssOf (A ++ a :: b :: B) = kssOf A ++ a.ks :: b.ks :: kssOf B := by simp [kssOf]
theorem kss_len (A : List Leaf) : (kssOf A).length = A.length := by simp [kssOf]

theorem ShiftR.inn {w W w' : World} {F : List Nat} {base r : Nat} {vc vs : Value} {A B : List Leaf} {a b : Leaf} {ss : List ByteArray} (h : Ev w F base r vc vs ((A ++ a :: b :: B).map (·.b)) (A ++ a :: b :: B) ss W) (ho : Ordd (kssOf (A ++ a :: b :: B)) ss)
    (hs : ∀ d, d ∈ A ∨ d ∈ B → 32 ≤ d.ks.length ∧ d.ks.length ≤ 64) (ha : 32 < a.ks.length) (ha2 : a.ks.length ≤ 64) (hb : b.ks.length = 31)
    (hr : ShiftR W (footI r vc vs (A ++ a :: b :: B)) base r vc vs A B a b ss w') : DelInn w F base r (keysOf (A ++ a :: b :: B)) w' := by
  obtain ⟨a', b', x, e1, e2, e3, e4, hE⟩ := hr
  have hlen := ho.len
  simp only [kss_two, List.length_append, List.length_cons, kss_len] at hlen
  obtain ⟨s1, s, s2, rfl, hs1⟩ := sep_at (ss := ss) (i := A.length) (by omega)
  have hla : a.ks.length = a'.ks.length + 1 := by rw [e3]; simp
  have hlb : b'.ks.length = b.ks.length + 1 := by rw [e4]; simp
  refine ⟨vc, vs, A ++ a' :: b' :: B, s1 ++ x :: s2, ?_, ?_, ?_⟩
  · have := h.trans hE
    rw [← hs1, set_mid] at this
    rwa [show (A ++ a :: b :: B).map (·.b) = (A ++ a' :: b' :: B).map (·.b) by simp [e1, e2]] at this
  · rw [kss_two] at ho
    have ho2 := ho.resep (by rw [kss_len, hs1]) (show a.ks ++ b.ks = a'.ks ++ x :: b.ks by rw [e3]; simp) (by intro e; rw [e] at hla; simp at hla; omega)
    rw [kss_two, e4]
    refine ho2.good (fun d hd => ?_)
    simp only [List.mem_append, List.mem_cons, kssOf, List.mem_map] at hd
    rcases hd with ⟨l, hl, rfl⟩ | rfl | rfl | ⟨l, hl, rfl⟩
    · exact ⟨fun _ => (hs l (.inl hl)).1, (hs l (.inl hl)).2⟩
    · exact ⟨fun _ => by omega, by omega⟩
    · rw [← e4]; exact ⟨fun _ => by omega, by omega⟩
    · exact ⟨fun _ => (hs l (.inr hl)).1, (hs l (.inr hl)).2⟩
  · simp [keysOf, kssOf, e3, e4]
theorem ShiftL.inn {w W w' : World} {F : List Nat} {base r : Nat} {vc vs : Value} {A B : List Leaf} {a b : Leaf} {ss : List ByteArray} (h : Ev w F base r vc vs ((A ++ a :: b :: B).map (·.b)) (A ++ a :: b :: B) ss W) (ho : Ordd (kssOf (A ++ a :: b :: B)) ss)
    (hs : ∀ d, d ∈ A ∨ d ∈ B → 32 ≤ d.ks.length ∧ d.ks.length ≤ 64) (ha : a.ks.length = 31) (hb : 32 < b.ks.length) (hb2 : b.ks.length ≤ 64)
    (hr : ShiftL W (footI r vc vs (A ++ a :: b :: B)) base r vc vs A B a b ss w') : DelInn w F base r (keysOf (A ++ a :: b :: B)) w' := by
  obtain ⟨a', b', x, y, t, e1, e2, e3, e4, e5, hE⟩ := hr
  have hlen := ho.len
  simp only [kss_two, List.length_append, List.length_cons, kss_len] at hlen
  obtain ⟨s1, s, s2, rfl, hs1⟩ := sep_at (ss := ss) (i := A.length) (by omega)
  have hla : a'.ks.length = a.ks.length + 1 := by rw [e3]; simp
  have hlb : b.ks.length = b'.ks.length + 1 := by rw [e4]; simp
  refine ⟨vc, vs, A ++ a' :: b' :: B, s1 ++ y :: s2, ?_, ?_, ?_⟩
  · have := h.trans hE
    rw [← hs1, set_mid] at this
    rwa [show (A ++ a :: b :: B).map (·.b) = (A ++ a' :: b' :: B).map (·.b) by simp [e1, e2]] at this
  · rw [kss_two] at ho
    have ho2 := ho.resep (by rw [kss_len, hs1]) (show a.ks ++ b.ks = a'.ks ++ y :: t by rw [e3, e4, e5]; simp) (by intro e; rw [e] at hla; simp at hla)
    rw [kss_two, e5]
    refine ho2.good (fun d hd => ?_)
    simp only [List.mem_append, List.mem_cons, kssOf, List.mem_map] at hd
    rcases hd with ⟨l, hl, rfl⟩ | rfl | rfl | ⟨l, hl, rfl⟩
    · exact ⟨fun _ => (hs l (.inl hl)).1, (hs l (.inl hl)).2⟩
    · exact ⟨fun _ => by omega, by omega⟩
    · rw [← e5]; exact ⟨fun _ => by omega, by omega⟩
    · exact ⟨fun _ => (hs l (.inr hl)).1, (hs l (.inr hl)).2⟩
  · simp [keysOf, kssOf, e3, e4]
theorem MergePost.inn {w W w' : World} {F : List Nat} {base r : Nat} {vc vs : Value} {A B : List Leaf} {a b : Leaf} {ss : List ByteArray} (h : Ev w F base r vc vs ((A ++ a :: b :: B).map (·.b)) (A ++ a :: b :: B) ss W) (ho : Ordd (kssOf (A ++ a :: b :: B)) ss)
    (hs : ∀ d, d ∈ A ∨ d ∈ B → 32 ≤ d.ks.length ∧ d.ks.length ≤ 64) (hab : 32 ≤ a.ks.length + b.ks.length) (hab2 : a.ks.length + b.ks.length ≤ 64)
    (hr : MergePost W (footI r vc vs (A ++ a :: b :: B)) base r A B a b ss w') : DelInn w F base r (keysOf (A ++ a :: b :: B)) w' := by
  obtain ⟨a', vc', vs', e1, e2, hE⟩ := hr
  have hlen := ho.len
  simp only [kss_two, List.length_append, List.length_cons, kss_len] at hlen
  obtain ⟨s1, s, s2, rfl, hs1⟩ := sep_at (ss := ss) (i := A.length) (by omega)
  have hla : a'.ks.length = a.ks.length + b.ks.length := by rw [e2]; simp
  refine ⟨vc', vs', A ++ a' :: B, s1 ++ s2, ?_, ?_, ?_⟩
  · have := h.trans hE
    rwa [← hs1, List.take_left, show (s1 ++ s :: s2).drop (s1.length + 1) = s2 by simp [List.drop_append]] at this
  · rw [kss_two] at ho
    have ho2 := ho.merge (by rw [kss_len, hs1])
    rw [kssOf_append, e2]
    refine ho2.good (fun d hd => ?_)
    simp only [List.mem_append, List.mem_cons, kssOf, List.mem_map] at hd
    rcases hd with ⟨l, hl, rfl⟩ | rfl | ⟨l, hl, rfl⟩
    · exact ⟨fun _ => (hs l (.inl hl)).1, (hs l (.inl hl)).2⟩
    · rw [← e2]; exact ⟨fun _ => by omega, by omega⟩
    · exact ⟨fun _ => (hs l (.inr hl)).1, (hs l (.inr hl)).2⟩
  · simp [keysOf, kssOf, e2]
end Go.Proofs.Ybulkckvy
