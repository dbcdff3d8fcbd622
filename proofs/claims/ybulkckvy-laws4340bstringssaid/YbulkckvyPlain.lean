import Derived.Test.YbulkckvyKeys
/-! The plain law of the tree: keys and separators in one sequence. No Go in sight. -/
set_option linter.unusedVariables false
set_option linter.unusedSimpArgs false
namespace Go.Proofs.Ybulkckvy

abbrev Item := Bool × ByteArray
def kI (k : ByteArray) : Item := (false, k)
def sI (s : ByteArray) : Item := (true, s)
/-- What stands ahead is less; a separator may be equal to a key behind it. -/
def RI (a b : Item) : Prop := if a.1 = true ∧ b.1 = false then klt b.2 a.2 = false else klt a.2 b.2 = true
theorem RI_kk {a b : ByteArray} : RI (kI a) (kI b) ↔ klt a b = true := by simp [RI, kI]
theorem RI_ks {a b : ByteArray} : RI (kI a) (sI b) ↔ klt a b = true := by simp [RI, kI, sI]
theorem RI_ss {a b : ByteArray} : RI (sI a) (sI b) ↔ klt a b = true := by simp [RI, sI]
theorem RI_sk {a b : ByteArray} : RI (sI a) (kI b) ↔ klt b a = false := by simp [RI, sI, kI]

/-- Leaves each with the separator behind it. -/
def headI (P : List (List ByteArray)) (s1 : List ByteArray) : List Item := (P.zip s1).flatMap fun p => p.1.map kI ++ [sI p.2]
/-- Leaves each with the separator ahead of it. -/
def tailI (s2 : List ByteArray) (S : List (List ByteArray)) : List Item := (s2.zip S).flatMap fun p => sI p.1 :: p.2.map kI
def seqT (kss : List (List ByteArray)) (ss : List ByteArray) : List Item := match kss with
  | [] => []
  | c :: S => c.map kI ++ tailI ss S
theorem seqT_at : ∀ (P : List (List ByteArray)) (s1 : List ByteArray) (c : List ByteArray) (S : List (List ByteArray)) (s2 : List ByteArray), P.length = s1.length → seqT (P ++ c :: S) (s1 ++ s2) = headI P s1 ++ (c.map kI ++ tailI s2 S)
  | [], [], c, S, s2, _ => by simp [seqT, headI]
  | [], _ :: _, _, _, _, h => by simp at h
  | _ :: _, [], _, _, _, h => by simp at h
  | p :: P, s :: s1, c, S, s2, h => by
    have ih := seqT_at P s1 c S s2 (by simpa using h)
    have hsplit : ∀ (X : List (List ByteArray)) (hX : X ≠ []) (t : List ByteArray), tailI (s :: t) X = sI s :: seqT X t := fun X hX t => by
      cases X with
      | nil => exact absurd rfl hX
      | cons c' X' => simp [tailI, seqT]
    show p.map kI ++ tailI (s :: (s1 ++ s2)) (P ++ c :: S) = _
    rw [hsplit _ (by simp), ih]
    simp [headI]

/-- The keys of a sequence. -/
def keysI (l : List Item) : List ByteArray := l.filterMap fun p => if p.1 then none else some p.2
def sepsI (l : List Item) : List ByteArray := l.filterMap fun p => if p.1 then some p.2 else none
theorem keysI_append (a b : List Item) : keysI (a ++ b) = keysI a ++ keysI b := by simp [keysI]
theorem sepsI_append (a b : List Item) : sepsI (a ++ b) = sepsI a ++ sepsI b := by simp [sepsI]
theorem keysI_map (c : List ByteArray) : keysI (c.map kI) = c := by
  induction c with
  | nil => rfl
  | cons x c ih => show x :: keysI (c.map kI) = _; rw [ih]
theorem sepsI_map (c : List ByteArray) : sepsI (c.map kI) = [] := by
  induction c with
  | nil => rfl
  | cons x c ih => show sepsI (c.map kI) = _; exact ih
theorem keysI_tail : ∀ (s2 : List ByteArray) (S : List (List ByteArray)), s2.length = S.length → keysI (tailI s2 S) = S.flatten
  | [], [], _ => rfl
  | [], _ :: _, h => by simp at h
  | _ :: _, [], h => by simp at h
  | s :: s2, c :: S, h => by
    have ih := keysI_tail s2 S (by simpa using h)
    have : tailI (s :: s2) (c :: S) = sI s :: (c.map kI ++ tailI s2 S) := by simp [tailI]
    rw [this]
    show keysI (c.map kI ++ tailI s2 S) = _
    rw [keysI_append, keysI_map, ih]; simp
theorem sepsI_tail : ∀ (s2 : List ByteArray) (S : List (List ByteArray)), s2.length = S.length → sepsI (tailI s2 S) = s2
  | [], [], _ => rfl
  | [], _ :: _, h => by simp at h
  | _ :: _, [], h => by simp at h
  | s :: s2, c :: S, h => by
    have ih := sepsI_tail s2 S (by simpa using h)
    have : tailI (s :: s2) (c :: S) = sI s :: (c.map kI ++ tailI s2 S) := by simp [tailI]
    rw [this]
    show s :: sepsI (c.map kI ++ tailI s2 S) = _
    rw [sepsI_append, sepsI_map, ih]; simp
theorem keysI_head : ∀ (P : List (List ByteArray)) (s1 : List ByteArray), P.length = s1.length → keysI (headI P s1) = P.flatten
  | [], [], _ => rfl
  | [], _ :: _, h => by simp at h
  | _ :: _, [], h => by simp at h
  | c :: P, s :: s1, h => by
    have ih := keysI_head P s1 (by simpa using h)
    have : headI (c :: P) (s :: s1) = c.map kI ++ (sI s :: headI P s1) := by simp [headI]
    rw [this, keysI_append, keysI_map]
    show c ++ keysI (headI P s1) = _
    rw [ih]; simp
theorem keysI_seq {kss : List (List ByteArray)} {ss : List ByteArray} (h : ss.length + 1 = kss.length) : keysI (seqT kss ss) = kss.flatten := by
  cases kss with
  | nil => rfl
  | cons c S =>
    show keysI (c.map kI ++ tailI ss S) = _
    rw [keysI_append, keysI_map, keysI_tail ss S (by simpa using h)]; simp
theorem sepsI_seq {kss : List (List ByteArray)} {ss : List ByteArray} (h : ss.length + 1 = kss.length) : sepsI (seqT kss ss) = ss := by
  cases kss with
  | nil => simp at h
  | cons c S =>
    show sepsI (c.map kI ++ tailI ss S) = _
    rw [sepsI_append, sepsI_map, sepsI_tail ss S (by simpa using h)]; simp

theorem rising_keys {l : List Item} (h : l.Pairwise RI) : Rising (keysI l) := by
  induction l with
  | nil => exact List.Pairwise.nil
  | cons a l ih =>
    rw [List.pairwise_cons] at h
    obtain ⟨b, x⟩ := a
    cases b with
    | true => exact ih h.2
    | false =>
      show Rising (x :: keysI l)
      refine List.pairwise_cons.2 ⟨fun y hy => ?_, ih h.2⟩
      obtain ⟨⟨b', y'⟩, hm, he⟩ := List.mem_filterMap.1 hy
      cases b' with
      | true => simp at he
      | false => simp at he; subst he; exact RI_kk.1 (h.1 _ hm)
theorem rising_seps {l : List Item} (h : l.Pairwise RI) : Rising (sepsI l) := by
  induction l with
  | nil => exact List.Pairwise.nil
  | cons a l ih =>
    rw [List.pairwise_cons] at h
    obtain ⟨b, x⟩ := a
    cases b with
    | false => exact ih h.2
    | true =>
      show Rising (x :: sepsI l)
      refine List.pairwise_cons.2 ⟨fun y hy => ?_, ih h.2⟩
      obtain ⟨⟨b', y'⟩, hm, he⟩ := List.mem_filterMap.1 hy
      cases b' with
      | false => simp at he
      | true => simp at he; subst he; exact RI_ss.1 (h.1 _ hm)

/-- A good tree: as many separators as gaps; all in order; the leaves' sizes. -/
structure Good (kss : List (List ByteArray)) (ss : List ByteArray) : Prop where
  len : ss.length + 1 = kss.length
  ord : (seqT kss ss).Pairwise RI
  lo : 2 ≤ kss.length → ∀ c ∈ kss, 32 ≤ c.length
  hi : ∀ c ∈ kss, c.length ≤ 64
theorem Good.rising {kss : List (List ByteArray)} {ss : List ByteArray} (h : Good kss ss) : Rising kss.flatten := by
  rw [← keysI_seq h.len]; exact rising_keys h.ord
theorem Good.seps {kss : List (List ByteArray)} {ss : List ByteArray} (h : Good kss ss) : Rising ss := by
  have := rising_seps h.ord
  rwa [sepsI_seq h.len] at this
theorem flatten_lo : ∀ (kss : List (List ByteArray)), (∀ c ∈ kss, 32 ≤ c.length) → kss.length * 32 ≤ kss.flatten.length
  | [], _ => by simp
  | c :: kss, h => by
    have ih := flatten_lo kss (fun d hd => h d (by simp [hd]))
    have := h c (by simp)
    simp only [List.length_cons, List.flatten_cons, List.length_append]
    omega
/-- How many leaves there can be. -/
theorem Good.few {kss : List (List ByteArray)} {ss : List ByteArray} (h : Good kss ss) (hn : kss.flatten.length ≤ 1024) : kss.length ≤ 32 := by
  rcases Nat.lt_or_ge kss.length 2 with h2 | h2
  · omega
  · have := flatten_lo kss (h.lo h2)
    omega
end Go.Proofs.Ybulkckvy
