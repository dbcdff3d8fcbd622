import Derived.Lib.Bytealg
import Derived.Laws.StructEq
/-! The order of keys (Go's '<' on strings): a strict total order; 'strings.Compare' says the same. No program in sight. -/
set_option linter.unusedVariables false
namespace Go.Proofs.Ybulkckvy
open Go.Op (bytesLess)

theorem bl_irrefl : ∀ x : List UInt8, bytesLess x x = false
  | [] => rfl
  | a :: x => by
    have h1 : ¬ a < a := UInt8.lt_irrefl a
    have h2 := bl_irrefl x
    simp [bytesLess, h1, h2]
theorem bl_trans : ∀ x y z : List UInt8, bytesLess x y = true → bytesLess y z = true → bytesLess x z = true
  | _, [], _, h, _ => by simp [bytesLess] at h
  | [], _ :: _, [], _, h => by simp [bytesLess] at h
  | [], _ :: _, _ :: _, _, _ => by simp [bytesLess]
  | _ :: _, _ :: _, [], _, h => by simp [bytesLess] at h
  | a :: x, b :: y, c :: z, h1, h2 => by
    simp only [bytesLess, Bool.or_eq_true, decide_eq_true_eq, Bool.and_eq_true, beq_iff_eq] at h1 h2 ⊢
    rcases h1 with h1 | ⟨rfl, h1⟩
    · rcases h2 with h2 | ⟨rfl, h2⟩
      · exact .inl (UInt8.lt_trans h1 h2)
      · exact .inl h1
    · rcases h2 with h2 | ⟨rfl, h2⟩
      · exact .inl h2
      · exact .inr ⟨rfl, bl_trans x y z h1 h2⟩
theorem bl_total : ∀ x y : List UInt8, bytesLess x y = false → bytesLess y x = false → x = y
  | [], [], _, _ => rfl
  | [], _ :: _, h, _ => by simp [bytesLess] at h
  | _ :: _, [], _, h => by simp [bytesLess] at h
  | a :: x, b :: y, h1, h2 => by
    simp only [bytesLess, Bool.or_eq_false_iff, decide_eq_false_iff_not, Bool.and_eq_false_iff, beq_eq_false_iff_ne, ne_eq] at h1 h2
    have hab : a = b := UInt8.le_antisymm (UInt8.not_lt.1 h2.1) (UInt8.not_lt.1 h1.1)
    subst hab
    have := bl_total x y (by simpa using h1.2) (by simpa using h2.2)
    rw [this]
theorem compare_eq : ∀ x y : List UInt8, Lib.compareBytes x y = if bytesLess x y then -1 else if x = y then 0 else 1
  | [], [] => rfl
  | [], _ :: _ => by simp [bytesLess, Lib.compareBytes]
  | _ :: _, [] => by simp [bytesLess, Lib.compareBytes]
  | a :: x, b :: y => by
    have ih := compare_eq x y
    unfold Lib.compareBytes
    by_cases h1 : a < b
    · simp [bytesLess, h1]
    · by_cases h2 : b < a
      · have hne : a ≠ b := fun e => by subst e; exact h1 h2
        simp [bytesLess, h1, h2, hne]
      · have hab : a = b := UInt8.le_antisymm (UInt8.not_lt.1 h2) (UInt8.not_lt.1 h1)
        subst hab
        simp only [h1, if_false, ih, bytesLess, decide_false, Bool.false_or, beq_self_eq_true, Bool.true_and, List.cons.injEq, true_and]

/-- Go's '<' on strings. -/
def klt (a b : ByteArray) : Bool := bytesLess a.toList b.toList
theorem toList_inj {a b : ByteArray} (h : a.toList = b.toList) : a = b := by
  rw [ByteArray.toList_eq, ByteArray.toList_eq] at h
  obtain ⟨⟨x⟩⟩ := a
  obtain ⟨⟨y⟩⟩ := b
  simp at h
  rw [h]
theorem klt_irrefl (a : ByteArray) : klt a a = false := bl_irrefl _
theorem klt_trans {a b c : ByteArray} (h1 : klt a b = true) (h2 : klt b c = true) : klt a c = true := bl_trans _ _ _ h1 h2
theorem klt_total {a b : ByteArray} (h1 : klt a b = false) (h2 : klt b a = false) : a = b := toList_inj (bl_total _ _ h1 h2)
theorem klt_asymm {a b : ByteArray} (h1 : klt a b = true) : klt b a = false := by
  cases h : klt b a with
  | false => rfl
  | true => have := klt_trans h1 h; rw [klt_irrefl] at this; cases this
theorem klt_ne {a b : ByteArray} (h : klt a b = true) : a ≠ b := fun e => by subst e; rw [klt_irrefl] at h; cases h
/-- Not less, and what is below. -/
theorem klt_of_le_lt {a b c : ByteArray} (h1 : klt b a = false) (h2 : klt b c = true) : klt a c = true := by
  cases h : klt a b with
  | true => exact klt_trans h h2
  | false => rw [klt_total h h1]; exact h2
theorem klt_of_lt_le {a b c : ByteArray} (h1 : klt a b = true) (h2 : klt c b = false) : klt a c = true := by
  cases h : klt b c with
  | true => exact klt_trans h1 h
  | false => rw [← klt_total h h2]; exact h1
theorem kle_trans {a b c : ByteArray} (h1 : klt b a = false) (h2 : klt c b = false) : klt c a = false := by
  cases h : klt c a with
  | false => rfl
  | true =>
    have := klt_of_lt_le h h1
    rw [h2] at this; cases this
/-- strings.Compare. -/
theorem compare_keys (a b : ByteArray) : Lib.compareBytes a.data.toList b.data.toList = if klt a b then -1 else if a = b then 0 else 1 := by
  rw [compare_eq, ← ByteArray.toList_eq, ← ByteArray.toList_eq]
  unfold klt
  by_cases h : bytesLess a.toList b.toList = true
  · simp [h]
  · simp only [h]
    by_cases e : a = b
    · subst e; simp
    · have : a.toList ≠ b.toList := fun e' => e (toList_inj e')
      simp [e, this]

/-- Strictly rising. -/
def Rising (ks : List ByteArray) : Prop := ks.Pairwise (fun a b => klt a b = true)
theorem Rising.get {ks : List ByteArray} (h : Rising ks) {i j : Nat} (hij : i < j) (hj : j < ks.length) : klt ks[i] ks[j] = true :=
  List.pairwise_iff_getElem.1 h i j (by omega) hj hij

/-- How many satisfy p, where p holds of just the first i. -/
theorem countP_cut (p : ByteArray → Bool) : ∀ (ks : List ByteArray) (i : Nat), i ≤ ks.length → (∀ j (h : j < ks.length), j < i → p ks[j] = true) → (∀ j (h : j < ks.length), i ≤ j → p ks[j] = false) → ks.countP p = i
  | [], i, h, _, _ => by simp at h; simp [h]
  | k :: ks, 0, _, _, h2 => by
    have h0 := h2 0 (by simp) (by omega)
    have := countP_cut p ks 0 (by omega) (fun j h hj => by omega) (fun j h _ => by have := h2 (j + 1) (by simp; omega) (by omega); simpa using this)
    simp at h0
    simp [h0, this]
  | k :: ks, i + 1, hi, h1, h2 => by
    have h0 := h1 0 (by simp) (by omega)
    have := countP_cut p ks i (by simpa using hi) (fun j h hj => by have := h1 (j + 1) (by simp; omega) (by omega); simpa using this) (fun j h hj => by have := h2 (j + 1) (by simp; omega) (by omega); simpa using this)
    simp at h0
    simp [h0, this]
/-- The keys below k. -/
def pos (k : ByteArray) (ks : List ByteArray) : Nat := ks.countP (fun x => klt x k)
theorem pos_le (k : ByteArray) (ks : List ByteArray) : pos k ks ≤ ks.length := List.countP_le_length
theorem countP_spec (p : ByteArray → Bool) : ∀ (ks : List ByteArray), (∀ i j (hi : i < ks.length) (hj : j < ks.length), i < j → p ks[j] = true → p ks[i] = true) →
    (∀ j (h : j < ks.length), j < ks.countP p → p ks[j] = true) ∧ (∀ j (h : j < ks.length), ks.countP p ≤ j → p ks[j] = false)
  | [], _ => ⟨fun j h => by simp at h, fun j h => by simp at h⟩
  | k :: ks, hm => by
    have ih := countP_spec p ks (fun i j hi hj hij h => by
      have := hm (i + 1) (j + 1) (by simp; omega) (by simp; omega) (by omega)
      simp at this; exact this h)
    cases hk : p k with
    | true =>
      simp only [List.countP_cons, hk, if_true]
      refine ⟨fun j h hj => ?_, fun j h hj => ?_⟩
      · cases j with
        | zero => simpa using hk
        | succ j => simpa using ih.1 j (by simpa using h) (by omega)
      · cases j with
        | zero => omega
        | succ j => simpa using ih.2 j (by simpa using h) (by omega)
    | false =>
      have hz : ks.countP p = 0 := by
        rw [List.countP_eq_zero]
        intro x hx
        obtain ⟨i, hi, rfl⟩ := List.getElem_of_mem hx
        intro hp
        have := hm 0 (i + 1) (by simp) (by simp; omega) (by omega)
        simp at this
        rw [this hp] at hk; cases hk
      simp only [List.countP_cons, hk, hz]
      refine ⟨fun j h hj => by simp at hj, fun j h _ => ?_⟩
      cases j with
      | zero => simpa using hk
      | succ j => simpa using ih.2 j (by simpa using h) (by omega)
theorem pos_lt {k : ByteArray} {ks : List ByteArray} (h : Rising ks) {j : Nat} (hj : j < ks.length) (hp : j < pos k ks) : klt ks[j] k = true :=
  (countP_spec (fun x => klt x k) ks (fun i j hi hj hij hx => klt_trans (h.get hij hj) hx)).1 j hj hp
theorem pos_ge {k : ByteArray} {ks : List ByteArray} (h : Rising ks) {j : Nat} (hj : j < ks.length) (hp : pos k ks ≤ j) : klt ks[j] k = false :=
  (countP_spec (fun x => klt x k) ks (fun i j hi hj hij hx => klt_trans (h.get hij hj) hx)).2 j hj hp
end Go.Proofs.Ybulkckvy
