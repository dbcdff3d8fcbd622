import Derived.Test.YbulkckvyBkey
import Derived.Test.YbulkckvyTurn
set_option linter.unusedVariables false
set_option linter.unusedSimpArgs false
namespace Go.Proofs.Ybulkckvy

/-- The keys of the numbers below m that are present. -/
def KP (m : Nat) (P : Nat → Bool) : List ByteArray := ((List.range m).filter P).map bkey
def upd (P : Nat → Bool) (j : Nat) (b : Bool) : Nat → Bool := fun i => if i = j then b else P i
def KA (j : Nat) (P : Nat → Bool) : List ByteArray := ((List.range j).filter P).map bkey
def KC (m j : Nat) (P : Nat → Bool) : List ByteArray := ((List.range' (j + 1) (m - j - 1)).filter P).map bkey
theorem KP_split {m j : Nat} (P : Nat → Bool) (hj : j < m) : KP m P = KA j P ++ ((if P j then [bkey j] else []) ++ KC m j P) := by
  have e : List.range m = List.range j ++ (j :: List.range' (j + 1) (m - j - 1)) := by
    have h := List.range'_append_1 (s := 0) (m := j) (n := m - j - 1 + 1)
    rw [Nat.zero_add] at h
    rw [List.range_eq_range', List.range_eq_range', ← List.range'_succ, h]
    congr 1; omega
  unfold KP KA KC
  rw [e, List.filter_append, List.map_append, List.filter_cons]
  split <;> simp
theorem pos_split {k : ByteArray} {A C : List ByteArray} (h1 : ∀ x ∈ A, klt x k = true) (h2 : ∀ x ∈ C, klt x k = false) : pos k (A ++ C) = A.length := by
  unfold pos
  rw [List.countP_append, List.countP_eq_length.2 h1, List.countP_eq_zero.2 (fun x hx => by simp [h2 x hx])]
  omega
theorem KA_lt {m j : Nat} {P : Nat → Bool} (hm : m ≤ 10000) (hj : j < m) : ∀ x ∈ KA j P, klt x (bkey j) = true := fun x hx => by
  obtain ⟨i, hi, rfl⟩ := List.mem_map.1 hx
  have hi := List.mem_range.1 (List.mem_filter.1 hi).1
  rw [bkey_lt (by omega) (by omega)]
  exact decide_eq_true hi
theorem KC_mem {m j : Nat} {P : Nat → Bool} {x : ByteArray} (hx : x ∈ KC m j P) : ∃ i, j < i ∧ i < m ∧ P i = true ∧ x = bkey i := by
  obtain ⟨i, hi, rfl⟩ := List.mem_map.1 hx
  obtain ⟨hi, hp⟩ := List.mem_filter.1 hi
  have := List.mem_range'_1.1 hi
  exact ⟨i, by omega, by omega, hp, rfl⟩
theorem KC_ge {m j : Nat} {P : Nat → Bool} (hm : m ≤ 10000) (hj : j < m) : ∀ x ∈ KC m j P, klt x (bkey j) = false := fun x hx => by
  obtain ⟨i, h1, h2, _, rfl⟩ := KC_mem hx
  rw [bkey_lt (by omega) (by omega)]
  exact decide_eq_false (by omega)
theorem KP_pos {m j : Nat} {P : Nat → Bool} (hm : m ≤ 10000) (hj : j < m) : pos (bkey j) (KP m P) = (KA j P).length := by
  rw [KP_split P hj]
  refine pos_split (KA_lt hm hj) (fun x hx => ?_)
  rcases List.mem_append.1 hx with h | h
  · split at h
    · rw [List.mem_singleton.1 h]; exact klt_irrefl _
    · simp at h
  · exact KC_ge hm hj x h
theorem KA_upd {m j : Nat} (P : Nat → Bool) (b : Bool) : KA j (upd P j b) = KA j P := by
  unfold KA
  congr 1
  refine List.filter_congr (fun x hx => ?_)
  have := List.mem_range.1 hx
  simp only [upd]; rw [if_neg (by omega)]
theorem KC_upd {m j : Nat} (P : Nat → Bool) (b : Bool) : KC m j (upd P j b) = KC m j P := by
  unfold KC
  congr 1
  refine List.filter_congr (fun x hx => ?_)
  have := List.mem_range'_1.1 hx
  simp only [upd]; rw [if_neg (by omega)]
theorem KP_at {m j : Nat} {P : Nat → Bool} (hm : m ≤ 10000) (hj : j < m) : foundB (bkey j) (KP m P) = P j := by
  unfold foundB
  rw [KP_pos hm hj, KP_split P hj, List.getElem?_append_right (Nat.le_refl _), Nat.sub_self]
  cases hp : P j with
  | true => simp
  | false =>
    simp only [Bool.false_eq_true, ↓reduceIte, List.nil_append]
    cases hc : (KC m j P)[0]? with
    | none => rfl
    | some x =>
      obtain ⟨i, h1, h2, _, rfl⟩ := KC_mem (List.mem_of_getElem? hc)
      have hne : bkey i ≠ bkey j := fun e => by have := bkey_inj (by omega) (by omega) e; omega
      simp [hne]
theorem KP_notin {m j : Nat} {P : Nat → Bool} (hm : m ≤ 10000) (hj : j < m) (hp : P j = false) : bkey j ∉ KP m P := fun h => by
  obtain ⟨i, hi, e⟩ := List.mem_map.1 h
  obtain ⟨hi, hpi⟩ := List.mem_filter.1 hi
  have hi := List.mem_range.1 hi
  have := bkey_inj (by omega) (by omega) e
  rw [this, hp] at hpi
  cases hpi
theorem KP_ins {m j : Nat} {P : Nat → Bool} (hm : m ≤ 10000) (hj : j < m) (hp : P j = false) : insK (bkey j) (KP m P) = KP m (upd P j true) := by
  unfold insK
  rw [KP_pos hm hj, KP_split P hj, KP_split (upd P j true) hj, KA_upd (m := m), KC_upd, hp]
  simp [upd]
theorem KP_del {m j : Nat} {P : Nat → Bool} (hm : m ≤ 10000) (hj : j < m) : (if foundB (bkey j) (KP m P) then delK (bkey j) (KP m P) else KP m P) = KP m (upd P j false) := by
  rw [KP_at hm hj]
  cases hp : P j with
  | true =>
    simp only [↓reduceIte]
    unfold delK
    rw [KP_pos hm hj, KP_split P hj, KP_split (upd P j false) hj, KA_upd (m := m), KC_upd, hp]
    simp [upd, List.drop_append]
  | false =>
    simp only [Bool.false_eq_true, ↓reduceIte]
    rw [KP_split P hj, KP_split (upd P j false) hj, KA_upd (m := m), KC_upd, hp]
    simp [upd]
/-- The next number that is present. -/
theorem KP_next {m j i : Nat} {P : Nat → Bool} (hm : m ≤ 10000) (hj : j < m) (hp : P j = false) (h0 : ∀ t, j < t → t < i → P t = false) (hji : j < i) (him : i < m) (hi : P i = true) : (KP m P)[pos (bkey j) (KP m P)]? = some (bkey i) := by
  rw [KP_pos hm hj, KP_split P hj, List.getElem?_append_right (Nat.le_refl _), Nat.sub_self, hp]
  simp only [Bool.false_eq_true, ↓reduceIte, List.nil_append]
  have e : List.range' (j + 1) (m - j - 1) = List.range' (j + 1) (i - j - 1) ++ (i :: List.range' (i + 1) (m - i - 1)) := by
    rw [← List.range'_succ, show i = (j + 1) + (i - j - 1) by omega, show j + 1 + (i - j - 1) - j - 1 = i - j - 1 by omega, List.range'_append_1]
    congr 1; omega
  have e2 : (List.range' (j + 1) (i - j - 1)).filter P = [] := List.filter_eq_nil_iff.2 (fun x hx => by
    have := List.mem_range'_1.1 hx
    rw [h0 x (by omega) (by omega)]; simp)
  unfold KC
  rw [e, List.filter_append, e2, List.nil_append, List.filter_cons, if_pos hi]
  rfl
theorem KP_last {m j : Nat} {P : Nat → Bool} (hm : m ≤ 10000) (hj : j < m) (hp : P j = false) (h0 : ∀ t, j < t → t < m → P t = false) : pos (bkey j) (KP m P) = (KP m P).length := by
  have e : KC m j P = [] := by
    cases hc : KC m j P with
    | nil => rfl
    | cons x r =>
      obtain ⟨i, h1, h2, h3, _⟩ := KC_mem (m := m) (j := j) (P := P) (x := x) (by rw [hc]; simp)
      rw [h0 i h1 h2] at h3; cases h3
  rw [KP_pos hm hj, KP_split P hj, hp, e]
  simp
theorem KP_len (m : Nat) (P : Nat → Bool) : (KP m P).length ≤ m := by
  unfold KP
  rw [List.length_map]
  have := List.length_filter_le P (List.range m)
  rwa [List.length_range] at this
theorem KP_none (m : Nat) : KP m (fun _ => false) = [] := by simp [KP]
theorem KP_succ {j : Nat} (P : Nat → Bool) : KP (j + 1) P = KP j P ++ (if P j then [bkey j] else []) := by
  unfold KP
  rw [List.range_succ, List.filter_append, List.map_append, List.filter_cons]
  split <;> simp
end Go.Proofs.Ybulkckvy
