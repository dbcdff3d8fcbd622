import Derived.Test.YbulkckvyProg
import Derived.Test.YbulkckvyHeap
import Derived.Test.YbulkckvyKeys
import Derived.WalkSpells
import Derived.WalkLawsBesides
import Derived.Lib.Strings
import Derived.Lib.Slices
import Derived.Lib.Walk
import Derived.Lib.Bytealg
import Derived.Deep.LoopGhost
import Derived.Deep.DeepCutAuto
import Derived.Deep.QuietTactic
import Derived.BigQuiet
import Derived.Outline
import Derived.Deep.Light
import Derived.Laws.OwnMore
set_option linter.unusedVariables false
namespace Go.Proofs.Ybulkckvy
open Go.RowKit

set_option maxHeartbeats 1000000 in
set_option maxRecDepth 100000 in
theorem compareString (a b : ByteArray) (w : World) :
    Calls Yba.prog 68 #[.string a, .string b] w fun e w' => e = .returned (.int .i64 (Lib.compareBytes a.data.toList b.data.toList)) ∧ w = w' := by
  go_enter Yba.func68, Yba.ntmps68
  go_wp2
  rw [run_callFunc_extern Yba.func73 (by kernel_rfl) (by kernel_rfl) (by kernel_rfl) (e := Extern.BytealgCompare.compare) (by kernel_rfl), Lib.run_compareString]
  simp only [Result.andThen]
  rw [Oper.upon_value]
  go_wp2
  go_ret
  exact ⟨rfl, rfl⟩
def cmpI (a b : ByteArray) : Int := if klt a b then -1 else if a = b then 0 else 1
theorem stringsCompare (a b : ByteArray) (w : World) :
    Calls Yba.prog 54 #[.string a, .string b] w fun e w' => e = .returned (.int .i64 (cmpI a b)) ∧ w = w' := by
  unfold cmpI
  rw [← compare_keys]
  go_enter Yba.func54, Yba.ntmps54
  go_wp2_with (go_at_call 68; refine (compareString _ _ _).mono ?_; rintro e w' ⟨rfl, rfl⟩)
  go_ret
  exact ⟨rfl, rfl⟩

/-- An entry as a value; its cells. -/
def entV (k : ByteArray) : Value := .agg #[.string k, .slice none 0 0, .bool false]
def entC (k : ByteArray) : List Value := [.string k, .slice none 0 0, .bool false]

theorem compareEntry (k key : ByteArray) (w : World) :
    Calls Yba.prog 39 #[.agg #[.string k, .slice none 0 0, .bool false], .string key] w fun e w' => e = .returned (.int .i64 (cmpI k key)) ∧ w' = w.alloc (.cells #[.string k, .slice none 0 0, .bool false] 81) := by
  go_enter Yba.func39, Yba.ntmps39
  go_wp2_with (go_at_call 54; refine (stringsCompare _ _ _).mono ?_; rintro e w' ⟨rfl, rfl⟩)
  go_ret
  exact ⟨rfl, rfl⟩

/-- The cells of a row of entries. -/
def entsC : List ByteArray → List Value
  | [] => []
  | k :: ks => .string k :: .slice none 0 0 :: .bool false :: entsC ks
theorem entsC_length : ∀ ks : List ByteArray, (entsC ks).length = ks.length * 3
  | [] => rfl
  | k :: ks => by simp [entsC, entsC_length ks]; omega
theorem entsC_get : ∀ (ks : List ByteArray) (j : Nat) (h : j < ks.length), (entsC ks)[j * 3]? = some (.string ks[j]) ∧ (entsC ks)[j * 3 + 1]? = some (.slice none 0 0) ∧ (entsC ks)[j * 3 + 2]? = some (.bool false)
  | k :: ks, 0, _ => by simp [entsC]
  | k :: ks, j + 1, h => by
    have ih := entsC_get ks j (by simpa using h)
    rw [show (j + 1) * 3 = j * 3 + 3 by omega]
    simpa [entsC] using ih
theorem entsC_append : ∀ (a b : List ByteArray), entsC (a ++ b) = entsC a ++ entsC b
  | [], b => rfl
  | k :: a, b => by simp [entsC, entsC_append a b]
theorem entsC_take : ∀ (ks : List ByteArray) (i : Nat), (entsC ks).take (i * 3) = entsC (ks.take i)
  | [], i => by simp [entsC]
  | k :: ks, 0 => by simp [entsC]
  | k :: ks, i + 1 => by
    rw [show (i + 1) * 3 = i * 3 + 3 by omega]
    simp [entsC, entsC_take ks i]
theorem entsC_drop : ∀ (ks : List ByteArray) (i : Nat), (entsC ks).drop (i * 3) = entsC (ks.drop i)
  | [], i => by simp [entsC]
  | k :: ks, 0 => by simp [entsC]
  | k :: ks, i + 1 => by
    rw [show (i + 1) * 3 = i * 3 + 3 by omega]
    simp [entsC, entsC_drop ks i]

/-- The entries ks are what the slice v leads to. -/
def Ents (w : World) (base : Nat) (v : Value) (ks : List ByteArray) : Prop := w.ownsRow base 81 3 v ks.length (entsC ks)

theorem Ents.form {w : World} {base : Nat} {v : Value} {ks : List ByteArray} (h : Ents w base v ks) :
    (v = .slice none 0 0 ∧ ks = []) ∨ ∃ g cap cur, v = .slice (some ⟨g, 0, none⟩) ks.length cap ∧ base ≤ g ∧ w.heap[g]? = some (.cells cur 81 (0, 0)) ∧ ks.length ≤ cap ∧ cap ≤ maxLen ∧ cur.size = cap * 3 ∧ cur.toList.take (ks.length * 3) = entsC ks := by
  obtain ⟨_, h2⟩ := h
  rcases h2 with ⟨h2, h3⟩ | h2
  · exact .inl ⟨h2, List.eq_nil_of_length_eq_zero h3⟩
  · exact .inr h2

theorem take_get {xs : List Value} {cur : Array Value} {n j : Nat} (h : cur.toList.take n = xs) (hj : j < n) : cur[j]? = xs[j]? := by
  rw [← h, List.getElem?_take_of_lt hj, Array.getElem?_toList]
theorem Ents.cells {w : World} {base : Nat} {v : Value} {ks : List ByteArray} (h : Ents w base v ks) {g cap : Nat} (hv : v = .slice (some ⟨g, 0, none⟩) ks.length cap) {j : Nat} (hj : j < ks.length) :
    w.cell? ⟨g, j * 3, none⟩ = some (.string ks[j]) ∧ w.cell? ⟨g, j * 3 + 1, none⟩ = some (.slice none 0 0) ∧ w.cell? ⟨g, j * 3 + 2, none⟩ = some (.bool false) := by
  rcases h.form with ⟨h1, h2⟩ | ⟨g', cap', cur, h1, _, h3, _, _, h6, h7⟩
  · rw [hv] at h1; cases h1
  · rw [hv] at h1
    injection h1 with e1 e2 e3
    injection e1 with e1
    injection e1 with e1
    subst e1; subst e3
    obtain ⟨q1, q2, q3⟩ := entsC_get ks j hj
    rw [hp_cell h3, hp_cell h3, hp_cell h3, take_get h7 (by omega), take_get h7 (by omega), take_get h7 (by omega)]
    exact ⟨q1, q2, q3⟩
end Go.Proofs.Ybulkckvy
