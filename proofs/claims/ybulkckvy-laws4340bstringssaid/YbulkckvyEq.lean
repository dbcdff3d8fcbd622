import Derived.Test.YbulkckvyBsf
import Derived.BigQuiet
import Derived.Test.YbulkckvyLeft
set_option linter.unusedVariables false
set_option linter.unusedSimpArgs false
namespace Go.Proofs.Ybulkckvy
open Go.RowKit

/-- A slice of strings that starts at a block's head. -/
def StrAt (w : World) (p : Option Addr) (xs : List ByteArray) : Prop := ∀ j (h : j < xs.length), ∃ g, p = some ⟨g, 0, none⟩ ∧ w.cell? ⟨g, j, none⟩ = some (.string xs[j])

set_option maxRecDepth 100000 in
theorem equal_same (p1 p2 : Option Addr) (c1 c2 : Nat) (xs : List ByteArray) (w : World) (h1 : StrAt w p1 xs) (h2 : StrAt w p2 xs) (hn : xs.length ≤ 1000000) :
    Calls Yba.prog 19 #[.slice p1 xs.length c1, .slice p2 xs.length c2] w fun e w' => e = .returned (.bool true) ∧ ∃ m, w' = w.drewN m := by
  have HT := Hid.intro (And.intro h1 h2)
  clear h1 h2
  go_enter Yba.func19, Yba.ntmps19
  go_wp2_with fail
  go_loopg [13] xs.length (fun m v5 wr => ∃ j q : Nat, v5 = .int .i64 (j : Int) ∧ j + m = xs.length ∧ wr = w.drewN q)
  case atStart => exact ⟨0, 0, rfl, by omega, rfl⟩
  case round =>
    obtain ⟨j, q, rfl, hj, rfl⟩ := hrel
    have HJ := Hid.intro hj
    clear hj
    by_cases hlt : j < xs.length
    · obtain ⟨g1, rfl, q1⟩ := HT.out.1 j hlt
      obtain ⟨g2, rfl, q2⟩ := HT.out.2 j hlt
      obtain ⟨s, hs⟩ : ∃ s, xs[j] = s := ⟨_, rfl⟩
      rw [hs] at q1 q2
      have hi : (j : Int) < (xs.length : Int) := by omega
      have hi0 : (0 : Int) ≤ (j : Int) := by omega
      go_wp2_with fail
      go_quiet (fail)
      go_wp2_with fail
      go_roundg (xs.length - (j + 1))
      case rel => exact ⟨j + 1, _, by go_num, by omega, rfl⟩
      case measure => have := HJ.out; omega
    · go_wp2_with fail
      go_ret
      exact ⟨rfl, _, rfl⟩
/-- 'zzs4340bokroot'. -/
theorem bokroot_any (xb root : Nat) (w : World) (h6 : w.cell? ⟨xb, 6, none⟩ = some (.pointer (some ⟨root, 0, none⟩))) (h3 : w.cell? ⟨root, 3, none⟩ = some (.slice none 0 0) ∨ ∃ g n c, w.cell? ⟨root, 3, none⟩ = some (.slice (some ⟨g, 0, none⟩) n c) ∧ 2 ≤ n) :
    Calls Yba.prog 16 #[.pointer (some ⟨xb, 0, none⟩)] w fun e w' => e = .returned (.bool true) ∧ w' = w := by
  rcases h3 with h3 | ⟨g, n, c, h3, hn⟩
  · have HL := Hid.intro (leaf_nil root w h3)
    clear h3
    go_enter Yba.func16, Yba.ntmps16
    go_wp2_with (go_at_call 26; refine HL.out.mono ?_; rintro e w' ⟨rfl, rfl⟩)
    go_ret
    exact ⟨rfl, rfl⟩
  · have HL := Hid.intro (leaf_some root ⟨g, 0, none⟩ n c w h3)
    have hn' : (2 : Int) ≤ (n : Int) := by omega
    have hd : decide ((2 : Int) ≤ (n : Int)) = true := decide_eq_true hn'
    go_enter Yba.func16, Yba.ntmps16
    go_wp2_with (go_at_call 26; refine HL.out.mono ?_; rintro e w' ⟨rfl, rfl⟩)
    go_ret
    exact ⟨rfl, rfl⟩
end Go.Proofs.Ybulkckvy
