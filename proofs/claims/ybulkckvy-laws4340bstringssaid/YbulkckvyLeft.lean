import Derived.Test.YbulkckvyProg
import Derived.WalkKit
import Derived.WalkSpells
import Derived.WalkLawsBesides
import Derived.Deep.LoopGhost
import Derived.Outline
namespace Go.Proofs.Ybulkckvy
open Go.RowKit

/-- leaf: no children. -/
theorem leaf_nil (b : Nat) (w : World) (h : w.cell? ⟨b, 3, none⟩ = some (.slice none 0 0)) :
    Calls Yba.prog 26 #[.pointer (some ⟨b, 0, none⟩)] w fun e w' => e = .returned (.bool true) ∧ w' = w := by
  have hs := fun w a n c => Lib.run_eql_slice_nil (P := Yba.prog) w 41 39 a n c 0 0 Yba.underlying41
  go_enter Yba.func26, Yba.ntmps26
  go_wp2
  go_ret
  exact ⟨rfl, rfl⟩
theorem leaf_some (b : Nat) (a : Addr) (n c : Nat) (w : World) (h : w.cell? ⟨b, 3, none⟩ = some (.slice (some a) n c)) :
    Calls Yba.prog 26 #[.pointer (some ⟨b, 0, none⟩)] w fun e w' => e = .returned (.bool false) ∧ w' = w := by
  have hs := fun w a n c => Lib.run_eql_slice_nil (P := Yba.prog) w 41 39 a n c 0 0 Yba.underlying41
  go_enter Yba.func26, Yba.ntmps26
  go_wp2
  go_ret
  exact ⟨rfl, rfl⟩

/-- The chain of first children from the node in block b down to the leaf in block L, all in blocks from B on. -/
def Left (B : Nat) : Nat → World → Nat → Nat → Prop
  | 0, w, b, L => b = L ∧ B ≤ b ∧ w.cell? ⟨b, 3, none⟩ = some (.slice none 0 0)
  | d + 1, w, b, L => ∃ g n cap c, w.cell? ⟨b, 3, none⟩ = some (.slice (some ⟨g, 0, none⟩) n cap) ∧ 0 < n ∧ w.cell? ⟨g, 0, none⟩ = some (.pointer (some ⟨c, 0, none⟩)) ∧ B ≤ b ∧ B ≤ g ∧ Left B d w c L

theorem firstLeaf_any (B d b L : Nat) (w : World) (h : Left B d w b L) :
    Calls Yba.prog 25 #[.pointer (some ⟨b, 0, none⟩)] w fun e w' => e = .returned (.pointer (some ⟨L, 0, none⟩)) ∧ w' = w := by
  go_enter Yba.func25, Yba.ntmps25
  go_wp2
  go_loopg [0] d (fun k p wr => ∃ b, p = .pointer (some ⟨b, 0, none⟩) ∧ wr = w ∧ Left B k w b L)
  case atStart => exact ⟨b, rfl, rfl, h⟩
  case round =>
    obtain ⟨b, rfl, rfl, hl⟩ := hrel
    cases gk with
    | zero =>
      obtain ⟨rfl, _, hc⟩ := hl
      go_wp2_with (go_at_call 26; refine (leaf_nil _ _ hc).mono ?_; rintro e w' ⟨rfl, rfl⟩)
      go_ret
      exact ⟨rfl, rfl⟩
    | succ k =>
      obtain ⟨g, n, cap, c, h3, hn, hg, _, _, hl⟩ := hl
      have HL : Hid (Left B k wr c L) := hl
      clear hl
      have hn' : (0 : Int) < (n : Int) := by omega
      go_wp2_with (go_at_call 26; refine (leaf_some _ _ _ _ _ h3).mono ?_; rintro e w' ⟨rfl, rfl⟩)
      go_roundg k
      case measure => omega
      case rel => exact ⟨c, rfl, rfl, HL.out⟩
end Go.Proofs.Ybulkckvy
