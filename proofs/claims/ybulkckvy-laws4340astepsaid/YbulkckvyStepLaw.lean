import Derived.Test.YbulkckvyRunLaw
namespace Go.Proofs.Ybulkckvy
open Go.RowKit

set_option maxRecDepth 100000 in
theorem same_any (g g2 n len1 : Nat) (K T : Nat → Nat) (w : World) (h1 : Toks g K T n len1 n w) (h2 : Toks g2 K T n len1 n w) (hn : n ≤ 1024) :
    Calls Yba.prog 12 #[.slice (some ⟨g, 0, none⟩) n n, .slice (some ⟨g2, 0, none⟩) n n] w fun e w' => e = .returned (.bool true) ∧ ∃ m, w' = w.drewN m := by
  have HT := Hid.intro (And.intro h1 h2)
  clear h1 h2
  go_enter Yba.func12, Yba.ntmps12
  go_wp2_with fail
  go_loopg [5] n (fun m v5 wr => ∃ j q : Nat, v5 = .int .i64 (j : Int) ∧ j + m = n ∧ wr = w.drewN q)
  case atStart => exact ⟨0, 0, rfl, by omega, rfl⟩
  case round =>
    obtain ⟨j, q, rfl, hj, rfl⟩ := hrel
    have HJ := Hid.intro hj
    clear hj
    by_cases hlt : j < n
    · obtain ⟨q1, q2, q3⟩ := HT.out.1.cells hlt
      obtain ⟨p1, p2, p3⟩ := HT.out.2.cells hlt
      have hi : (j : Int) < (n : Int) := by omega
      have hi0 : (0 : Int) ≤ (j : Int) := by omega
      go_wp2_with fail
      go_quiet (fail)
      go_wp2_with fail
      go_roundg (n - (j + 1))
      case rel => exact ⟨j + 1, _, by go_num, by omega, rfl⟩
      case measure => have := HJ.out; omega
    · go_wp2_with fail
      go_ret
      exact ⟨rfl, _, rfl⟩

theorem accept_missP {W : World} {g pb : Nat} {K T : Nat → Nat} {n len1 i : Nat} {w : World} (c : ByteArray) (h : PSt W g pb K T n len1 i w) (hi : i ≤ n) (hh : hitB K T n len1 c i = false) :
    Calls Yba.prog 11 #[.pointer (some ⟨pb, 0, none⟩), .string c] w fun e w' => e = .returned (.bool false) ∧ PSt W g pb K T n len1 i w' := by
  refine (accept_miss pb g n i len1 K T c w h.toks (by rw [hp_cell h.par]; rfl) (by rw [hp_cell h.par]; rfl) hi hh).mono ?_
  rintro e w' ⟨rfl, m, rfl⟩
  exact ⟨rfl, h.drewN m⟩
theorem accept_hitP {W : World} {g pb : Nat} {K T : Nat → Nat} {n len1 i : Nat} {w : World} (c : ByteArray) (h : PSt W g pb K T n len1 i w) (hi : i ≤ n) (hn : n ≤ 1024) (hh : hitB K T n len1 c i = true) :
    Calls Yba.prog 11 #[.pointer (some ⟨pb, 0, none⟩), .string c] w fun e w' => e = .returned (.bool true) ∧ PSt W g pb K T n len1 (i + 1) w' := by
  refine (accept_hit pb g n i len1 K T c w h.toks (by rw [hp_cell h.par]; rfl) (by rw [hp_cell h.par]; rfl) (hp_frozen h.par _) hi hn hh).mono ?_
  rintro e w' ⟨rfl, m, rfl⟩
  exact ⟨rfl, h.step m⟩
end Go.Proofs.Ybulkckvy
