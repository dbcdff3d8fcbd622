import Derived.Test.YbulkckvyTok
namespace Go.Proofs.Ybulkckvy
open Go.RowKit

theorem done_yes (pb g n : Nat) (w : World) (h0 : w.cell? ⟨pb, 0, none⟩ = some (.slice (some ⟨g, 0, none⟩) n n)) (h1 : w.cell? ⟨pb, 1, none⟩ = some (.int .i64 (n : Int))) :
    Calls Yba.prog 47 #[.pointer (some ⟨pb, 0, none⟩)] w fun e w' => e = .returned (.bool true) ∧ ∃ m, w' = w.drewN m := by
  go_enter Yba.func47, Yba.ntmps47
  go_wp2_with fail
  go_quiet (fail)
  go_wp2_with fail
  go_ret
  exact ⟨by simp, _, rfl⟩
theorem done_no (pb g n i : Nat) (w : World) (h0 : w.cell? ⟨pb, 0, none⟩ = some (.slice (some ⟨g, 0, none⟩) n n)) (h1 : w.cell? ⟨pb, 1, none⟩ = some (.int .i64 (i : Int))) (hi : i < n) :
    Calls Yba.prog 47 #[.pointer (some ⟨pb, 0, none⟩)] w fun e w' => e = .returned (.bool false) ∧ ∃ m, w' = w.drewN m := by
  have hne : ((i : Int) == (n : Int)) = false := beq_eq_false_iff_ne.2 (by omega)
  go_enter Yba.func47, Yba.ntmps47
  go_wp2_with fail
  go_quiet (fail)
  go_wp2_with fail
  go_ret
  exact ⟨rfl, _, rfl⟩

/-- At the end of the tokens. -/
theorem isPunct_end (pb g n : Nat) (c : ByteArray) (w : World) (h0 : w.cell? ⟨pb, 0, none⟩ = some (.slice (some ⟨g, 0, none⟩) n n)) (h1 : w.cell? ⟨pb, 1, none⟩ = some (.int .i64 (n : Int))) :
    Calls Yba.prog 30 #[.pointer (some ⟨pb, 0, none⟩), .string c] w fun e w' => e = .returned (.bool false) ∧ ∃ m, w' = w.drewN m := by
  go_enter Yba.func30, Yba.ntmps30
  go_wp2_with fail
  go_quiet ((go_at_call 47; exact Calls.quiet_of (done_yes pb g n _ (by simpa using h0) (by simpa using h1))))
  go_wp2_with fail
  go_ret
  exact ⟨rfl, _, rfl⟩
/-- A token that is no punctuation. -/
theorem isPunct_kind (pb g n i : Nat) (kd : Nat) (c : ByteArray) (w : World) (h0 : w.cell? ⟨pb, 0, none⟩ = some (.slice (some ⟨g, 0, none⟩) n n)) (h1 : w.cell? ⟨pb, 1, none⟩ = some (.int .i64 (i : Int))) (hi : i < n)
    (hk : w.cell? ⟨g, i * 3, none⟩ = some (.int .u8 (kd : Int))) (hk6 : kd ≠ 6) :
    Calls Yba.prog 30 #[.pointer (some ⟨pb, 0, none⟩), .string c] w fun e w' => e = .returned (.bool false) ∧ ∃ m, w' = w.drewN m := by
  have hne : ((kd : Int) == 6) = false := beq_eq_false_iff_ne.2 (by omega)
  have hi' : (i : Int) < (n : Int) := by omega
  have hi0 : (0 : Int) ≤ (i : Int) := by omega
  go_enter Yba.func30, Yba.ntmps30
  go_wp2_with fail
  go_quiet ((go_at_call 47; exact Calls.quiet_of (done_no pb g n i _ (by simpa using h0) (by simpa using h1) hi)))
  go_wp2_with fail
  go_ret
  exact ⟨rfl, _, rfl⟩
/-- Punctuation: the text decides. -/
theorem isPunct_text (pb g n i : Nat) (t c : ByteArray) (w : World) (h0 : w.cell? ⟨pb, 0, none⟩ = some (.slice (some ⟨g, 0, none⟩) n n)) (h1 : w.cell? ⟨pb, 1, none⟩ = some (.int .i64 (i : Int))) (hi : i < n)
    (hk : w.cell? ⟨g, i * 3, none⟩ = some (.int .u8 6)) (ht : w.cell? ⟨g, i * 3 + 1, none⟩ = some (.string t)) :
    Calls Yba.prog 30 #[.pointer (some ⟨pb, 0, none⟩), .string c] w fun e w' => e = .returned (.bool (t.toList == c.toList)) ∧ ∃ m, w' = w.drewN m := by
  have hi' : (i : Int) < (n : Int) := by omega
  have hi0 : (0 : Int) ≤ (i : Int) := by omega
  go_enter Yba.func30, Yba.ntmps30
  go_wp2_with fail
  go_quiet ((go_at_call 47; exact Calls.quiet_of (done_no pb g n i _ (by simpa using h0) (by simpa using h1) hi)))
  go_wp2_with fail
  go_ret
  exact ⟨rfl, _, rfl⟩
/-- Token i is punctuation of the text c. -/
def hitB (K T : Nat → Nat) (n len1 : Nat) (c : ByteArray) (i : Nat) : Bool := decide (i < n) && (kindOf (K i) == 6) && ((textAt len1 T i).toList == c.toList)

theorem Toks.cells {g : Nat} {K T : Nat → Nat} {n len1 : Nat} {w : World} (h : Toks g K T n len1 n w) {i : Nat} (hi : i < n) :
    w.cell? ⟨g, i * 3, none⟩ = some (.int .u8 (kindOf (K i) : Int)) ∧ w.cell? ⟨g, i * 3 + 1, none⟩ = some (.string (textAt len1 T i)) ∧ w.cell? ⟨g, i * 3 + 2, none⟩ = some (.int .i64 (i : Int)) := by
  obtain ⟨cs, h1, h2, h3⟩ := h
  obtain ⟨q1, q2, q3⟩ := h3 i hi
  rw [hp_cell h1, hp_cell h1, hp_cell h1, Nat.mul_comm i 3]
  exact ⟨q1, q2, q3⟩

theorem isPunct_any (pb g n i len1 : Nat) (K T : Nat → Nat) (c : ByteArray) (w : World) (ht : Toks g K T n len1 n w) (h0 : w.cell? ⟨pb, 0, none⟩ = some (.slice (some ⟨g, 0, none⟩) n n)) (h1 : w.cell? ⟨pb, 1, none⟩ = some (.int .i64 (i : Int))) (hi : i ≤ n) :
    Calls Yba.prog 30 #[.pointer (some ⟨pb, 0, none⟩), .string c] w fun e w' => e = .returned (.bool (hitB K T n len1 c i)) ∧ ∃ m, w' = w.drewN m := by
  by_cases h2 : i < n
  · obtain ⟨q1, q2, q3⟩ := ht.cells h2
    by_cases h6 : kindOf (K i) = 6
    · rw [h6] at q1
      refine (isPunct_text pb g n i _ c w h0 h1 h2 q1 q2).mono ?_
      rintro e w' ⟨rfl, hm⟩
      exact ⟨by simp [hitB, h2, h6], hm⟩
    · refine (isPunct_kind pb g n i _ c w h0 h1 h2 q1 h6).mono ?_
      rintro e w' ⟨rfl, hm⟩
      exact ⟨by simp [hitB, h6], hm⟩
  · have : i = n := by omega
    subst this
    refine (isPunct_end pb g i c w h0 h1).mono ?_
    rintro e w' ⟨rfl, hm⟩
    exact ⟨by simp [hitB], hm⟩

theorem accept_miss (pb g n i len1 : Nat) (K T : Nat → Nat) (c : ByteArray) (w : World) (ht : Toks g K T n len1 n w) (h0 : w.cell? ⟨pb, 0, none⟩ = some (.slice (some ⟨g, 0, none⟩) n n)) (h1 : w.cell? ⟨pb, 1, none⟩ = some (.int .i64 (i : Int))) (hi : i ≤ n)
    (hh : hitB K T n len1 c i = false) :
    Calls Yba.prog 11 #[.pointer (some ⟨pb, 0, none⟩), .string c] w fun e w' => e = .returned (.bool false) ∧ ∃ m, w' = w.drewN m := by
  go_enter Yba.func11, Yba.ntmps11
  go_wp2_with (go_at_call 30; refine (isPunct_any pb g n i len1 K T c _ ht h0 h1 hi).mono ?_; rintro e w' ⟨rfl, m, rfl⟩)
  go_ret
  exact ⟨rfl, _, rfl⟩
theorem accept_hit (pb g n i len1 : Nat) (K T : Nat → Nat) (c : ByteArray) (w : World) (ht : Toks g K T n len1 n w) (h0 : w.cell? ⟨pb, 0, none⟩ = some (.slice (some ⟨g, 0, none⟩) n n)) (h1 : w.cell? ⟨pb, 1, none⟩ = some (.int .i64 (i : Int))) (hf : w.frozen? ⟨pb, 1, none⟩ = false) (hi : i ≤ n) (hn : n ≤ 1024)
    (hh : hitB K T n len1 c i = true) :
    Calls Yba.prog 11 #[.pointer (some ⟨pb, 0, none⟩), .string c] w fun e w' => e = .returned (.bool true) ∧ ∃ m, w' = (w.setCell ⟨pb, 1, none⟩ (.int .i64 ((i : Int) + 1))).drewN m := by
  go_enter Yba.func11, Yba.ntmps11
  go_wp2_with (go_at_call 30; refine (isPunct_any pb g n i len1 K T c _ ht h0 h1 hi).mono ?_; rintro e w' ⟨rfl, m, rfl⟩)
  go_ret
  exact ⟨rfl, m, rfl⟩
end Go.Proofs.Ybulkckvy
