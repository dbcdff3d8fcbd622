import Derived.Test.YbulkckzsProg
import Derived.Test.YbulkckzsHeap
import Derived.WalkKit
import Derived.WalkSpells
import Derived.WalkLawsBesides
import Derived.Deep.LoopGhost
import Derived.Outline
import Derived.BigQuiet
import Derived.Laws.Bits64b
set_option linter.unusedVariables false
set_option linter.unusedSimpArgs false
namespace Go.Proofs.Ybulkckzs
open Go.RowKit

theorem top_nat (n : Nat) (h : n < 1073741824) : n &&& 9223372036854775808 = 0 := by
  have h1 : n < 2 ^ 63 := Nat.lt_trans h (by decide)
  show n &&& 2 ^ 63 = 0
  refine Nat.eq_of_testBit_eq (fun i => ?_)
  rw [Nat.testBit_and, Nat.testBit_two_pow, Nat.zero_testBit]
  by_cases e : 63 = i
  · subst e; rw [Nat.testBit_lt_two_pow h1]; rfl
  · simp [e]
theorem mask_nat (n : Nat) (h : n < 1073741824) : n &&& 1073741823 = n := by
  show n &&& (2 ^ 30 - 1) = n
  exact Nat.and_two_pow_sub_one_of_lt_two_pow h
theorem top_bits (n : Nat) (h : n < 1073741824) : bits .and .u64 (n : Int) 9223372036854775808 = 0 := by
  have := bits_and_u64_nat n 9223372036854775808 (by omega) (by omega)
  rw [top_nat n h] at this
  exact this
theorem mask_bits (n : Nat) (h : n < 1073741824) : bits .and .u64 (n : Int) 1073741823 = (n : Int) := by
  have := bits_and_u64_nat n 1073741823 (by omega) (by omega)
  rw [mask_nat n h] at this
  exact this
theorem or_bits (n : Nat) (h : n < 1073741824) : bits .or .u64 0 (n : Int) = (n : Int) := by
  have := bits_or_u64_nat 0 n (by omega) (by omega)
  simpa using this
theorem andnot_bits : bits .andNot .u64 0 1073741823 = 0 := by decide +kernel
theorem both_bits (n m : Nat) (h : n < 1073741824) (hm : m < 1073741824) : bits .and .u64 (bits .and .u64 (n : Int) (m : Int)) 9223372036854775808 = 0 := by
  rw [bits_and_u64_nat n m (by omega) (by omega)]
  exact top_bits _ (Nat.lt_of_le_of_lt Nat.and_le_left h)

theorem nsec_any (b n : Nat) (hn : n < 1000000000) (w : World) (h : w.cell? ⟨b, 0, none⟩ = some (.int .u64 (n : Int))) :
    Calls Yba.prog 7 #[.pointer (some ⟨b, 0, none⟩)] w fun e w' => e = .returned (.int .i32 (n : Int)) ∧ w' = w := by
  have hb := mask_bits n (by omega)
  go_enter Yba.func7, Yba.ntmps7
  go_wp2_with fail
  go_ret
  exact ⟨rfl, rfl⟩
theorem sec_any (b n : Nat) (x : Int) (hn : n < 1000000000) (w : World) (h : w.cell? ⟨b, 0, none⟩ = some (.int .u64 (n : Int))) (h1 : w.cell? ⟨b, 1, none⟩ = some (.int .i64 x)) :
    Calls Yba.prog 11 #[.pointer (some ⟨b, 0, none⟩)] w fun e w' => e = .returned (.int .i64 x) ∧ w' = w := by
  have hb := top_bits n (by omega)
  go_enter Yba.func11, Yba.ntmps11
  go_wp2_with fail
  go_ret
  exact ⟨rfl, rfl⟩
theorem strip_any (b n : Nat) (hn : n < 1000000000) (w : World) (h : w.cell? ⟨b, 0, none⟩ = some (.int .u64 (n : Int))) :
    Calls Yba.prog 9 #[.pointer (some ⟨b, 0, none⟩)] w fun e w' => e = .returned (.tuple #[]) ∧ w' = w := by
  have hb := top_bits n (by omega)
  go_enter Yba.func9, Yba.ntmps9
  go_wp2_with fail
  first | go_end0 | (simp only [Exit.inBlock, Exit.then]; refine bodyPost_ret (results_none rfl _ _ _) rfl ?_)
  exact ⟨rfl, rfl⟩
/-- addSec on a time of zero seconds. -/
theorem addSec_any (b n : Nat) (d : Int) (hn : n < 1000000000) (hd : -10000000000 ≤ d ∧ d ≤ 10000000000) (w : World) (h : w.cell? ⟨b, 0, none⟩ = some (.int .u64 (n : Int))) (h1 : w.cell? ⟨b, 1, none⟩ = some (.int .i64 0)) (hf : w.frozen? ⟨b, 1, none⟩ = false) :
    Calls Yba.prog 8 #[.pointer (some ⟨b, 0, none⟩), .int .i64 d] w fun e w' => e = .returned (.tuple #[]) ∧ w' = w.setCell ⟨b, 1, none⟩ (.int .i64 d) := by
  have hb := top_bits n (by omega)
  have hd1 := hd.1
  have hd2 := hd.2
  go_enter Yba.func8, Yba.ntmps8
  go_wp2_with fail
  first | go_end0 | (simp only [Exit.inBlock, Exit.then]; refine bodyPost_ret (results_none rfl _ _ _) rfl ?_)
  exact ⟨rfl, rfl⟩
/-- A time without a monotonic reading. -/
def tv (n : Nat) (x : Int) : Value := .agg #[.int .u64 (n : Int), .int .i64 x, .pointer none]
def afterB (n1 : Nat) (x1 : Int) (n2 : Nat) (x2 : Int) : Bool := decide (x2 < x1) || (decide (x1 = x2) && decide (n2 < n1))
theorem after_any (n1 n2 : Nat) (x1 x2 : Int) (h1 : n1 < 1000000000) (h2 : n2 < 1000000000) (w : World) :
    Calls Yba.prog 10 #[tv n1 x1, tv n2 x2] w fun e w' => e = .returned (.bool (afterB n1 x1 n2 x2)) ∧ ∃ o1 o2, w' = (w.alloc o1).alloc o2 := by
  have hb := both_bits n1 n2 (by omega) (by omega)
  have e2 := hp_alloc_new (w.alloc (.cells #[.int .u64 (n1 : Int), .int .i64 x1, .pointer none] 46)) (.cells #[.int .u64 (n2 : Int), .int .i64 x2, .pointer none] 46)
  have e1 := ((Ext.refl _).alloc (.cells #[.int .u64 (n2 : Int), .int .i64 x2, .pointer none] 46)).some (hp_alloc_new w (.cells #[.int .u64 (n1 : Int), .int .i64 x1, .pointer none] 46))
  rw [hp_alloc_size] at e2
  have S1 := Hid.intro (sec_any w.heap.size n1 x1 h1 _ (by rw [hp_cell e1]; rfl) (by rw [hp_cell e1]; rfl))
  have S2 := Hid.intro (sec_any (w.heap.size + 1) n2 x2 h2 _ (by rw [hp_cell e2]; rfl) (by rw [hp_cell e2]; rfl))
  have N1 := Hid.intro (nsec_any w.heap.size n1 h1 _ (by rw [hp_cell e1]; rfl))
  have N2 := Hid.intro (nsec_any (w.heap.size + 1) n2 h2 _ (by rw [hp_cell e2]; rfl))
  clear e1 e2
  unfold tv
  rcases Int.lt_trichotomy x2 x1 with hx | hx | hx
  · have hA : afterB n1 x1 n2 x2 = true := by simp [afterB, hx]
    rw [hA]
    clear hA
    go_enter Yba.func10, Yba.ntmps10
    go_wp2_with (first | (go_at_call 11; refine S1.out.mono ?_; rintro e w' ⟨rfl, rfl⟩; clear S1) | (go_at_call 11; refine S2.out.mono ?_; rintro e w' ⟨rfl, rfl⟩; clear S2) | (go_at_call 7; refine N1.out.mono ?_; rintro e w' ⟨rfl, rfl⟩; clear N1) | (go_at_call 7; refine N2.out.mono ?_; rintro e w' ⟨rfl, rfl⟩; clear N2))
    go_ret
    exact ⟨rfl, _, _, rfl⟩
  · have hA : afterB n1 x1 n2 x2 = decide (n2 < n1) := by simp [afterB, hx]
    rw [hA]
    clear hA
    subst hx
    go_enter Yba.func10, Yba.ntmps10
    go_wp2_with (first | (go_at_call 11; refine S1.out.mono ?_; rintro e w' ⟨rfl, rfl⟩; clear S1) | (go_at_call 11; refine S2.out.mono ?_; rintro e w' ⟨rfl, rfl⟩; clear S2) | (go_at_call 7; refine N1.out.mono ?_; rintro e w' ⟨rfl, rfl⟩; clear N1) | (go_at_call 7; refine N2.out.mono ?_; rintro e w' ⟨rfl, rfl⟩; clear N2))
    go_ret
    refine ⟨?_, _, _, rfl⟩
    simp
  · have hA : afterB n1 x1 n2 x2 = false := by simp [afterB]; omega
    have hx' : ¬ x1 = x2 := by omega
    have hx2 : ¬ x2 < x1 := by omega
    rw [hA]
    clear hA
    go_enter Yba.func10, Yba.ntmps10
    go_wp2_with (first | (go_at_call 11; refine S1.out.mono ?_; rintro e w' ⟨rfl, rfl⟩; clear S1) | (go_at_call 11; refine S2.out.mono ?_; rintro e w' ⟨rfl, rfl⟩; clear S2) | (go_at_call 7; refine N1.out.mono ?_; rintro e w' ⟨rfl, rfl⟩; clear N1) | (go_at_call 7; refine N2.out.mono ?_; rintro e w' ⟨rfl, rfl⟩; clear N2))
    go_ret
    refine ⟨?_, _, _, rfl⟩
    simp; omega

/-- What Time{}.Add(d) is. -/
def addN (d : Int) : Nat := (d % 1000000000).toNat
def addX (d : Int) : Int := d / 1000000000
end Go.Proofs.Ybulkckzs
