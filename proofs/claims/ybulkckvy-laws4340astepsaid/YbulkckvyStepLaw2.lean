import Derived.Test.YbulkckvyStepLaw
import Derived.Deep.RegionLaw
import Derived.Deep.DrawnRows
namespace Go.Proofs.Ybulkckvy
open Go.RowKit
attribute [local go_sem ↓] Go.wp_at_zero Go.wp_at_succ

/-- Behind acceptPunct: the tokens are built once more and compared. -/
theorem again9 {W : World} {g pb : Nat} {K T : Nat → Nat} {n len1 i : Nat} {w : World} (h : PSt W g pb K T n len1 i w) (a0 : Option Addr) (cap0 : Nat) (a1 : Option Addr) (cap1 : Nat) (hl : n ≤ 1024)
    (h0 : BytesAt W W.heap.size a0 n K) (h1 : BytesAt W W.heap.size a1 len1 T) (hm : len1 ≤ 9223372036854775807) :
    Calls Yba.prog 9 #[.slice a0 n cap0, .slice a1 len1 cap1] w fun e w' => ∃ g2, e = .returned (.slice (some ⟨g2, 0, none⟩) n n) ∧ Toks g2 K T n len1 n w' ∧ Toks g K T n len1 n w' ∧ Below W.heap.size W w' ∧ w'.cell? ⟨pb, 0, none⟩ = some (.slice (some ⟨g, 0, none⟩) n n) := by
  have hsz := h.bel.size
  refine (build9 a0 n cap0 a1 len1 cap1 K T w W.heap.size hsz hl (h0.carry h.bel) (h1.carry h.bel) hm).mono ?_
  rintro e w' ⟨rfl, ht, hb, _⟩
  have hg : g < w.heap.size := by obtain ⟨cs, h1, _⟩ := h.toks.row; exact hp_lt h1
  have hp : pb < w.heap.size := hp_lt h.par
  refine ⟨_, rfl, ht, h.toks.carry (hb.block g hg), h.bel.trans (hb.mono hsz), ?_⟩
  rw [hb.cell (p := ⟨pb, 0, none⟩) hp, hp_cell h.par]
  rfl

set_option maxRecDepth 100000 in
set_option maxHeartbeats 1000000 in
theorem step_walk (a0 : Option Addr) (len0 cap0 : Nat) (a1 : Option Addr) (len1 cap1 : Nat) (att csel : Nat) (K T : Nat → Nat) (w : World) (hat : att ≤ 18446744073709551615) (hcs : csel ≤ 255)
    (h0 : BytesAt w w.heap.size a0 len0 K) (h1 : BytesAt w w.heap.size a1 len1 T) (hm : len1 ≤ 9223372036854775807) :
    Calls Yba.prog 3 #[.slice a0 len0 cap0, .slice a1 len1 cap1, .int .u64 (att : Int), .int .u8 (csel : Int)] w fun e w' => e = .returned (.bool true) ∧ Below w.heap.size w w' := by
  by_cases hlen : len0 > 1024
  · have h : (1024 : Int) < (len0 : Int) := by omega
    go_enter Yba.func3, Yba.ntmps3
    go_wp2_with fail
    go_ret
    exact ⟨rfl, Below.refl _ _⟩
  · have h : (len0 : Int) ≤ 1024 := by omega
    have hl : len0 ≤ 1024 := by omega
    clear hlen
    obtain ⟨s, hs⟩ : ∃ s, s = att % (len0 + 1) := ⟨_, rfl⟩
    have hsn : s ≤ len0 := by have := Nat.mod_lt att (show 0 < len0 + 1 by omega); omega
    have HS := Hid.intro hs
    clear hs
    obtain ⟨c, hc⟩ : ∃ c, c = textOf csel := ⟨_, rfl⟩
    have HCC := Hid.intro hc
    clear hc
    go_enter Yba.func3, Yba.ntmps3
    go_upto_region 5 with (go_at_call 9; refine (build9 a0 len0 cap0 a1 len1 cap1 K T _ w.heap.size (Nat.le_refl _) hl h0 h1 hm).mono ?_; rintro e w1 ⟨rfl, ht, hb, hsz⟩)
    go_cut [11] (fun v11 w' => v11 = .int .i64 (s : Int) ∧ w1 = w')
    case first =>
      go_wp2_with fail
      go_meet
      case rel => exact ⟨by rw [at_wrap att len0 s HS.out hl], rfl⟩
    case rest =>
      obtain ⟨rfl, rfl⟩ := hcut
      have hP : PSt w w.heap.size (w.heap.size + 1) K T len0 len1 s (w1.alloc (.cells #[.slice (some ⟨w.heap.size, 0, none⟩) len0 len0, .int .i64 (s : Int)] 29)) :=
        ⟨ht.carry (hp_alloc_lt _ _ _ (by omega)), by rw [← hsz]; exact hp_alloc_new _ _, hb.alloc (by omega) _, Nat.le_refl _, by omega, by omega⟩
      cases hh : hitB K T len0 len1 c s with
      | true =>
        have hsn' := hitB_lt hh
        obtain ⟨hh1, hh2⟩ : kindOf (K s) = 6 ∧ ((textAt len1 T s).toList == c.toList) = true := by simpa [hitB, hsn'] using hh
        go_wp2_with (first | (go_at_call 10; refine (text_any _ hcs _).mono ?_; rintro e w2 ⟨rfl, rfl⟩; rw [← HCC.out]) | (go_at_call 11; refine (accept_hitP c hP hsn hl hh).mono ?_; rintro e w3 ⟨rfl, hP3⟩; obtain ⟨q1, q2, _⟩ := hP3.toks.cells hsn'; rw [hh1] at q1; have hp0 : w3.cell? ⟨w.heap.size + 1, 0, none⟩ = some (.slice (some ⟨w.heap.size, 0, none⟩) len0 len0) := (by rw [hp_cell hP3.par]; rfl); have hp1 : w3.cell? ⟨w.heap.size + 1, 1, none⟩ = some (.int .i64 ((s + 1 : Nat) : Int)) := (by rw [hp_cell hP3.par]; rfl)))
        have hP4 : PSt w w.heap.size (w.heap.size + 1) K T len0 len1 (s + 1) w3.drew := hP3.drewN 1
        go_region_law (first | (go_simp; go_at_call 9; refine (again9 hP4 a0 cap0 a1 cap1 hl h0 h1 hm).mono ?_; rintro e w4 ⟨g2, rfl, ht2, ht4, hb4, hc4⟩) | (go_simp; go_at_call 12; refine (same_any _ _ len0 len1 K T _ ht4 ht2 hl).mono ?_; rintro e w5 ⟨rfl, m5, rfl⟩))
        all_goals
          go_wp2_with fail
          go_ret
          exact ⟨rfl, below_drewN hb4 _⟩
      | false =>
        obtain ⟨hc1, hc2⟩ : (∀ w3, Toks w.heap.size K T len0 len1 len0 w3 → s < len0 → (w3.cell? ⟨w.heap.size, s * 3, none⟩ = some (.int .u8 (kindOf (K s) : Int))) ∧ w3.cell? ⟨w.heap.size, s * 3 + 1, none⟩ = some (.string (textAt len1 T s))) ∧
            (s < len0 → kindOf (K s) = 6 → ((textAt len1 T s).toList == c.toList) = false) := by
          refine ⟨fun w3 h3 h => ⟨(h3.cells h).1, (h3.cells h).2.1⟩, fun h h6 => ?_⟩
          simpa [hitB, h, h6] using hh
        have HC1 := Hid.intro hc1
        have HC2 := Hid.intro hc2
        clear hc1 hc2
        go_upto_region 9 with (first | (go_at_call 10; refine (text_any _ hcs _).mono ?_; rintro e w2 ⟨rfl, rfl⟩; rw [← HCC.out]) | (go_at_call 11; refine (accept_missP c hP hsn hh).mono ?_; rintro e w3 ⟨rfl, hP3⟩))
        have hp0 : w3.cell? ⟨w.heap.size + 1, 0, none⟩ = some (.slice (some ⟨w.heap.size, 0, none⟩) len0 len0) := by rw [hp_cell hP3.par]; rfl
        have hp1 : w3.cell? ⟨w.heap.size + 1, 1, none⟩ = some (.int .i64 (s : Int)) := by rw [hp_cell hP3.par]; rfl
        go_cut [15] (fun v15 w' => v15 = .bool false ∧ w3 = w')
        case first =>
          have hgo : (len0 ≤ s) ∨ (s < len0 ∧ kindOf (K s) ≠ 6) ∨ (s < len0 ∧ kindOf (K s) = 6) := by omega
          rcases hgo with hc | ⟨hc, h6⟩ | ⟨hc, h6⟩
          · have hc' : decide ((s : Int) < (len0 : Int)) = false := decide_eq_false (by omega)
            go_wp2_with fail
            go_meet
            case rel => exact ⟨rfl, rfl⟩
          · obtain ⟨q1, q2⟩ := HC1.out _ hP3.toks hc
            have h6' : (((kindOf (K s) : Nat) : Int) == 6) = false := beq_eq_false_iff_ne.2 (by omega)
            go_wp2_with fail
            go_meet
            case rel => exact ⟨rfl, rfl⟩
          · obtain ⟨q1, q2⟩ := HC1.out _ hP3.toks hc
            have ht6 := HC2.out hc h6
            rw [h6] at q1
            go_wp2_with fail
            go_meet
            case rel => exact ⟨rfl, rfl⟩
        case rest =>
        obtain ⟨rfl, rfl⟩ := hcut
        go_wp2_with fail
        have hP4 : PSt w w.heap.size (w.heap.size + 1) K T len0 len1 s w3.drew := hP3.drewN 1
        go_region_law (first | (go_simp; go_at_call 9; refine (again9 hP4 a0 cap0 a1 cap1 hl h0 h1 hm).mono ?_; rintro e w4 ⟨g2, rfl, ht2, ht4, hb4, hc4⟩) | (go_simp; go_at_call 12; refine (same_any _ _ len0 len1 K T _ ht4 ht2 hl).mono ?_; rintro e w5 ⟨rfl, m5, rfl⟩))
        all_goals
          go_wp2_with fail
          go_ret
          exact ⟨rfl, below_drewN hb4 _⟩
end Go.Proofs.Ybulkckvy
