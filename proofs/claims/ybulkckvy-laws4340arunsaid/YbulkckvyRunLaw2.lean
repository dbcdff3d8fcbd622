import Derived.Test.YbulkckvyRunLaw
namespace Go.Proofs.Ybulkckvy
open Go.RowKit

set_option maxRecDepth 100000 in
set_option maxHeartbeats 1000000 in
theorem run_walk (a0 : Option Addr) (len0 cap0 : Nat) (a1 : Option Addr) (len1 cap1 : Nat) (att csel : Nat) (K T : Nat → Nat) (w : World) (hat : att ≤ 18446744073709551615) (hcs : csel ≤ 255)
    (h0 : BytesAt w w.heap.size a0 len0 K) (h1 : BytesAt w w.heap.size a1 len1 T) (hm : len1 ≤ 9223372036854775807) :
    Calls Yba.prog 4 #[.slice a0 len0 cap0, .slice a1 len1 cap1, .int .u64 (att : Int), .int .u8 (csel : Int)] w fun e w' => e = .returned (.bool true) ∧ Below w.heap.size w w' := by
  by_cases hlen : len0 > 1024
  · have h : (1024 : Int) < (len0 : Int) := by omega
    go_enter Yba.func4, Yba.ntmps4
    go_wp2_with fail
    go_ret
    exact ⟨rfl, Below.refl _ _⟩
  · have h : (len0 : Int) ≤ 1024 := by omega
    have hl : len0 ≤ 1024 := by omega
    clear hlen
    obtain ⟨s, hs⟩ : ∃ s, s = att % (len0 + 1) := ⟨_, rfl⟩
    have hsn : s ≤ len0 := by have := Nat.mod_lt att (show 0 < len0 + 1 by omega); omega
    have HS := Hid.intro hs
    clear hs
    obtain ⟨c, hc⟩ : ∃ c, c = textOf csel := ⟨_, rfl⟩
    have HCC := Hid.intro hc
    clear hc
    obtain ⟨k, hk1, hk2, hk3⟩ := run_exists (hitB K T len0 len1 c) len0 (fun i => hitB_lt) (len0 - s) s (by omega)
    have HK2 := Hid.intro hk2
    have HK3 := Hid.intro hk3
    clear hk2 hk3
    go_enter Yba.func4, Yba.ntmps4
    go_upto_region 5 with (go_at_call 9; refine (build9 a0 len0 cap0 a1 len1 cap1 K T _ w.heap.size (Nat.le_refl _) hl h0 h1 hm).mono ?_; rintro e w1 ⟨rfl, ht, hb, hsz⟩)
    go_cut [11] (fun v11 w' => v11 = .int .i64 (s : Int) ∧ w1 = w')
    case first =>
      go_wp2_with fail
      go_meet
      case rel => exact ⟨by rw [at_wrap att len0 s HS.out hl], rfl⟩
    case rest =>
      obtain ⟨rfl, rfl⟩ := hcut
      have hT := fun j (hj : j < len0) => ht.cells hj
      have HT := Hid.intro hT
      clear hT
      go_wp2_with (go_at_call 10; refine (text_any _ hcs _).mono ?_; rintro e w2 ⟨rfl, rfl⟩; rw [← HCC.out])
      go_loopg [13, 14] k (fun m v13 v14 wr => ∃ j : Nat, v14 = .int .i64 (j : Int) ∧ v13 = .int .i64 ((j : Int) - (s : Int)) ∧ s ≤ j ∧ j + m = s + k ∧ w1 = wr)
      case atStart => exact ⟨s, rfl, by go_num, by omega, by omega, rfl⟩
      case round =>
        obtain ⟨j, rfl, rfl, hj1, hj2, rfl⟩ := hrel
        have HJ := Hid.intro hj2
        have hj3 : j ≤ s + k := by omega
        clear hj2
        by_cases hlt : j < s + k
        · obtain ⟨q1, q2, q3⟩ := HT.out j (by omega)
          have hh := HK2.out j hj1 hlt
          obtain ⟨hh1, hh2⟩ : kindOf (K j) = 6 ∧ ((textAt len1 T j).toList == c.toList) = true := by simpa [hitB, show j < len0 by omega] using hh
          rw [hh1] at q1
          clear hh hh1
          go_wp2_with fail
          go_roundg (s + k - (j + 1))
          case rel => exact ⟨j + 1, by go_num, by go_num, by omega, by omega, rfl⟩
          case measure => have := HJ.out; omega
        · have hjk : j = s + k := by omega
          have HJK := Hid.intro hjk
          have hP : PSt w w.heap.size (w.heap.size + 1) K T len0 len1 (s + 0) (w1.alloc (.cells #[.slice (some ⟨w.heap.size, 0, none⟩) len0 len0, .int .i64 (s : Int)] 29)) :=
            ⟨ht.carry (hp_alloc_lt _ _ _ (by omega)), by rw [← hsz]; exact hp_alloc_new _ _, hb.alloc (by omega) _, Nat.le_refl _, by omega, by omega⟩
          have HP := Hid.intro hP
          clear hP
          have hmiss : hitB K T len0 len1 c j = false := by rw [hjk]; exact HK3.out
          obtain ⟨hc1, hc2⟩ : (j < len0 → (w1.cell? ⟨w.heap.size, j * 3, none⟩ = some (.int .u8 (kindOf (K j) : Int))) ∧ w1.cell? ⟨w.heap.size, j * 3 + 1, none⟩ = some (.string (textAt len1 T j))) ∧
              (j < len0 → kindOf (K j) = 6 → ((textAt len1 T j).toList == c.toList) = false) := by
            refine ⟨fun h => ⟨(HT.out _ h).1, (HT.out _ h).2.1⟩, fun h h6 => ?_⟩
            simpa [hitB, h, h6] using hmiss
          have hgo : (len0 ≤ j) ∨ (j < len0 ∧ kindOf (K j) ≠ 6) ∨ (j < len0 ∧ kindOf (K j) = 6) := by omega
          have HM := Hid.intro hmiss
          clear hjk hmiss
          rcases hgo with hc | ⟨hc, h6⟩ | ⟨hc, h6⟩
          · clear hc1 hc2
            have hc' : decide ((j : Int) < (len0 : Int)) = false := decide_eq_false (by omega)
            have hc'' : decide (j < len0) = false := decide_eq_false (by omega)
            go_wp2_with fail
            go_loopg [16] k (fun m v16 wr => ∃ t : Nat, v16 = .int .i64 (t : Int) ∧ t + m = k ∧ PSt w w.heap.size (w.heap.size + 1) K T len0 len1 (s + t) wr)
            case atStart => exact ⟨0, rfl, by omega, HP.out⟩
            case round =>
              obtain ⟨t, rfl, ht1, hp⟩ := hrel
              have HJ2 := Hid.intro ht1
              obtain ⟨i, hi⟩ : ∃ i, i = s + t := ⟨_, rfl⟩
              rw [← hi] at hp
              have hp0 : wr.cell? ⟨w.heap.size + 1, 0, none⟩ = some (.slice (some ⟨w.heap.size, 0, none⟩) len0 len0) := by rw [hp_cell hp.par]; rfl
              have hp1 : wr.cell? ⟨w.heap.size + 1, 1, none⟩ = some (.int .i64 (i : Int)) := by rw [hp_cell hp.par]; rfl
              have hpf : wr.frozen? ⟨w.heap.size + 1, 1, none⟩ = false := hp_frozen hp.par _
              have htk : t ≤ k := by omega
              have hpt := hp.toks
              have HPP := Hid.intro hp
              have HI := Hid.intro hi
              have hin : i ≤ len0 := by omega
              by_cases hlt2 : t < k
              · have hh := HK2.out i (by omega) (by omega)
                clear ht1 hp hi
                go_wp2_with (go_at_call 11; refine (accept_hit (w.heap.size + 1) w.heap.size len0 i len1 K T c _ hpt hp0 hp1 hpf hin hl hh).mono ?_; rintro e w3 ⟨rfl, m3, rfl⟩)
                go_roundg (k - (t + 1))
                case rel => exact ⟨t + 1, by go_num, by omega, by have := HPP.out.step m3; rw [HI.out] at this; rw [HI.out]; exact this⟩
                case measure => have := HJ2.out; omega
              · have hij : i = j := by have := HJK.out; omega
                have hh : hitB K T len0 len1 c i = false := by rw [hij]; exact HM.out
                have hb1 : ((t : Int) == (j : Int) - (s : Int)) = true := beq_iff_eq.2 (by omega)
                have hb2 : ((i : Int) == (s : Int) + ((j : Int) - (s : Int))) = true := beq_iff_eq.2 (by omega)
                clear ht1 hp hi hij
                go_wp2_with (go_at_call 11; refine (accept_miss (w.heap.size + 1) w.heap.size len0 i len1 K T c _ hpt hp0 hp1 hin hh).mono ?_; rintro e w3 ⟨rfl, m3, rfl⟩)
                go_ret
                exact ⟨rfl, below_drewN HPP.out.bel _⟩
          · obtain ⟨q1, q2⟩ := hc1 hc
            have hc' : decide ((j : Int) < (len0 : Int)) = true := decide_eq_true (by omega)
            have h6' : (((kindOf (K j) : Nat) : Int) != 6) = true := by rw [bne_iff_ne]; omega
            clear hc1 hc2 q2
            go_wp2_with fail
            go_loopg [16] k (fun m v16 wr => ∃ t : Nat, v16 = .int .i64 (t : Int) ∧ t + m = k ∧ PSt w w.heap.size (w.heap.size + 1) K T len0 len1 (s + t) wr)
            case atStart => exact ⟨0, rfl, by omega, HP.out⟩
            case round =>
              obtain ⟨t, rfl, ht1, hp⟩ := hrel
              have HJ2 := Hid.intro ht1
              obtain ⟨i, hi⟩ : ∃ i, i = s + t := ⟨_, rfl⟩
              rw [← hi] at hp
              have hp0 : wr.cell? ⟨w.heap.size + 1, 0, none⟩ = some (.slice (some ⟨w.heap.size, 0, none⟩) len0 len0) := by rw [hp_cell hp.par]; rfl
              have hp1 : wr.cell? ⟨w.heap.size + 1, 1, none⟩ = some (.int .i64 (i : Int)) := by rw [hp_cell hp.par]; rfl
              have hpf : wr.frozen? ⟨w.heap.size + 1, 1, none⟩ = false := hp_frozen hp.par _
              have htk : t ≤ k := by omega
              have hpt := hp.toks
              have HPP := Hid.intro hp
              have HI := Hid.intro hi
              have hin : i ≤ len0 := by omega
              by_cases hlt2 : t < k
              · have hh := HK2.out i (by omega) (by omega)
                clear ht1 hp hi
                go_wp2_with (go_at_call 11; refine (accept_hit (w.heap.size + 1) w.heap.size len0 i len1 K T c _ hpt hp0 hp1 hpf hin hl hh).mono ?_; rintro e w3 ⟨rfl, m3, rfl⟩)
                go_roundg (k - (t + 1))
                case rel => exact ⟨t + 1, by go_num, by omega, by have := HPP.out.step m3; rw [HI.out] at this; rw [HI.out]; exact this⟩
                case measure => have := HJ2.out; omega
              · have hij : i = j := by have := HJK.out; omega
                have hh : hitB K T len0 len1 c i = false := by rw [hij]; exact HM.out
                have hb1 : ((t : Int) == (j : Int) - (s : Int)) = true := beq_iff_eq.2 (by omega)
                have hb2 : ((i : Int) == (s : Int) + ((j : Int) - (s : Int))) = true := beq_iff_eq.2 (by omega)
                clear ht1 hp hi hij
                go_wp2_with (go_at_call 11; refine (accept_miss (w.heap.size + 1) w.heap.size len0 i len1 K T c _ hpt hp0 hp1 hin hh).mono ?_; rintro e w3 ⟨rfl, m3, rfl⟩)
                go_ret
                exact ⟨rfl, below_drewN HPP.out.bel _⟩
          · obtain ⟨q1, q2⟩ := hc1 hc
            have hc' : decide ((j : Int) < (len0 : Int)) = true := decide_eq_true (by omega)
            have ht6 := hc2 hc h6
            rw [h6] at q1
            clear hc1 hc2 h6
            go_wp2_with fail
            go_loopg [16] k (fun m v16 wr => ∃ t : Nat, v16 = .int .i64 (t : Int) ∧ t + m = k ∧ PSt w w.heap.size (w.heap.size + 1) K T len0 len1 (s + t) wr)
            case atStart => exact ⟨0, rfl, by omega, HP.out⟩
            case round =>
              obtain ⟨t, rfl, ht1, hp⟩ := hrel
              have HJ2 := Hid.intro ht1
              obtain ⟨i, hi⟩ : ∃ i, i = s + t := ⟨_, rfl⟩
              rw [← hi] at hp
              have hp0 : wr.cell? ⟨w.heap.size + 1, 0, none⟩ = some (.slice (some ⟨w.heap.size, 0, none⟩) len0 len0) := by rw [hp_cell hp.par]; rfl
              have hp1 : wr.cell? ⟨w.heap.size + 1, 1, none⟩ = some (.int .i64 (i : Int)) := by rw [hp_cell hp.par]; rfl
              have hpf : wr.frozen? ⟨w.heap.size + 1, 1, none⟩ = false := hp_frozen hp.par _
              have htk : t ≤ k := by omega
              have hpt := hp.toks
              have HPP := Hid.intro hp
              have HI := Hid.intro hi
              have hin : i ≤ len0 := by omega
              by_cases hlt2 : t < k
              · have hh := HK2.out i (by omega) (by omega)
                clear ht1 hp hi
                go_wp2_with (go_at_call 11; refine (accept_hit (w.heap.size + 1) w.heap.size len0 i len1 K T c _ hpt hp0 hp1 hpf hin hl hh).mono ?_; rintro e w3 ⟨rfl, m3, rfl⟩)
                go_roundg (k - (t + 1))
                case rel => exact ⟨t + 1, by go_num, by omega, by have := HPP.out.step m3; rw [HI.out] at this; rw [HI.out]; exact this⟩
                case measure => have := HJ2.out; omega
              · have hij : i = j := by have := HJK.out; omega
                have hh : hitB K T len0 len1 c i = false := by rw [hij]; exact HM.out
                have hb1 : ((t : Int) == (j : Int) - (s : Int)) = true := beq_iff_eq.2 (by omega)
                have hb2 : ((i : Int) == (s : Int) + ((j : Int) - (s : Int))) = true := beq_iff_eq.2 (by omega)
                clear ht1 hp hi hij
                go_wp2_with (go_at_call 11; refine (accept_miss (w.heap.size + 1) w.heap.size len0 i len1 K T c _ hpt hp0 hp1 hin hh).mono ?_; rintro e w3 ⟨rfl, m3, rfl⟩)
                go_ret
                exact ⟨rfl, below_drewN HPP.out.bel _⟩
end Go.Proofs.Ybulkckvy
