import Derived.Test.YbulkckvyScr
set_option linter.unusedVariables false
set_option linter.unusedSimpArgs false
namespace Go.Proofs.Ybulkckvy
open Go.RowKit
attribute [local go_sem ↓] Go.wp_at_zero Go.wp_at_succ

/-- The operations that came in. -/
def OpsAt (w : World) (a : Option Addr) (len : Nat) (S L : Nat → Nat) : Prop :=
  (∀ j, S j ≤ 65535 ∧ L j ≤ 255) ∧ (0 < len → ∃ b off, a = some ⟨b, off, none⟩ ∧ b < w.heap.size ∧ ∀ j, j < len → w.cell? ⟨b, off + j * 2, none⟩ = some (.int .u16 (S j : Int)) ∧ w.cell? ⟨b, off + j * 2 + 1, none⟩ = some (.int .u8 (L j : Int)))
set_option maxRecDepth 100000 in
set_option maxHeartbeats 4000000 in
theorem script_walk (cnt : Nat) (hc : cnt ≤ 65535) (desc : Bool) (a : Option Addr) (len cap : Nat) (S L : Nat → Nat) (w : World) (hO : OpsAt w a len S L) :
    Calls Yba.prog 5 #[.int .u16 (cnt : Int), .bool desc, .slice a len cap] w fun e w' => e = .returned (.bool true) ∧ Below w.heap.size w w' := by
  by_cases hlen : len > 1024
  · have h : (1024 : Int) < (len : Int) := by omega
    go_enter Yba.func5, Yba.ntmps5
    go_wp2_with fail
    go_ret
    exact ⟨rfl, Below.refl _ _⟩
  · have h : ¬ (1024 : Int) < (len : Int) := by omega
    obtain ⟨n, hn⟩ : ∃ n, n = 100 + cnt % 400 := ⟨_, rfl⟩
    have hni : (100 : Int) + (cnt : Int) % 400 = (n : Int) := by omega
    have hn1 : 100 ≤ n := by omega
    have hn2 : n < 500 := by omega
    clear hn
    obtain ⟨m, hm⟩ : ∃ m, m = n + 50 := ⟨_, rfl⟩
    have hmi : (n : Int) + 50 = (m : Int) := by omega
    have hm1 : n < m := by omega
    have hm2 : m < 550 := by omega
    clear hm
    obtain ⟨C, hC1, hC2, hmk⟩ := make4 m (by omega)
    have HST := Hid.intro (BInv.start w m C hC1 hC2)
    clear hC1 hC2
    have HO := Hid.intro hO
    clear hO
    go_enter Yba.func5, Yba.ntmps5
    go_wp2_with fail
    clear hmk
    go_loopg [11, 12] n (fun g v11 v12 wr => ∃ i : Nat, v11 = .int .i64 (i : Int) ∧ i + g = n ∧ ∃ P, BInv w m P wr ∧ ∀ t, t < m → P t = true → (if desc then n - i ≤ t else t < i))
    case atStart => exact ⟨0, rfl, by omega, _, HST.out, fun t _ h => by cases h⟩
    case round =>
      obtain ⟨i, rfl, hig, P, hI, hP⟩ := hrel
      have HIG := Hid.intro hig
      clear hig HST
      by_cases hlt : i < n
      · obtain ⟨F, hF⟩ := hI.idx
        cases desc with
        | false =>
          have hpi : P i = false := by
            cases hq : P i with
            | false => rfl
            | true => have := hP i (by omega) hq; simp at this
          have HK := Hid.intro (bkey_any i (by omega) wr)
          have HI := Hid.intro (fun w2 (hx : Ext wr w2) => iins w.heap.size (w.heap.size + 1) (KP m P) F (bkey i) w2 (hF.ext hx) (KP_notin (by omega) (by omega) hpi) (by have := KP_len m P; omega))
          have HS := Hid.intro (fun w2 w3 e (hx : Ext wr w2) hd => BInv.ins (w3 := w3) (e := e) hI hF hx hd (by omega) (by omega) hpi)
          have HPP : Hid (∀ t, t < m → upd P i true t = true → t < i + 1) := Hid.intro (fun t ht hq => by
            by_cases e : t = i
            · omega
            · have := hP t ht (by simpa [upd, e] using hq)
              simp at this; omega)
          have him : (i : Int) < (m : Int) := by omega
          have hi0 : (0 : Int) ≤ (i : Int) := by omega
          clear hI hF hP hpi
          go_wp2_with (first | (go_at_call 14; refine HK.out.mono ?_; rintro e w2 ⟨rfl, hx2⟩; clear HK) | (go_at_call 13; refine (HI.out w2 hx2).mono ?_; rintro e w3 hd; obtain ⟨rfl, hB, hc3, hf3⟩ := HS.out w2 w3 e hx2 hd; have HB := Hid.intro hB; clear hB hd HS HI))
          go_roundg (n - (i + 1))
          case measure => have := HIG.out; omega
          case rel => exact ⟨i + 1, by go_num, by omega, _, HB.out, fun t ht hq => by simpa using HPP.out t ht hq⟩
        | true =>
          obtain ⟨j, hj⟩ : ∃ j, j + i + 1 = n := ⟨n - 1 - i, by omega⟩
          have hji : (n : Int) - 1 - (i : Int) = (j : Int) := by omega
          have hjm : j < m := by omega
          have hpi : P j = false := by
            cases hq : P j with
            | false => rfl
            | true => have := hP j (by omega) hq; simp at this; omega
          have HK := Hid.intro (bkey_any j (by omega) wr)
          have HI := Hid.intro (fun w2 (hx : Ext wr w2) => iins w.heap.size (w.heap.size + 1) (KP m P) F (bkey j) w2 (hF.ext hx) (KP_notin (by omega) (by omega) hpi) (by have := KP_len m P; omega))
          have HS := Hid.intro (fun w2 w3 e (hx : Ext wr w2) hd => BInv.ins (w3 := w3) (e := e) hI hF hx hd (by omega) (by omega) hpi)
          have HPP : Hid (∀ t, t < m → upd P j true t = true → n - (i + 1) ≤ t) := Hid.intro (fun t ht hq => by
            by_cases e : t = j
            · omega
            · have := hP t ht (by simpa [upd, e] using hq)
              simp at this; omega)
          have him : (j : Int) < (m : Int) := by omega
          have hi0 : (0 : Int) ≤ (j : Int) := by omega
          clear hI hF hP hpi hj
          go_wp2_with (first | (go_at_call 14; refine HK.out.mono ?_; rintro e w2 ⟨rfl, hx2⟩; clear HK) | (go_at_call 13; refine (HI.out w2 hx2).mono ?_; rintro e w3 hd; obtain ⟨rfl, hB, hc3, hf3⟩ := HS.out w2 w3 e hx2 hd; have HB := Hid.intro hB; clear hB hd HS HI))
          go_roundg (n - (i + 1))
          case measure => have := HIG.out; omega
          case rel => exact ⟨i + 1, by go_num, by omega, _, HB.out, fun t ht hq => by simpa using HPP.out t ht hq⟩
      · clear hP hni hc HIG
        go_wp2_with fail
        go_loopg [60] len (fun g v60 w' => ∃ q : Nat, v60 = .int .i64 (q : Int) ∧ q + g = len ∧ ∃ P, BInv w m P w')
        case atStart => exact ⟨0, rfl, by omega, P, hI⟩
        case round =>
          clear hI hlt hmi
          obtain ⟨q, rfl, hqg, P, hI⟩ := hrel
          have HQG := Hid.intro hqg
          clear hqg
          by_cases hlt : q < len
          · obtain ⟨b, off, rfl, hb, hz⟩ := HO.out.2 (by omega)
            obtain ⟨hS, hL⟩ := HO.out.1 q
            have z0 : wr.cell? ⟨b, off + q * 2, none⟩ = some (.int .u16 (S q : Int)) := (hI.bel.cell (p := ⟨b, off + q * 2, none⟩) hb).trans (hz q hlt).1
            have z1 : wr.cell? ⟨b, off + q * 2 + 1, none⟩ = some (.int .u8 (L q : Int)) := (hI.bel.cell (p := ⟨b, off + q * 2 + 1, none⟩) hb).trans (hz q hlt).2
            clear hz
            have hqi : (q : Int) < (len : Int) := by omega
            obtain ⟨st, hst⟩ : ∃ st, st = S q % m := ⟨_, rfl⟩
            have hsm : st < m := by rw [hst]; exact Nat.mod_lt _ (by omega)
            have hsi : (S q : Int) % (m : Int) = (st : Int) := by rw [hst]; omega
            have hst2 : Int.tmod (S q : Int) (m : Int) = (st : Int) := by rw [Int.tmod_eq_emod_of_nonneg (by omega)]; exact hsi
            obtain ⟨l, hl⟩ : ∃ l, l = L q % 48 := ⟨_, rfl⟩
            have hl2 : l < 48 := by omega
            have hli : (L q : Int) % 48 = (l : Int) := by omega
            have hm0 : ¬ (m : Int) = 0 := by omega
            have HIX := Hid.intro (fun o => hI.ext ((Ext.refl wr).alloc o))
            clear hst hl hI
            go_wp2_with fail
            simp only [hli, hsi, hst2]
            clear hli hsi hst2
            go_loopg [17] (l + 1) (fun g v17 w' => ∃ k : Nat, v17 = .int .i64 (k : Int) ∧ k + g = l + 1 ∧ ∃ P, BInv w m P w')
            case atStart => exact ⟨0, rfl, by omega, P, HIX.out _⟩
            case round =>
              clear HIX z0 z1
              obtain ⟨k, rfl, hkg, P, hI⟩ := hrel
              have HKG := Hid.intro hkg
              clear hkg
              by_cases hkl : k ≤ l
              · by_cases hkm : st + k < m
                · obtain ⟨j, hj⟩ : ∃ j, st + k = j := ⟨_, rfl⟩
                  have hji : (st : Int) + (k : Int) = (j : Int) := by omega
                  rw [hj] at hkm
                  obtain ⟨F, hF⟩ := hI.idx
                  have hkli : (k : Int) ≤ (l : Int) := by omega
                  have hjm : (j : Int) < (m : Int) := by omega
                  have HK := Hid.intro (bkey_any j (by omega) wr)
                  have HD := Hid.intro (fun w2 (hx : Ext wr w2) => idel w.heap.size (w.heap.size + 1) (KP m P) F (bkey j) w2 (hF.ext hx) (by have := KP_len m P; omega))
                  have HS := Hid.intro (fun w2 w3 e (hx : Ext wr w2) hd => BInv.del (w3 := w3) (e := e) hI hF hx hd (by omega) hkm)
                  clear hI hF hj
                  go_wp2_with (first | (go_at_call 14; refine HK.out.mono ?_; rintro e w2 ⟨rfl, hx2⟩; clear HK) | (go_at_call 15; refine (HD.out w2 hx2).mono ?_; rintro e w3 hd; obtain ⟨b1, i1, rfl, hB, hc3, hf3⟩ := HS.out w2 w3 e hx2 hd; have HB := Hid.intro hB; clear hB hd HS HD) | (go_at_call 16; obtain ⟨F', hF'⟩ := HB.out.inv.idx; refine (bok_idx hF').mono ?_; rintro e w4 ⟨rfl, rfl⟩; clear hF'))
                  clear hc3 hf3
                  go_loopg [21, 22] (m - (j + 1)) (fun g v21 v22 w' => v21 = .int .i64 (-1) ∧ ∃ t : Nat, v22 = .int .i64 (t : Int) ∧ (t + g = m) ∧ j < t ∧ (∀ s, j < s → s < t → upd P j false s = false) ∧ BCur w m (upd P j false) j b1 i1 w3.heap.size w')
                  case atStart => exact ⟨rfl, j + 1, by go_num, by omega, by omega, fun s h1 h2 => by omega, HB.out⟩
                  case round =>
                    clear HB
                    obtain ⟨rfl, t, rfl, htg, hjt, h0, hB⟩ := hrel
                    have HTG := Hid.intro htg
                    have H0 := Hid.intro h0
                    clear htg h0
                    have b0 : wr.cell? ⟨w3.heap.size, 0, none⟩ = some (.pointer (some ⟨w.heap.size + 1, 0, none⟩)) := by rw [hp_cell hB.cell]; rfl
                    have b1' : wr.cell? ⟨w3.heap.size, 1, none⟩ = some (.pointer (some ⟨b1, 0, none⟩)) := by rw [hp_cell hB.cell]; rfl
                    have b2 : wr.cell? ⟨w3.heap.size, 2, none⟩ = some (.int .i64 (i1 : Int)) := by rw [hp_cell hB.cell]; rfl
                    have HX := Hid.intro (fun (W : World) (hx : Ext wr W) => And.intro (ext_cell hx b0) (And.intro (ext_cell hx b1') (ext_cell hx b2)))
                    by_cases htm : t < m
                    · have htmi : (t : Int) < (m : Int) := by omega
                      have ht0 : (0 : Int) ≤ (t : Int) := by omega
                      have hct := (hB.inv.row.cell htm).1
                      cases hpt : upd P j false t with
                      | true =>
                        rw [hpt] at hct
                        have hnx := KP_next (m := m) (j := j) (i := t) (P := upd P j false) (by omega) hkm (upd_same P j false) H0.out hjt htm hpt
                        have H17 := Hid.intro (fun W hx => (cur_at hB.cur hnx W hx).1)
                        have H18 := Hid.intro (fun W hx => (cur_at hB.cur hnx W hx).2)
                        have HK := Hid.intro (fun W => bkey_any t (by omega) W)
                        have HI := Hid.intro hB.inv
                        have hnl : ¬ (t : Int) < 0 := by omega
                        clear hB hnx hpt
                        go_wp2_with (first | (go_at_call 17; refine (H17.out wr (Ext.refl wr)).mono ?_; rintro e w4 ⟨rfl, hx4⟩; obtain ⟨c0, c1, c2⟩ := HX.out w4 hx4; clear H17) | (go_at_call 18; refine (H18.out w4 hx4).mono ?_; rintro e w5 ⟨rfl, hx5⟩; clear H18) | (go_at_call 14; refine (HK.out w5).mono ?_; rintro e w6 ⟨rfl, hx6⟩; clear HK))
                        go_roundg (l + 1 - (k + 1))
                        case measure => have := HKG.out; omega
                        case rel => exact ⟨k + 1, by go_num, by omega, _, HI.out.ext ((hx4.trans hx5).trans hx6)⟩
                      | false =>
                        rw [hpt] at hct
                        have HP0 : Hid (∀ s, j < s → s < t + 1 → upd P j false s = false) := Hid.intro (fun s h1 h2 => by
                          by_cases e : s = t
                          · rw [e]; exact hpt
                          · exact H0.out s h1 (by omega))
                        have HB := Hid.intro hB
                        clear hB hpt
                        go_wp2_with fail
                        go_roundg (m - (t + 1))
                        case measure => have := HTG.out; omega
                        case rel => exact ⟨rfl, t + 1, by go_num, by omega, by omega, HP0.out, HB.out⟩
                    · have hlast := KP_last (m := m) (j := j) (P := upd P j false) (by omega) hkm (upd_same P j false) (fun s h1 h2 => H0.out s h1 (by omega))
                      have H17 := Hid.intro (fun W hx => cur_end hB.cur hlast W hx)
                      have HI := Hid.intro hB.inv
                      have htmi : ¬ (t : Int) < (m : Int) := by omega
                      clear hB hlast
                      go_wp2_with (go_at_call 17; refine (H17.out wr (Ext.refl wr)).mono ?_; rintro e w4 ⟨rfl, hx4⟩; clear H17)
                      go_roundg (l + 1 - (k + 1))
                      case measure => have := HKG.out; omega
                      case rel => exact ⟨k + 1, by go_num, by omega, _, HI.out.ext hx4⟩
                · have hkli : (k : Int) ≤ (l : Int) := by omega
                  have hkmi : ¬ (st : Int) + (k : Int) < (m : Int) := by omega
                  go_wp2_with fail
                  go_roundg (len - (q + 1))
                  case measure => have := HQG.out; omega
                  case rel => exact ⟨q + 1, by go_num, by omega, P, hI⟩
              · have hkli : ¬ (k : Int) ≤ (l : Int) := by omega
                go_wp2_with fail
                go_roundg (len - (q + 1))
                case measure => have := HQG.out; omega
                case rel => exact ⟨q + 1, by go_num, by omega, P, hI⟩
          · have hqi : ¬ (q : Int) < (len : Int) := by omega
            have HI := Hid.intro hI
            have HE := Hid.intro (fun o => hI.ext ((Ext.refl wr).alloc o))
            obtain ⟨F, hF⟩ := hI.idx
            have HF := Hid.intro hF
            clear hI hF
            go_wp2_with fail
            go_loopg [23, 24] m (fun g v23 v24 w' => ∃ t : Nat, v24 = .int .i64 (t : Int) ∧ t + g = m ∧ Strs w' wr.heap.size v23 (KP t P) ∧ Ext wr w')
            case atStart => exact ⟨0, rfl, by omega, str_none wr, (Ext.refl wr).alloc _⟩
            case round =>
              clear HE
              obtain ⟨t, rfl, htg, hS, hx⟩ := hrel
              have HTG := Hid.intro htg
              have HS := Hid.intro hS
              clear htg hS
              by_cases htm : t < m
              · have htmi : (t : Int) < (m : Int) := by omega
                have ht0 : (0 : Int) ≤ (t : Int) := by omega
                have hct := ((HI.out.ext hx).row.cell htm).1
                have hkl : (KP t P).length ≤ 100000 := by have := KP_len t P; omega
                cases hpt : P t with
                | true =>
                  rw [hpt] at hct
                  have HKS := Hid.intro (p := KP (t + 1) P = KP t P ++ [bkey t]) (by rw [KP_succ, hpt]; rfl)
                  have HK := Hid.intro (bkey_any t (by omega) wr)
                  clear hpt
                  go_wp2_with (first | (go_at_call 14; refine HK.out.mono ?_; rintro e w2 ⟨rfl, hx2⟩; obtain ⟨v', w4, hrun, hS', hx'⟩ := app_str (hx.trans hx2) 42 u23 (KP t P) (bkey t) (HS.out.ext hx2) hkl; have HR := Hid.intro (And.intro hS' hx'); clear hS' hx' HK) | (at_builtin; refine Lib.wpList_append_run _ rfl _ _ _ _ rfl _ _ rfl rfl _ _ hrun ?_))
                  go_roundg (m - (t + 1))
                  case measure => have := HTG.out; omega
                  case rel => exact ⟨t + 1, by go_num, by omega, by rw [HKS.out]; exact HR.out.1, HR.out.2⟩
                | false =>
                  rw [hpt] at hct
                  have HKS := Hid.intro (p := KP (t + 1) P = KP t P) (by rw [KP_succ, hpt]; simp)
                  clear hpt
                  go_wp2_with fail
                  go_roundg (m - (t + 1))
                  case measure => have := HTG.out; omega
                  case rel => exact ⟨t + 1, by go_num, by omega, by rw [HKS.out]; exact HS.out, hx⟩
              · have htm' : t = m := by have := HTG.out; omega
                have hS := HS.out
                rw [htm'] at hS
                obtain ⟨p2, c2, rfl, h2⟩ := hS.at
                have H2 := Hid.intro h2
                have htmi : ¬ (t : Int) < (m : Int) := by omega
                have H20 := Hid.intro (bkeys_idx (HF.out.ext hx) (by have := KP_len m P; omega))
                have hkl : (KP m P).length ≤ 1000000 := by have := KP_len m P; omega
                clear h2 hS htm' HS
                go_wp2_with (first | (go_at_call 20; refine H20.out.mono ?_; rintro e w4 ⟨v, rfl, hS4, hx4⟩; obtain ⟨p1, c1, rfl, h1⟩ := hS4.at; have H1 := Hid.intro h1; clear h1 hS4 H20) | (go_at_call 19; refine (equal_same p1 p2 c1 c2 (KP m P) w4 H1.out (fun j hj => (by obtain ⟨g, e, hc⟩ := H2.out j hj; exact ⟨g, e, ext_cell hx4 hc⟩)) hkl).mono ?_; rintro e w5 ⟨rfl, mm, rfl⟩))
                go_ret
                exact ⟨rfl, HI.out.bel.trans (((hx.trans hx4).drewN mm).below HI.out.bel.size)⟩
end Go.Proofs.Ybulkckvy
