import Derived.Test.YbulkckvyChild
set_option linter.unusedVariables false
set_option linter.unusedSimpArgs false
namespace Go.Proofs.Ybulkckvy
open Go.RowKit

theorem nan35 (s : ByteArray) (w : World) : Calls Yba.prog 35 #[.string s] w fun e w' => e = .returned (.bool false) ∧ w' = w := by
  go_enter Yba.func35, Yba.ntmps35
  go_wp2_with fail
  go_ret
  exact ⟨by simp, rfl⟩
theorem nan52 (s : ByteArray) (w : World) : Calls Yba.prog 52 #[.string s] w fun e w' => e = .returned (.bool false) ∧ w' = w := by
  go_enter Yba.func52, Yba.ntmps52
  go_wp2_with fail
  go_ret
  exact ⟨by simp, rfl⟩
theorem less34 (a b : ByteArray) (w : World) : Calls Yba.prog 34 #[.string a, .string b] w fun e w' => e = .returned (.bool (klt a b)) ∧ w' = w := by
  go_enter Yba.func34, Yba.ntmps34
  go_wp2_with (go_at_call 52; refine (nan52 _ _).mono ?_; rintro e w1 ⟨rfl, rfl⟩)
  go_ret
  exact ⟨rfl, rfl⟩
set_option maxRecDepth 100000 in
set_option maxHeartbeats 1000000 in
theorem bs_any (base g cap : Nat) (ks : List ByteArray) (key : ByteArray) (w : World) (he : Strs w base (.slice (some ⟨g, 0, none⟩) ks.length cap) ks) (hr : Rising ks) (hn : ks.length ≤ 1000000) :
    Calls Yba.prog 21 #[.slice (some ⟨g, 0, none⟩) ks.length cap, .string key] w fun e w' => e = .returned (.tuple #[.int .i64 (pos key ks : Int), .bool (foundB key ks)]) ∧ Ext w w' := by
  go_enter Yba.func21, Yba.ntmps21
  go_wp2_with fail
  go_loopg [7, 8] ks.length (fun m v9 v10 wr => ∃ i j : Nat, v9 = .int .i64 (i : Int) ∧ v10 = .int .i64 (j : Int) ∧ i + m = j ∧ j ≤ ks.length ∧ (∀ t (h : t < ks.length), t < i → klt ks[t] key = true) ∧ (∀ t (h : t < ks.length), j ≤ t → klt ks[t] key = false) ∧ Ext w wr)
  case atStart => exact ⟨0, ks.length, rfl, rfl, by omega, Nat.le_refl _, fun t h ht => by omega, fun t h ht => by omega, Ext.refl _⟩
  case round =>
    obtain ⟨i, j, rfl, rfl, hij, hj, h1, h2, hx⟩ := hrel
    have H1 := Hid.intro h1
    have H2 := Hid.intro h2
    have HM := Hid.intro hij
    clear h1 h2 hij
    by_cases hlt : i < j
    · have hmid : (i + j) / 2 < ks.length := by omega
      have c1 := (he.ext hx).cell rfl hmid
      obtain ⟨x, hxk⟩ : ∃ x, ks[(i + j) / 2] = x := ⟨_, rfl⟩
      rw [hxk] at c1
      have HX := Hid.intro hxk
      clear hxk
      cases hc : klt x key with
      | true =>
        go_wp2_with (go_at_call 34; refine (less34 _ _ _).mono ?_; rintro e w1 ⟨rfl, rfl⟩; rw [hc])
        go_roundg (j - ((i + j) / 2 + 1))
        case rel =>
          refine ⟨(i + j) / 2 + 1, j, by go_num, rfl, by omega, hj, fun t h ht => ?_, H2.out, hx⟩
          by_cases e : t = (i + j) / 2
          · subst e; rw [HX.out]; exact hc
          · exact klt_trans (hr.get (by omega) hmid) (by rw [HX.out]; exact hc)
        case measure => have := HM.out; omega
      | false =>
        go_wp2_with (go_at_call 34; refine (less34 _ _ _).mono ?_; rintro e w1 ⟨rfl, rfl⟩; rw [hc])
        go_roundg ((i + j) / 2 - i)
        case rel =>
          refine ⟨i, (i + j) / 2, rfl, by go_num, by omega, by omega, H1.out, fun t h ht => ?_, hx⟩
          by_cases e : t = (i + j) / 2
          · subst e; rw [HX.out]; exact hc
          · have := hr.get (show (i + j) / 2 < t by omega) h
            cases hh : klt ks[t] key with
            | false => rfl
            | true => have := klt_trans this hh; rw [HX.out, hc] at this; cases this
        case measure => have := HM.out; omega
    · have hije : i = j := by have := HM.out; omega
      subst hije
      have hp : pos key ks = i := pos_of hj H1.out H2.out
      have HP := Hid.intro hp
      clear H1 H2 HM
      by_cases hin : i < ks.length
      · have c1 := (he.ext hx).cell rfl hin
        obtain ⟨x, hxk⟩ : ∃ x, ks[i] = x := ⟨_, rfl⟩
        rw [hxk] at c1
        have hf : foundB key ks = decide (x = key) := by
          have := found_at (key := key) (ks := ks) (by omega)
          simp only [hp] at this
          rw [this, hxk]
        have HF := Hid.intro hf
        have hd : decide ((i : Int) < (ks.length : Int)) = true := decide_eq_true (by omega)
        clear hp hf hxk
        by_cases hxe : x = key
        · subst hxe
          go_wp2_with (go_at_call 35; refine (nan35 _ _).mono ?_; rintro e w1 ⟨rfl, rfl⟩)
          go_ret2
          exact ⟨by rw [HP.out, HF.out]; simp, hx⟩
        · have hne : (x.toList == key.toList) = false := by
            rw [beq_eq_false_iff_ne]
            exact fun e => hxe (toList_inj e)
          have HXE := Hid.intro hxe
          clear hxe
          go_wp2_with (go_at_call 35; refine (nan35 _ _).mono ?_; rintro e w1 ⟨rfl, rfl⟩)
          go_ret2
          exact ⟨by rw [HP.out, HF.out]; simp [HXE.out], hx⟩
      · have hf : foundB key ks = false := found_end (by omega)
        have HF := Hid.intro hf
        have hd : decide ((i : Int) < (ks.length : Int)) = false := decide_eq_false (by omega)
        clear hf hp
        go_wp2_with fail
        go_ret2
        exact ⟨by rw [HP.out, HF.out]; rfl, hx⟩
end Go.Proofs.Ybulkckvy
