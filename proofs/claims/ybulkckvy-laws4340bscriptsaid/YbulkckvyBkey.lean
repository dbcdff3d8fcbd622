import Derived.Test.YbulkckvyBsf
import Derived.Laws.IdiomStrings
set_option linter.unusedVariables false
set_option linter.unusedSimpArgs false
namespace Go.Proofs.Ybulkckvy
open Go.RowKit

/-- 'zzs4340bkey'. -/
def bkeyL (n : Nat) : List UInt8 := [107, UInt8.ofNat (48 + n / 1000 % 10), UInt8.ofNat (48 + n / 100 % 10), UInt8.ofNat (48 + n / 10 % 10), UInt8.ofNat (48 + n % 10)]
def bkey (n : Nat) : ByteArray := ⟨(bkeyL n).toArray⟩
theorem u8_toNat {m : Nat} (h : m < 256) : (UInt8.ofNat m).toNat = m := by simp; omega
/-- The bytes when p's turn has come. -/
def bcell (n p : Nat) : Array Value := #[.int .u8 107, .int .u8 (if p < 1 then 48 + (n : Int) / 1000 % 10 else 48), .int .u8 (if p < 2 then 48 + (n : Int) / 100 % 10 else 48), .int .u8 (if p < 3 then 48 + (n : Int) / 10 % 10 else 48), .int .u8 (if p < 4 then 48 + (n : Int) % 10 else 48)]
def brest (n p : Nat) : Int := match p with | 4 => (n : Int) | 3 => (n : Int) / 10 | 2 => (n : Int) / 100 | 1 => (n : Int) / 1000 | _ => (n : Int) / 10000

set_option maxRecDepth 100000 in
theorem bkey_any (n : Nat) (hn : n < 10000) (w : World) :
    Calls Yba.prog 14 #[.int .i64 (n : Int)] w fun e w' => e = .returned (.string (bkey n)) ∧ Ext w w' := by
  have hconv : ∀ W : World, W.heap[w.heap.size]? = some (.cells (bcell n 0) 5 (0, 0)) → (convert 22 9 (.slice (some ⟨w.heap.size, 0, none⟩) 5 5)).run Yba.prog W = .ok (.string (bkey n)) W := fun W hW => by
    refine run_convert_bytes_back (P := Yba.prog) _ 22 9 5 ⟨w.heap.size, 0, none⟩ 5 (bkeyL n) Yba.underlying22 Yba.underlying5 Yba.underlying9 (fun j hj => ?_)
    rw [Addr.add_lit, Nat.zero_add, hp_cell hW]
    match j, hj with
    | 0, _ => rfl
    | 1, _ => simp only [bkeyL, List.getElem_cons_succ, List.getElem_cons_zero]; rw [u8_toNat (by omega)]; simp [bcell]
    | 2, _ => simp only [bkeyL, List.getElem_cons_succ, List.getElem_cons_zero]; rw [u8_toNat (by omega)]; simp [bcell]
    | 3, _ => simp only [bkeyL, List.getElem_cons_succ, List.getElem_cons_zero]; rw [u8_toNat (by omega)]; simp [bcell]
    | 4, _ => simp only [bkeyL, List.getElem_cons_succ, List.getElem_cons_zero]; rw [u8_toNat (by omega)]; simp [bcell]
  have HC := Hid.intro hconv
  clear hconv
  go_enter Yba.func14, Yba.ntmps14
  go_wp2_with fail
  go_loopg [0, 4] 4 (fun m v0 v4 wr => v4 = .int .i64 (m : Int) ∧ v0 = .int .i64 (brest n m) ∧ m ≤ 4 ∧ wr.heap[w.heap.size]? = some (.cells (bcell n m) 5 (0, 0)) ∧ Ext w wr)
  case atStart => exact ⟨rfl, rfl, by omega, hp_alloc_new _ _, (Ext.refl w).alloc _⟩
  case round =>
    obtain ⟨rfl, rfl, hm, hh, hx⟩ := hrel
    have hfz := fun o => hp_frozen hh o
    have hc := fun o => hp_cell hh o
    have HX := Hid.intro hx
    have HH := Hid.intro hh
    clear hx hh
    match gk, hm with
    | 0, _ =>
      have hcv := HC.out wr HH.out
      clear hc hfz
      go_wp2_with fail
      go_ret
      exact ⟨rfl, HX.out⟩
    | 1, _ =>
      have c1 := hc 1
      simp only [brest, bcell] at c1 ⊢
      go_wp2_with fail
      go_roundg 0
      case measure => omega
      case rel =>
        refine ⟨by go_num, by simp only [brest]; (try congr 1); (try omega), by omega, ?_, HX.out.set _ _ (Nat.le_refl _)⟩
        rw [hp_set_same _ _ _ _ _ _ _ HH.out]
        simp [bcell]
        try omega
    | 2, _ =>
      have c2 := hc 2
      simp only [brest, bcell] at c2 ⊢
      go_wp2_with fail
      go_roundg 1
      case measure => omega
      case rel =>
        refine ⟨by go_num, by simp only [brest]; (try congr 1); (try omega), by omega, ?_, HX.out.set _ _ (Nat.le_refl _)⟩
        rw [hp_set_same _ _ _ _ _ _ _ HH.out]
        simp [bcell]
        try omega
    | 3, _ =>
      have c3 := hc 3
      simp only [brest, bcell] at c3 ⊢
      go_wp2_with fail
      go_roundg 2
      case measure => omega
      case rel =>
        refine ⟨by go_num, by simp only [brest]; (try congr 1); (try omega), by omega, ?_, HX.out.set _ _ (Nat.le_refl _)⟩
        rw [hp_set_same _ _ _ _ _ _ _ HH.out]
        simp [bcell]
        try omega
    | 4, _ =>
      have c4 := hc 4
      simp only [brest, bcell] at c4 ⊢
      go_wp2_with fail
      go_roundg 3
      case measure => omega
      case rel =>
        refine ⟨by go_num, by simp only [brest]; (try congr 1); (try omega), by omega, ?_, HX.out.set _ _ (Nat.le_refl _)⟩
        rw [hp_set_same _ _ _ _ _ _ _ HH.out]
        simp [bcell]
        try omega

theorem bkey_lt {a b : Nat} (ha : a < 10000) (hb : b < 10000) : klt (bkey a) (bkey b) = decide (a < b) := by
  have lt_of : ∀ {a b : Nat}, a < 256 → b < 256 → ((UInt8.ofNat a < UInt8.ofNat b) ↔ a < b) := fun ha hb => by
    rw [UInt8.lt_iff_toNat_lt, u8_toNat ha, u8_toNat hb]
  have eq_of : ∀ {a b : Nat}, a < 256 → b < 256 → ((UInt8.ofNat a = UInt8.ofNat b) ↔ a = b) := fun ha hb =>
    ⟨fun h => by have := congrArg UInt8.toNat h; rwa [u8_toNat ha, u8_toNat hb] at this, fun h => by rw [h]⟩
  unfold klt
  rw [ByteArray.toList_eq, ByteArray.toList_eq]
  show Op.bytesLess (bkeyL a) (bkeyL b) = _
  simp only [bkeyL, Op.bytesLess]
  rw [Bool.eq_iff_iff]
  simp only [Bool.or_eq_true, decide_eq_true_eq, Bool.and_eq_true, beq_iff_eq]
  rw [lt_of (by omega) (by omega), eq_of (by omega) (by omega), lt_of (by omega) (by omega), eq_of (by omega) (by omega), lt_of (by omega) (by omega), eq_of (by omega) (by omega), lt_of (by omega) (by omega), eq_of (by omega) (by omega)]
  simp only [Bool.false_eq_true, and_false, or_false, true_and, UInt8.lt_irrefl, false_or]
  have e1 : ∀ a : Nat, a < 10000 → ∃ d3 d2 d1 d0, a = d3 * 1000 + d2 * 100 + d1 * 10 + d0 ∧ d3 < 10 ∧ d2 < 10 ∧ d1 < 10 ∧ d0 < 10 ∧ a / 1000 % 10 = d3 ∧ a / 100 % 10 = d2 ∧ a / 10 % 10 = d1 ∧ a % 10 = d0 := fun a ha =>
    ⟨a / 1000 % 10, a / 100 % 10, a / 10 % 10, a % 10, by omega, by omega, by omega, by omega, by omega, rfl, rfl, rfl, rfl⟩
  obtain ⟨a3, a2, a1, a0, rfl, l3, l2, l1, l0, q3, q2, q1, q0⟩ := e1 a ha
  obtain ⟨b3, b2, b1, b0, rfl, m3, m2, m1, m0, r3, r2, r1, r0⟩ := e1 b hb
  rw [q3, q2, q1, q0, r3, r2, r1, r0]
  clear q3 q2 q1 q0 r3 r2 r1 r0
  omega
theorem bkey_inj {a b : Nat} (ha : a < 10000) (hb : b < 10000) (h : bkey a = bkey b) : a = b := by
  have h1 := bkey_lt ha hb
  have h2 := bkey_lt hb ha
  rw [h, klt_irrefl] at h1
  rw [h, klt_irrefl] at h2
  have := of_decide_eq_false h1.symm
  have := of_decide_eq_false h2.symm
  omega
end Go.Proofs.Ybulkckvy
