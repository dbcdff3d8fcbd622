import Derived.Test.YbulkckvyTreeOps
import Derived.Laws.IdiomStrings
set_option linter.unusedVariables false
set_option linter.unusedSimpArgs false
namespace Go.Proofs.Ybulkckvy
open Go.RowKit

/-- 'zzs4340ckey'. -/
def ckeyL (n : Nat) : List UInt8 := [UInt8.ofNat (48 + n / 100), UInt8.ofNat (48 + n / 10 % 10), UInt8.ofNat (48 + n % 10)]
def ckey (n : Nat) : ByteArray := ⟨(ckeyL n).toArray⟩
theorem ofNat_toNat {m : Nat} (h : m < 256) : (UInt8.ofNat m).toNat = m := by simp; omega

set_option maxRecDepth 100000 in
theorem ckey_any (n : Nat) (hn : n ≤ 1000) (w : World) :
    Calls Yba.prog 29 #[.int .i64 (n : Int)] w fun e w' => e = .returned (.string (ckey n)) ∧ Ext w w' := by
  have hbk : (w.alloc (.cells #[.int .u8 (48 + (n : Int) / 100), .int .u8 (48 + (n : Int) / 10 % 10), .int .u8 (48 + (n : Int) % 10)] 5)).heap[w.heap.size]? = some (.cells #[.int .u8 (48 + (n : Int) / 100), .int .u8 (48 + (n : Int) / 10 % 10), .int .u8 (48 + (n : Int) % 10)] 5 (0, 0)) := hp_alloc_new _ _
  have hconv : (convert 22 9 (.slice (some ⟨w.heap.size, 0, none⟩) 3 3)).run Yba.prog (w.alloc (.cells #[.int .u8 (48 + (n : Int) / 100), .int .u8 (48 + (n : Int) / 10 % 10), .int .u8 (48 + (n : Int) % 10)] 5)) = .ok (.string (ckey n)) (w.alloc (.cells #[.int .u8 (48 + (n : Int) / 100), .int .u8 (48 + (n : Int) / 10 % 10), .int .u8 (48 + (n : Int) % 10)] 5)) := by
    refine run_convert_bytes_back (P := Yba.prog) _ 22 9 5 ⟨w.heap.size, 0, none⟩ 3 (ckeyL n) Yba.underlying22 Yba.underlying5 Yba.underlying9 (fun j hj => ?_)
    rw [Addr.add_lit, Nat.zero_add, hp_cell hbk]
    match j, hj with
    | 0, _ => simp only [ckeyL, List.getElem_cons_zero]; rw [ofNat_toNat (by omega)]; simp
    | 1, _ => simp only [ckeyL, List.getElem_cons_succ, List.getElem_cons_zero]; rw [ofNat_toNat (by omega)]; simp
    | 2, _ => simp only [ckeyL, List.getElem_cons_succ, List.getElem_cons_zero]; rw [ofNat_toNat (by omega)]; simp
  clear hbk
  go_enter Yba.func29, Yba.ntmps29
  go_wp2_with fail
  go_ret
  exact ⟨rfl, (Ext.refl w).alloc _⟩

theorem lt_ofNat {a b : Nat} (ha : a < 256) (hb : b < 256) : (UInt8.ofNat a < UInt8.ofNat b) ↔ a < b := by
  rw [UInt8.lt_iff_toNat_lt, ofNat_toNat ha, ofNat_toNat hb]
theorem eq_ofNat {a b : Nat} (ha : a < 256) (hb : b < 256) : (UInt8.ofNat a = UInt8.ofNat b) ↔ a = b := by
  constructor
  · intro h
    have := congrArg UInt8.toNat h
    rwa [ofNat_toNat ha, ofNat_toNat hb] at this
  · exact fun h => by rw [h]
theorem ckey_lt {a b : Nat} (ha : a < 1000) (hb : b < 1000) : klt (ckey a) (ckey b) = decide (a < b) := by
  unfold klt
  rw [ByteArray.toList_eq, ByteArray.toList_eq]
  show Op.bytesLess (ckeyL a) (ckeyL b) = _
  simp only [ckeyL, Op.bytesLess]
  rw [Bool.eq_iff_iff]
  simp only [Bool.or_eq_true, decide_eq_true_eq, Bool.and_eq_true, beq_iff_eq]
  rw [lt_ofNat (by omega) (by omega), eq_ofNat (by omega) (by omega), lt_ofNat (by omega) (by omega), eq_ofNat (by omega) (by omega), lt_ofNat (by omega) (by omega), eq_ofNat (by omega) (by omega)]
  simp only [Bool.false_eq_true, and_false, or_false]
  omega
theorem ckey_inj {a b : Nat} (ha : a < 1000) (hb : b < 1000) (h : ckey a = ckey b) : a = b := by
  have h1 := ckey_lt ha hb
  have h2 := ckey_lt hb ha
  rw [h, klt_irrefl] at h1
  rw [h, klt_irrefl] at h2
  have := of_decide_eq_false h1.symm
  have := of_decide_eq_false h2.symm
  omega
end Go.Proofs.Ybulkckvy
