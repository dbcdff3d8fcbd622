import Derived.Test.YbulkckvyBuild2
import Derived.LaidEqlPtr
namespace Go.Proofs.Ybulkckvy
open Go.RowKit

theorem st_start (w : World) : St w.heap.size w ((w.alloc (.cells #[.int .i64 (0 : Nat)] 3)).alloc (.cells #[.pointer none] 39)) 0 none := by
  refine ⟨((Below.refl _ _).alloc (Nat.le_refl _) _).alloc (by rw [hp_alloc_size]; omega) _, by rw [hp_alloc_size, hp_alloc_size]; omega, ?_, ?_⟩
  · rw [hp_alloc_lt _ _ _ (by rw [hp_alloc_size]; omega), hp_alloc_new]
  · have := hp_alloc_new (w.alloc (.cells #[.int .i64 (0 : Nat)] 3)) (.cells #[.pointer none] 39)
    rw [hp_alloc_size] at this
    exact this
theorem Left.last {B : Nat} {w : World} : ∀ (d b L : Nat), Left B d w b L → w.cell? ⟨L, 3, none⟩ = some (.slice none 0 0)
  | 0, _, _, ⟨rfl, _, h⟩ => h
  | d + 1, _, L, ⟨_, _, _, c, _, _, _, _, _, h⟩ => Left.last d c L h
theorem cnt_le (n : Nat) : 0 + cnt (n % 6) ≤ 10000 := by
  have h : n % 6 < 6 := Nat.mod_lt _ (by omega)
  generalize n % 6 = d at *
  match d, h with
  | 0, _ => decide
  | 1, _ => decide
  | 2, _ => decide
  | 3, _ => decide
  | 4, _ => decide
  | 5, _ => decide
theorem info44 : ∃ i, Yba.prog.info? 44 = some i := by
  have h : (Yba.prog.info? 44).isSome = true := by kernel_rfl
  exact Option.isSome_iff_exists.1 h
set_option maxRecDepth 100000 in
theorem left_walk (n : Nat) (hn : n ≤ 255) (a1 : Option Addr) (len1 cap1 : Nat) (w : World) (hW : len1 ≤ 1024 → WidthAt w w.heap.size a1 len1) :
    Calls Yba.prog 7 #[.int .u8 (n : Int), .slice a1 len1 cap1] w fun e w' => e = .returned (.bool true) ∧ Below w.heap.size w w' := by
  by_cases hlen : len1 > 1024
  · have h : (1024 : Int) < (len1 : Int) := by omega
    go_enter Yba.func7, Yba.ntmps7
    go_wp2_with fail
    go_ret
    exact ⟨rfl, Below.refl _ _⟩
  · have h : (len1 : Int) ≤ 1024 := by omega
    have hW := hW (by omega)
    have hst := st_start w
    have hle := cnt_le n
    have hd5 : n % 6 ≤ 5 := by omega
    obtain ⟨i44, hi44⟩ : ∃ i, Yba.prog.info? 44 = some i := info44
    have heq := fun w a => run_eql_ptr_same (P := Yba.prog) w (tp := 39) a Yba.underlying39 hi44
    go_enter Yba.func7, Yba.ntmps7
    go_wp2_with fail
    rw [show ((n : Int) % 6) = ((n % 6 : Nat) : Int) from by omega]
    refine (build_any w.heap.size w a1 len1 cap1 hW (n % 6) _ 0 none hd5 hst hle).mono ?_
    rintro e w1 ⟨r, L, i', rfl, _, _, hst1, _, _, hl⟩
    have HB := Hid.intro hst1.bel
    have hcf : w1.cell? ⟨w.heap.size + 1, 0, none⟩ = some (.pointer (some ⟨L, 0, none⟩)) := by rw [hp_cell hst1.cf]; rfl
    have h3 := Left.last _ _ _ hl
    clear hst1 hst hle hd5 hW
    go_wp2_with (first | (go_at_call 25; refine (firstLeaf_any _ _ _ _ _ hl).mono ?_; rintro e w2 ⟨rfl, rfl⟩) | (go_at_call 26; refine (leaf_nil _ _ h3).mono ?_; rintro e w2 ⟨rfl, rfl⟩))
    go_ret
    exact ⟨rfl, HB.out⟩
end Go.Proofs.Ybulkckvy
