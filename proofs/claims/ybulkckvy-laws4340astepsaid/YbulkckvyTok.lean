import Derived.Test.YbulkckvyProg
import Derived.Test.YbulkckvyHeap
import Derived.WalkSpells
import Derived.WalkLawsBesides
import Derived.Deep.LoopGhost
import Derived.Deep.DeepCutAuto
import Derived.Deep.QuietTactic
import Derived.BigQuiet
import Derived.Outline
import Derived.Deep.Light
import Derived.Deep.OwnRows
namespace Go.Proofs.Ybulkckvy
open Go.RowKit

/-- 'zzs4340atext'. -/
def textOf (k : Nat) : ByteArray :=
  if k % 6 = 0 then ⟨#[40]⟩ else if k % 6 = 1 then ⟨#[41]⟩ else if k % 6 = 2 then ⟨#[44]⟩ else if k % 6 = 3 then ⟨#[59]⟩ else if k % 6 = 4 then ⟨#[60, 61]⟩ else ⟨#[97]⟩
/-- The kind that 'zzs4340abuild' lays. -/
def kindOf (k : Nat) : Nat := if k % 2 = 1 then 1 + k / 2 % 7 else 6

theorem text_any (k : Nat) (hk : k ≤ 255) (w : World) :
    Calls Yba.prog 10 #[.int .u8 (k : Int)] w fun e w' => e = .returned (.string (textOf k)) ∧ w = w' := by
  have hlt : k % 6 < 6 := Nat.mod_lt _ (by omega)
  rcases (show (k % 6 = 0 ∧ (k : Int) % 6 = 0) ∨ (k % 6 = 1 ∧ (k : Int) % 6 = 1) ∨ (k % 6 = 2 ∧ (k : Int) % 6 = 2) ∨ (k % 6 = 3 ∧ (k : Int) % 6 = 3) ∨ (k % 6 = 4 ∧ (k : Int) % 6 = 4) ∨ (k % 6 = 5 ∧ (k : Int) % 6 = 5) by omega) with
    ⟨h, h'⟩ | ⟨h, h'⟩ | ⟨h, h'⟩ | ⟨h, h'⟩ | ⟨h, h'⟩ | ⟨h, h'⟩
  all_goals
    have HT := Hid.intro (p := textOf k = _) (by unfold textOf; simp only [h]; rfl)
    clear h hlt
    go_enter Yba.func10, Yba.ntmps10
    go_wp2_with fail
    go_ret
    exact ⟨by rw [HT.out]; rfl, rfl⟩

/-- A slice of bytes that came in: 'Z j' is its j-th element. -/
def BytesAt (w : World) (B : Nat) (a : Option Addr) (len : Nat) (Z : Nat → Nat) : Prop :=
  (∀ j, Z j ≤ 255) ∧ (0 < len → ∃ b off, a = some ⟨b, off, none⟩ ∧ b < B ∧ ∀ j, j < len → w.cell? ⟨b, off + j, none⟩ = some (.int .u8 (Z j : Int)))
theorem BytesAt.carry {w w' : World} {B : Nat} {a : Option Addr} {len : Nat} {Z : Nat → Nat} (h : BytesAt w B a len Z) (hb : Below B w w') : BytesAt w' B a len Z := by
  refine ⟨h.1, fun h0 => ?_⟩
  obtain ⟨b, off, h1, h2, h3⟩ := h.2 h0
  exact ⟨b, off, h1, h2, fun j hj => (hb.cell (p := ⟨b, off + j, none⟩) h2).trans (h3 j hj)⟩

def ZERO33 : Array Value := #[.int .u8 0, .string ⟨#[]⟩, .int .i64 0]
theorem info33 : (Yba.prog.info? 33).map (fun i => (i.zero, i.size, i.bytes)) = some (some (.agg #[.int .u8 0, .string ⟨#[]⟩, .int .i64 0]), 3, 32) := by kernel_rfl
theorem make33 (n : Nat) (hn : n ≤ 1024) : ∃ C : Array Value, C.size = 3 * n ∧ ∀ w, (Instr.makeSlice 24 (.int .i64 (n : Int)) (.int .i64 (n : Int))).run Yba.prog w = .ok (.slice (some ⟨w.heap.size, 0, none⟩) n n) (w.alloc (.cells C 33)) := by
  obtain ⟨i, hi, hzz⟩ := Option.map_eq_some_iff.1 info33
  simp only [Prod.mk.injEq] at hzz
  obtain ⟨hz0, hs, hby⟩ := hzz
  refine ⟨madeCells (Value.agg #[.int .u8 0, .string ⟨#[]⟩, .int .i64 0]).cells ((n : Int).toNat * i.size), ?_, fun w => ?_⟩
  · rw [hs]; simp [madeCells, Value.cells]; omega
  · have := run_make (P := Yba.prog) w 24 33 i _ Yba.underlying24 hi hz0 .i64 .i64 n n (by omega) (by omega) (by rw [hby]; omega) (by omega)
    simpa using this

def textAt (len1 : Nat) (T : Nat → Nat) (j : Nat) : ByteArray := if j < len1 then textOf (T j) else ⟨#[]⟩
/-- The first k tokens are laid in block g. -/
structure Toks (g : Nat) (K T : Nat → Nat) (n len1 k : Nat) (w : World) : Prop where
  row : ∃ cs, w.heap[g]? = some (.cells cs 33 (0, 0)) ∧ cs.size = 3 * n ∧ ∀ j, j < k → cs[3 * j]? = some (.int .u8 (kindOf (K j) : Int)) ∧ cs[3 * j + 1]? = some (.string (textAt len1 T j)) ∧ cs[3 * j + 2]? = some (.int .i64 (j : Int))

theorem Toks.step {g : Nat} {K T : Nat → Nat} {n len1 k : Nat} {w wr : World} (h : Toks g K T n len1 k wr) (hk : k < n) (hsz : wr.heap.size = w.heap.size + 1) (hb : Below g w wr) :
    let w' := ((wr.setCell ⟨g, k * 3, none⟩ (.int .u8 (kindOf (K k) : Int))).setCell ⟨g, k * 3 + 1, none⟩ (.string (textAt len1 T k))).setCell ⟨g, k * 3 + 2, none⟩ (.int .i64 (k : Int))
    Toks g K T n len1 (k + 1) w' ∧ Below g w w' ∧ w'.heap.size = w.heap.size + 1 := by
  obtain ⟨cs, h1, h2, h3⟩ := h
  refine ⟨⟨_, hp_set_same _ _ _ _ _ _ _ (hp_set_same _ _ _ _ _ _ _ (hp_set_same _ _ _ _ _ _ _ h1)), by simp [h2], fun j hj => ?_⟩, ((hb.setCell (by simp) _).setCell (by simp) _).setCell (by simp) _, by simp only [hp_set_size]; exact hsz⟩
  by_cases hjk : j = k
  · subst hjk
    have e1 : 3 * j = j * 3 := Nat.mul_comm _ _
    have e2 : j * 3 + 2 < cs.size := by omega
    refine ⟨?_, ?_, ?_⟩ <;> rw [e1] <;> simp [Array.getElem?_setIfInBounds] <;> omega
  · obtain ⟨q1, q2, q3⟩ := h3 j (by omega)
    refine ⟨?_, ?_, ?_⟩ <;> rw [Array.getElem?_setIfInBounds_ne (by omega), Array.getElem?_setIfInBounds_ne (by omega), Array.getElem?_setIfInBounds_ne (by omega)] <;> assumption

theorem build9 (a0 : Option Addr) (len0 cap0 : Nat) (a1 : Option Addr) (len1 cap1 : Nat) (K T : Nat → Nat) (w : World) (B : Nat) (hB : B ≤ w.heap.size) (hl : len0 ≤ 1024)
    (h0 : BytesAt w B a0 len0 K) (h1 : BytesAt w B a1 len1 T) (hm : len1 ≤ 9223372036854775807) :
    Calls Yba.prog 9 #[.slice a0 len0 cap0, .slice a1 len1 cap1] w fun e w' => e = .returned (.slice (some ⟨w.heap.size, 0, none⟩) len0 len0) ∧ Toks w.heap.size K T len0 len1 len0 w' ∧ Below w.heap.size w w' ∧ w'.heap.size = w.heap.size + 1 := by
  obtain ⟨C, hC, hmk⟩ := make33 len0 hl
  go_enter Yba.func9, Yba.ntmps9
  go_wp2_with fail
  go_loopg [7] len0 (fun m v7 wr => ∃ k : Nat, v7 = .int .i64 (k : Int) ∧ k + m = len0 ∧ Toks w.heap.size K T len0 len1 k wr ∧ Below w.heap.size w wr ∧ wr.heap.size = w.heap.size + 1)
  case atStart => exact ⟨0, rfl, by omega, ⟨C, hp_alloc_new _ _, hC, fun j hj => by omega⟩, (Below.refl _ _).alloc (Nat.le_refl _) _, hp_alloc_size _ _⟩
  case round =>
    obtain ⟨k, rfl, hk, ht, hb, hsz⟩ := hrel
    have HK := Hid.intro hk
    have HX := Hid.intro (And.intro ht (And.intro hb hsz))
    clear hk
    by_cases hlt : k < len0
    · obtain ⟨b, off, rfl, hbB, hc⟩ := h0.2 (by omega)
      have hck : wr.cell? ⟨b, off + k, none⟩ = some (.int .u8 (K k : Int)) := (hb.cell (p := ⟨b, off + k, none⟩) (by simp; omega)).trans (hc k hlt)
      have hK := h0.1 k
      clear hc hmk
      go_upto_if 26 with fail
      go_cut [9] (fun v9 w' => v9 = .int .u8 (kindOf (K k) : Int) ∧ wr = w')
      case first =>
        by_cases h2 : K k % 2 = 1
        · have HC := Hid.intro (p := kindOf (K k) = _) (by unfold kindOf; rw [if_pos h2])
          go_wp2_with fail
          go_meet
          case rel => exact ⟨by rw [HC.out]; go_num, rfl⟩
        · have HC := Hid.intro (p := kindOf (K k) = _) (by unfold kindOf; rw [if_neg h2])
          go_wp2_with fail
          go_meet
          case rel => exact ⟨by rw [HC.out]; go_num, rfl⟩
      case rest =>
        obtain ⟨rfl, rfl⟩ := hcut
        go_upto_if 36 with fail
        go_cut [10] (fun v10 w' => v10 = .string (textAt len1 T k) ∧ wr = w')
        case first =>
          by_cases h2 : k < len1
          · obtain ⟨b1, off1, rfl, hbB1, hc1⟩ := h1.2 (by omega)
            have hck1 : wr.cell? ⟨b1, off1 + k, none⟩ = some (.int .u8 (T k : Int)) := (hb.cell (p := ⟨b1, off1 + k, none⟩) (by simp; omega)).trans (hc1 k h2)
            have HC := Hid.intro (p := textAt len1 T k = _) (by unfold textAt; rw [if_pos h2])
            have hT := h1.1 k
            clear hc1
            go_wp2_with (go_at_call 10; refine (text_any _ hT _).mono ?_; rintro e w1 ⟨rfl, rfl⟩)
            go_meet
            case rel => exact ⟨by rw [HC.out], rfl⟩
          · have HC := Hid.intro (p := textAt len1 T k = _) (by unfold textAt; rw [if_neg h2])
            go_wp2_with fail
            go_meet
            case rel => exact ⟨by rw [HC.out], rfl⟩
        case rest =>
          obtain ⟨rfl, rfl⟩ := hcut
          obtain ⟨cs, hg1, hg2, hg3⟩ := ht.row
          have hx : ∀ t, t < 3 → (∃ v, wr.cell? ⟨w.heap.size, k * 3 + t, none⟩ = some v) ∧ wr.frozen? ⟨w.heap.size, k * 3 + t, none⟩ = false := fun t h3 => by
            rw [hp_cell hg1, hp_frozen hg1]
            exact ⟨⟨_, Array.getElem?_eq_getElem (by omega)⟩, rfl⟩
          obtain ⟨⟨x0, hx0⟩, hf0⟩ := hx 0 (by omega)
          rw [Nat.add_zero] at hx0 hf0
          obtain ⟨⟨x1, hx1⟩, hf1⟩ := hx 1 (by omega)
          obtain ⟨⟨x2, hx2⟩, hf2⟩ := hx 2 (by omega)
          have R := Hid.intro (ht.step hlt hsz hb)
          clear hx hg1 hg3 ht hb hsz
          go_wp2_with fail
          go_roundg (len0 - (k + 1))
          case rel => exact ⟨k + 1, by go_num, by omega, R.out⟩
          case measure => have := HK.out; omega
    · have hkm : k = len0 := by have := HK.out; omega
      subst hkm
      go_wp2_with fail
      go_ret
      exact ⟨rfl, HX.out⟩
end Go.Proofs.Ybulkckvy
