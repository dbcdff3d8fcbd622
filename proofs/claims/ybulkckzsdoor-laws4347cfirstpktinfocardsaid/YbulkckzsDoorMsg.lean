import Derived.Test.YbulkckzsDoorPut
import Derived.Test.YbulkckzsDoorDest
import Derived.Laws.MakeOwn
set_option linter.unusedVariables false
set_option linter.unusedSimpArgs false
namespace Go.Proofs.YbulkckzsDoor
open Go.RowKit

/-- A message: kind, extra, address. -/
structure Msg where
  k : Nat
  e : Nat
  a : Nat → Nat
def Msg.ok (m : Msg) : Prop := m.k < 256 ∧ m.e < 256 ∧ ∀ j, m.a j < 256
def ad16 (a : Nat → Nat) : List Nat := [a 0, a 1, a 2, a 3, a 4, a 5, a 6, a 7, a 8, a 9, a 10, a 11, a 12, a 13, a 14, a 15]
/-- Its cells. -/
def mcells (m : Msg) : Array Value := #[.int .u8 (m.k : Int), .int .u8 (m.e : Int), bv (m.a 0), bv (m.a 1), bv (m.a 2), bv (m.a 3), bv (m.a 4), bv (m.a 5), bv (m.a 6), bv (m.a 7), bv (m.a 8), bv (m.a 9), bv (m.a 10), bv (m.a 11), bv (m.a 12), bv (m.a 13), bv (m.a 14), bv (m.a 15)]
def mlev (m : Msg) : Nat := match m.k % 6 with | 0 => 41 | 1 => 0 | 2 => 1 | 3 => 41 | 4 => 0 | _ => if m.e % 2 = 0 then 0 else 41
def mtyp (m : Msg) : Nat := match m.k % 6 with | 0 => 50 | 1 => 8 | 2 => 29 | 3 => 50 | 4 => 8 | _ => if m.e % 2 = 0 then 50 else 8
def mdat (m : Msg) : List Nat := match m.k % 6 with
  | 0 => ad16 m.a ++ [m.e, 0, 0, 0]
  | 1 => [m.e, 1, 0, 0, m.a 4, m.a 5, m.a 6, m.a 7, m.a 0, m.a 1, m.a 2, m.a 3]
  | 2 => (ad16 m.a).take 8
  | 3 => (ad16 m.a).take (m.e % 16)
  | 4 => (ad16 m.a).take (m.e % 12)
  | _ => if m.e % 2 = 0 then ad16 m.a else (ad16 m.a).take 12
def menc (m : Msg) : List Nat := enc (mlev m) (mtyp m) (mdat m)
def mrec (m : Msg) : Rec := ⟨16 + (mdat m).length, mlev m, mtyp m⟩
def encs : List Msg → List Nat
  | [] => []
  | m :: ms => menc m ++ encs ms
theorem encs_snoc (A : List Msg) (m : Msg) : encs (A ++ [m]) = encs A ++ menc m := by
  induction A with
  | nil => simp [encs]
  | cons x A ih => simp [encs, ih]
theorem mkind (m : Msg) : m.k % 6 = 0 ∨ m.k % 6 = 1 ∨ m.k % 6 = 2 ∨ m.k % 6 = 3 ∨ m.k % 6 = 4 ∨ m.k % 6 = 5 := by omega
theorem mrec_ok (m : Msg) : RK (mrec m) := by
  unfold RK mrec
  rcases mkind m with h | h | h | h | h | h
  · simp [mlev, mtyp, mdat, h, ad16]
  · simp [mlev, mtyp, mdat, h]
  · simp [mlev, mtyp, mdat, h, ad16]
  · simp [mlev, mtyp, mdat, h, ad16]; omega
  · simp [mlev, mtyp, mdat, h, ad16]; omega
  · by_cases he : m.e % 2 = 0
    · simp [mlev, mtyp, mdat, h, ad16, he]
    · have : m.e % 2 = 1 := by omega
      simp [mlev, mtyp, mdat, h, ad16, this]
theorem menc_len (m : Msg) : (menc m).length = al (mrec m).a := enc_len _ _ _
theorem mdat_len (m : Msg) : (mdat m).length ≤ 20 := by
  unfold mdat
  split <;> simp [ad16] <;> (try omega)
  split <;> simp
theorem encs_len (ms : List Msg) : (encs ms).length = tot (ms.map mrec) := by
  induction ms with
  | nil => rfl
  | cons m ms ih => simp [encs, tot, ih, menc_len]
theorem encs_le (ms : List Msg) : (encs ms).length ≤ 44 * ms.length := by
  induction ms with
  | nil => simp [encs]
  | cons m ms ih =>
    have h1 := menc_len m
    have h2 := mdat_len m
    have h3 := al_ge (mrec m).a
    simp only [encs, List.length_append, List.length_cons]
    unfold mrec at h1 h3
    simp only at h1 h3
    omega
theorem enc_get (l t : Nat) (ds : List Nat) (i : Nat) (hi : i < ds.length) : (enc l t ds)[16 + i]? = ds[i]? := by
  unfold enc
  rw [List.getElem?_append_left (by simp [hdr]; omega), List.getElem?_append_right (by simp [hdr])]
  congr 1
  simp [hdr]
/-- What the law wants of a message. -/
def hitV (z6 z4 : Option Addr) (m : Msg) : Option Value :=
  if m.k % 6 = 0 then some (av (be64 (m.a 0) (m.a 1) (m.a 2) (m.a 3) (m.a 4) (m.a 5) (m.a 6) (m.a 7)) (be64 (m.a 8) (m.a 9) (m.a 10) (m.a 11) (m.a 12) (m.a 13) (m.a 14) (m.a 15)) z6)
  else if m.k % 6 = 1 then some (av 0 (lo4 (m.a 0) (m.a 1) (m.a 2) (m.a 3)) z4) else none
def wantO (z6 z4 : Option Addr) (ms : List Msg) : Option Value := ms.findSome? (hitV z6 z4)
def wantV (z6 z4 : Option Addr) (ms : List Msg) : Value := (wantO z6 z4 ms).getD (av 0 0 none)
theorem dest_want (z6 z4 : Option Addr) (B : Nat → Nat) : ∀ (ms : List Msg) (o : Nat), (∀ i (h : i < (encs ms).length), B (o + i) = (encs ms)[i]) → destV B z6 z4 o (ms.map mrec) = wantV z6 z4 ms
  | [], o, h => rfl
  | m :: ms, o, h => by
    have hl := menc_len m
    have hm : ∀ i (hi : i < (menc m).length), B (o + i) = (menc m)[i] := fun i hi => by
      rw [h i (by simp [encs]; omega)]
      simp only [encs]
      rw [List.getElem_append_left hi]
    have hr : destV B z6 z4 (o + al (mrec m).a) (ms.map mrec) = wantV z6 z4 ms := dest_want z6 z4 B ms _ (fun i hi => by
      have := h (al (mrec m).a + i) (by simp [encs, hl]; omega)
      rw [← Nat.add_assoc] at this
      rw [this]
      simp only [encs]
      rw [List.getElem_append_right (by omega)]
      congr 1; omega)
    have hdat : ∀ i (hi : i < (mdat m).length), B (o + (16 + i)) = (mdat m)[i] := fun i hi => by
      have hlt : 16 + i < (menc m).length := by rw [hl]; have := al_ge (mrec m).a; simp [mrec] at this ⊢; omega
      rw [hm (16 + i) hlt]
      have e1 : (menc m)[16 + i]? = some (menc m)[16 + i] := List.getElem?_eq_getElem hlt
      have e2 : (mdat m)[i]? = some (mdat m)[i] := List.getElem?_eq_getElem hi
      have e3 : (menc m)[16 + i]? = (mdat m)[i]? := enc_get _ _ _ i hi
      rw [e1, e2] at e3
      exact Option.some.inj e3
    simp only [List.map_cons, destV]
    rcases mkind m with hk | hk | hk | hk | hk | hk
    · have h6 : hit6 (mrec m) = true := by simp [hit6, mrec, mlev, mtyp, mdat, hk, ad16]
      rw [if_pos h6]
      have hd : mdat m = ad16 m.a ++ [m.e, 0, 0, 0] := by simp [mdat, hk]
      have g : ∀ i (hi : i < 16), B (o + 16 + i) = (ad16 m.a ++ [m.e, 0, 0, 0])[i]'(by simp [ad16]; omega) := fun i hi => by
        have := hdat i (by rw [hd]; simp [ad16]; omega)
        rw [← Nat.add_assoc] at this
        rw [this]
        simp only [hd]
      have g0 := g 0 (by omega); have g1 := g 1 (by omega); have g2 := g 2 (by omega); have g3 := g 3 (by omega)
      have g4 := g 4 (by omega); have g5 := g 5 (by omega); have g6 := g 6 (by omega); have g7 := g 7 (by omega)
      have g8 := g 8 (by omega); have g9 := g 9 (by omega); have g10 := g 10 (by omega); have g11 := g 11 (by omega)
      have g12 := g 12 (by omega); have g13 := g 13 (by omega); have g14 := g 14 (by omega); have g15 := g 15 (by omega)
      simp [ad16] at g0 g1 g2 g3 g4 g5 g6 g7 g8 g9 g10 g11 g12 g13 g14 g15
      simp [wantV, wantO, hitV, hk, A6, g0, g1, g2, g3, g4, g5, g6, g7, g8, g9, g10, g11, g12, g13, g14, g15]
    · have h6 : hit6 (mrec m) = false := by simp [hit6, mrec, mlev, hk]
      have h4 : hit4 (mrec m) = true := by simp [hit4, mrec, mlev, mtyp, mdat, hk]
      rw [if_neg (by simp [h6]), if_pos h4]
      have hd : mdat m = [m.e, 1, 0, 0, m.a 4, m.a 5, m.a 6, m.a 7, m.a 0, m.a 1, m.a 2, m.a 3] := by simp [mdat, hk]
      have g : ∀ i (hi : i < 12), B (o + (16 + i)) = [m.e, 1, 0, 0, m.a 4, m.a 5, m.a 6, m.a 7, m.a 0, m.a 1, m.a 2, m.a 3][i]'(by simpa using hi) := fun i hi => by
        rw [hdat i (by rw [hd]; simpa using hi)]
        simp only [hd]
      have g8 := g 8 (by omega); have g9 := g 9 (by omega); have g10 := g 10 (by omega); have g11 := g 11 (by omega)
      simp at g8 g9 g10 g11
      simp [wantV, wantO, hitV, hk, A4, g8, g9, g10, g11, Nat.add_assoc]
    all_goals
      have h6 : hit6 (mrec m) = false := by
        simp [hit6, mrec, mlev, mtyp, mdat, hk, ad16]
        try omega
      have h4 : hit4 (mrec m) = false := by
        simp [hit4, mrec, mlev, mtyp, mdat, hk, ad16]
        try omega
      rw [if_neg (by simp [h6]), if_neg (by simp [h4]), hr]
      simp [wantV, wantO, hitV, hk]
end Go.Proofs.YbulkckzsDoor
