import Derived.Test.YbulkckzsDoorApp
import Derived.Test.YbulkckzsDoorParse
set_option linter.unusedVariables false
set_option linter.unusedSimpArgs false
namespace Go.Proofs.YbulkckzsDoor
open Go.RowKit
attribute [local go_sem ↓] Go.wp_at_zero Go.wp_at_succ

def hdr (a l t : Nat) : List Nat := [a, 0, 0, 0, 0, 0, 0, 0] ++ [l, 0, 0, 0] ++ [t, 0, 0, 0]
/-- One message. -/
def enc (l t : Nat) (ds : List Nat) : List Nat := hdr (16 + ds.length) l t ++ ds ++ List.replicate (al (16 + ds.length) - (16 + ds.length)) 0
theorem enc_len (l t : Nat) (ds : List Nat) : (enc l t ds).length = al (16 + ds.length) := by
  have := al_ge (16 + ds.length)
  simp [enc, hdr]; omega
/-- Bytes that lie in a block. -/
structure DataAt (w : World) (db off : Nat) (ds : List Nat) : Prop where
  ex : ∃ D td fr, w.heap[db]? = some (.cells D td fr) ∧ ∀ j (h : j < ds.length), D[off + j]? = some (bv ds[j])
theorem DataAt.cells {w : World} {db off : Nat} {ds : List Nat} (h : DataAt w db off ds) : ∀ j (hj : j < ds.length), w.cell? ((⟨db, off, none⟩ : Addr).add j) = some (bv ds[j]) := fun j hj => by
  obtain ⟨D, td, fr, h1, h2⟩ := h.ex
  rw [Addr.add_lit, hp_cell h1]
  exact h2 j hj
theorem DataAt.gr {w w' : World} {v v' : Value} {db off : Nat} {ds : List Nat} (h : DataAt w db off ds) (hg : Gr v w v' w') (hv : v.ownBlock ≠ some db) : DataAt w' db off ds := by
  obtain ⟨D, td, fr, h1, h2⟩ := h.ex
  exact ⟨D, td, fr, hg.keep h1 hv, h2⟩
theorem DataAt.lt {w : World} {db off : Nat} {ds : List Nat} (h : DataAt w db off ds) : db < w.heap.size := by
  obtain ⟨D, td, fr, h1, h2⟩ := h.ex
  exact hp_lt h1
theorem pad_mod (n : Nat) : ∀ k, k ≤ al n - n → ((n + k) % 8 = 0 ↔ k = al n - n) := fun k hk => by unfold al at *; omega
set_option maxRecDepth 100000 in
set_option maxHeartbeats 2000000 in
theorem put_any (base l t db off c : Nat) (v : Value) (bs ds : List Nat) (w : World) (hl : l < 256) (ht : t < 256) (hds : ds.length ≤ 20) (hown : Bytes w base v bs) (hbs : bs.length ≤ 50000) (hb : base ≤ w.heap.size) (hD : DataAt w db off ds) (hne : v.ownBlock ≠ some db) :
    Calls Ybad.prog 10 #[v, .int .u32 (l : Int), .int .u32 (t : Int), .slice (some ⟨db, off, none⟩) ds.length c] w (AppRet w base v bs (enc l t ds)) := by
  obtain ⟨n, hn⟩ : ∃ n, n = 16 + ds.length := ⟨_, rfl⟩
  have hni : (16 : Int) + (ds.length : Int) = (n : Int) := by omega
  have hn36 : n ≤ 36 := by omega
  have HN := Hid.intro hn
  have A8 := Hid.intro (app64 base n v bs w (by omega) hown (by omega) hb)
  have A9 := Hid.intro (fun (x : Nat) (v' : Value) (bs' : List Nat) (W : World) (hx : x < 256) (ho : Bytes W base v' bs') (hb' : bs'.length ≤ 100000) (hs : base ≤ W.heap.size) => app32 base x v' bs' W hx ho hb' hs)
  have HD := Hid.intro hD
  clear hn hown hD
  go_enter Ybad.func10, Ybad.ntmps10
  go_upto_region 5 with (first | (go_at_call 8; refine A8.out.mono ?_; rintro e w1 ⟨v1, rfl, hb1, hg1⟩; have HB1 := Hid.intro hb1; have hs1 := hg1.fr.size; clear A8 hb1) | (go_at_call 9; refine (A9.out l v1 _ w1 hl HB1.out (by simp; omega) (by omega)).mono ?_; rintro e w2 ⟨v2, rfl, hb2, hg2⟩; have HB2 := Hid.intro hb2; have hs2 := hg2.fr.size; clear HB1 hb2) | (go_at_call 9; refine (A9.out t v2 _ w2 ht HB2.out (by simp; omega) (by omega)).mono ?_; rintro e w3 ⟨v3, rfl, hb3, hg3⟩; have HB3 := Hid.intro hb3; have hs3 := hg3.fr.size; clear HB2 hb3 A9))
  have hg := (hg1.trans hg2).trans hg3
  have hD3 := HD.out.gr hg hne
  have hne3 := hg.ne HD.out.lt hne
  obtain ⟨v4, w4, hrun, hown4, hg4⟩ := app_bytes 23 v3 _ ds ⟨db, off, none⟩ c HB3.out hD3.cells (by simp; omega) (by omega) (by omega)
  have HB4 := Hid.intro hown4
  have HG4 := Hid.intro (hg.trans hg4)
  clear hg hD3 hne3 hown4 hg4 hg1 hg2 hg3 HB3
  go_wp2_with (at_builtin; refine Lib.wpList_append_run _ rfl _ _ _ _ rfl _ _ rfl rfl _ _ hrun ?_)
  clear hrun
  go_loopg [0, 10] (al n - n) (fun m v0 v10 wr => ∃ k : Nat, v10 = .int .i64 ((n : Int) + (k : Int)) ∧ k + m = al n - n ∧ Bytes wr base v0 (bs ++ [n, 0, 0, 0, 0, 0, 0, 0] ++ [l, 0, 0, 0] ++ [t, 0, 0, 0] ++ ds ++ List.replicate k 0) ∧ Gr v w v0 wr)
  case atStart => exact ⟨0, by simp, by omega, by simpa using HB4.out, HG4.out⟩
  case round =>
    clear HB4 HG4
    obtain ⟨k, rfl, hkm, hB, hG⟩ := hrel
    have hal := al_ge n
    have hmod := pad_mod n k (by omega)
    have HKM := Hid.intro hkm
    have HB := Hid.intro hB
    have HG := Hid.intro hG
    by_cases hk : k = al n - n
    · have hq : ((n : Int) + (k : Int)) % 8 = 0 := by have := hmod.2 hk; omega
      have hn2 : Hid (n = 16 + ds.length) := HN
      clear hB hG hkm hmod
      go_wp2_with fail
      go_ret
      refine ⟨_, rfl, ?_, HG.out⟩
      have := HB.out
      rw [hk, hn2.out] at this
      simpa [enc, hdr, List.append_assoc] using this
    · have hq : ¬ ((n : Int) + (k : Int)) % 8 = 0 := by
        intro e
        exact hk (hmod.1 (by omega))
      have hz := hp_alloc_new wr (.cells #[.int .u8 0] 5)
      obtain ⟨v5, w5, hrun, hown5, hg5⟩ := app_bytes (W := wr.alloc (.cells #[.int .u8 0] 5)) 23 u0 _ [0] ⟨wr.heap.size, 0, none⟩ 1 (hB.ext ((Ext.refl wr).alloc _)) (fun j hj => by
        rw [Addr.add_lit, Nat.zero_add, hp_cell hz]
        match j, hj with
        | 0, _ => rfl) (by simp; omega) (by simp) (by have := hG.fr.size; rw [hp_alloc_size]; omega)
      have hrun' : (Builtin.append_ #[23, 23] 23 #[u0, .slice (some ⟨wr.heap.size, 0, none⟩) 1 1]).run Ybad.prog (wr.alloc (.cells #[.int .u8 0] 5)) = .ok v5 w5 := hrun
      have HR := Hid.intro (And.intro hown5 ((hG.trans (Gr.of_ext ((Ext.refl wr).alloc _))).trans hg5))
      have hk8 : k ≤ 8 := by omega
      clear hB hG hkm hmod hrun hown5 hg5 hz
      go_wp2_with (at_builtin; refine Lib.wpList_append_run _ rfl _ _ _ _ rfl _ _ rfl rfl _ _ hrun' ?_)
      go_roundg (al n - n - (k + 1))
      case measure => have := HKM.out; omega
      case rel =>
        refine ⟨k + 1, ?_, by have := HKM.out; omega, ?_, HR.out.2⟩
        · congr 1
        · have := HR.out.1
          rw [List.append_assoc] at this
          rwa [List.replicate_succ']
end Go.Proofs.YbulkckzsDoor
