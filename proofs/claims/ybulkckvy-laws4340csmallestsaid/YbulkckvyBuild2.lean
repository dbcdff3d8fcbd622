import Derived.Test.YbulkckvyBuild
namespace Go.Proofs.Ybulkckvy
open Go.RowKit
attribute [local go_sem ↓] Go.wp_at_zero Go.wp_at_succ

theorem info39 : (Yba.prog.info? 39).map (fun i => (i.zero, i.size, i.bytes)) = some (some (.pointer none), 1, 8) := by kernel_rfl
theorem info9 : (Yba.prog.info? 9).map (fun i => (i.zero, i.size, i.bytes)) = some (some (.string ⟨#[]⟩), 1, 16) := by kernel_rfl

theorem make_any (T E : TypeId) (z : Value) (bytes : Nat) (hz : z.cells = #[z]) (hT : Yba.prog.underlying T = some (.slice E)) (hinfo : (Yba.prog.info? E).map (fun i => (i.zero, i.size, i.bytes)) = some (some z, 1, bytes)) (c : Int) (h0 : 0 ≤ c) (hb : (bytes : Int) * c ≤ 281474976710656) (h63 : c ≤ 9223372036854775807) :
    ∃ C : Array Value, C.size = c.toNat ∧ ∀ w, (Instr.makeSlice T (.int .i64 0) (.int .i64 c)).run Yba.prog w = .ok (.slice (some ⟨w.heap.size, 0, none⟩) 0 c.toNat) (w.alloc (.cells C E)) := by
  obtain ⟨i, hi, hzz⟩ := Option.map_eq_some_iff.1 hinfo
  simp only [Prod.mk.injEq] at hzz
  obtain ⟨hz0, hs, hby⟩ := hzz
  refine ⟨madeCells z.cells (c.toNat * i.size), ?_, fun w => ?_⟩
  · rw [hs, hz]; simp [madeCells]
  · exact run_make (P := Yba.prog) w T E i z hT hi hz0 .i64 .i64 0 c (by omega) h0 (by rw [hby]; exact hb) h63


set_option maxRecDepth 100000 in
set_option maxHeartbeats 1000000 in
theorem build_succ (H : Nat) (W : World) (a1 : Option Addr) (len1 cap1 : Nat) (hw : WidthAt W H a1 len1) (d : Nat)
    (ih : Hid (∀ (w : World) (i : Nat) (p : Option Addr), d ≤ 5 → St H W w i p → i + cnt d ≤ 10000 →
      Calls Yba.prog 24 #[.int .i64 d, .slice a1 len1 cap1, .pointer (some ⟨H, 0, none⟩), .pointer (some ⟨H + 1, 0, none⟩)] w (BuildPost H W w d i p)))
    (w : World) (i : Nat) (p : Option Addr) (hd : d + 1 ≤ 5) (hst : St H W w i p) (hi : i + (1 + 4 * cnt d) ≤ 10000) :
    Calls Yba.prog 24 #[.int .i64 (d + 1 : Nat), .slice a1 len1 cap1, .pointer (some ⟨H, 0, none⟩), .pointer (some ⟨H + 1, 0, none⟩)] w (BuildPost H W w (d + 1) i p) := by
  have hsz := hst.size
  have hci : w.cell? ⟨H, 0, none⟩ = some (.int .i64 i) := by simp [World.cell?, hst.ci]
  have hfi : w.frozen? ⟨H, 0, none⟩ = false := by simp [World.frozen?, hst.ci]
  have hd0 : (0 : Int) < (d : Int) + 1 := by omega
  have hi' : (i : Int) ≤ 10000 := by omega
  go_enter Yba.func24, Yba.ntmps24
  go_upto_if 27 with fail
  go_cut [10] (fun wd w' => ∃ m : Nat, wd = .int .i64 m ∧ 2 ≤ m ∧ m ≤ 4 ∧ w = w')
  case first =>
    by_cases hl : 0 < len1
    · obtain ⟨b, off, rfl, hb, hz⟩ := hw.2 hl
      have hlm := hw.1
      obtain ⟨z, hz1, hz2⟩ := hz (i % len1) (Nat.mod_lt _ hl)
      have hz3 : w.cell? ⟨b, off + i % len1, none⟩ = some (.int .u8 z) := (hst.bel.cell (p := ⟨b, off + i % len1, none⟩) hb).trans hz2
      clear hz hz2
      have hl' : (0 : Int) < (len1 : Int) := by omega
      have hml : (i : Int) % (len1 : Int) < (len1 : Int) := Int.emod_lt_of_pos _ hl'
      have hml0 : 0 ≤ (i : Int) % (len1 : Int) := Int.emod_nonneg _ (by omega)
      go_wp2_with fail
      go_meet
      case rel => exact ⟨2 + z % 3, by go_num, by omega, by omega, rfl⟩
    · have hl0 : len1 = 0 := by omega
      subst hl0
      go_wp2_with fail
      go_meet
      case rel => exact ⟨2, rfl, by omega, by omega, rfl⟩
  case rest =>
    obtain ⟨m, rfl, hm1, hm2, rfl⟩ := hcut
    obtain ⟨C1, hC1, hmk1⟩ := make_any 41 39 (.pointer none) 8 rfl Yba.underlying41 info39 (m : Int) (by omega) (by omega) (by omega)
    obtain ⟨C2, hC2, hmk2⟩ := make_any 42 9 (.string ⟨#[]⟩) 16 rfl Yba.underlying42 info9 ((m : Int) - 1) (by omega) (by omega) (by omega)
    go_upto_region 10 with fail
    go_cut [11] (fun v11 w' => ∃ r g s, v11 = .pointer (some ⟨r, 0, none⟩) ∧ Inv H W w m d i p r g s 0 0 w')
    case first =>
      go_region
      · go_wp2_with fail
        go_meet
        case rel => exact ⟨_, _, _, rfl, (Inv.start hst _ _ _ _ C1 C2 (by omega) (by omega) (.inl ⟨rfl, rfl, rfl, rfl⟩)).drew⟩
      · go_wp2_with fail
        go_meet
        case rel => exact ⟨_, _, _, rfl, (Inv.start hst _ _ _ _ C1 C2 (by omega) (by omega) (.inr ⟨rfl, rfl, rfl, rfl⟩)).drew⟩
    case rest =>
      obtain ⟨r, g, s, rfl, hinv⟩ := hcut
      clear hmk1 hmk2 hci hfi hC1 hC2 C1 C2
      go_wp2_with fail
      go_loopg [12] m (fun n v12 wr => ∃ k : Nat, v12 = .int .i64 k ∧ k + n = m ∧ Inv H W w m d i p r g s k (k - 1) wr)
      case atStart => exact ⟨0, rfl, by omega, hinv⟩
      case round =>
        obtain ⟨k, rfl, hk, hinv⟩ := hrel
        have HK := Hid.intro hk
        clear hk
        by_cases hlt : k < m
        · go_upto_if 59 with fail
          go_cut [] (fun w' => Inv H W w m d i p r g s k k w')
          case first =>
            cases k with
            | zero =>
              go_wp2_with fail
              go_meet
              case rel => exact hinv
            | succ j =>
              have hlr := hinv.lr
              have hsz' := hinv.size
              obtain ⟨ss, cs1, cs2⟩ := hinv.cs
              have c4 : wr.cell? ⟨r, 4, none⟩ = some (.slice (some ⟨s, 0, none⟩) j (m - 1)) := by rw [hp_cell hinv.cr]; rfl
              have hj : ∀ o : Obj, ((wr.alloc o).cell? ⟨s, 0 + j, none⟩).isSome = true ∧ (wr.alloc o).frozen? ⟨s, 0 + j, none⟩ = false := fun o => by
                have : (wr.alloc o).heap[s]? = some (.cells ss 9 (0, 0)) := by rw [hp_alloc_lt _ _ _ (by omega)]; exact cs1
                rw [hp_cell this, hp_frozen this]
                exact ⟨by rw [Array.getElem?_eq_getElem (by omega)]; rfl, rfl⟩
              have h4a : ∀ o, (wr.alloc o).cell? ⟨r, 4, none⟩ = some (.slice (some ⟨s, 0, none⟩) j (m - 1)) := fun o => by rw [hp_cell_eq (w := wr) (hp_alloc_lt _ _ _ (by simp; omega))]; exact c4
              have h4f : ∀ o, (wr.alloc o).frozen? ⟨r, 4, none⟩ = false := fun o => by rw [hp_frozen_eq (w := wr) (hp_alloc_lt _ _ _ (by simp; omega))]; exact hp_frozen hinv.cr _
              have hne : r ≠ s := by omega
              obtain ⟨i9, hi9, hz9, hs9, hb9⟩ := info_parts info9
              have HF := Hid.intro (hinv.sep (.cells #[.string ⟨#[115]⟩] 9) (.string ⟨#[115]⟩))
              have Hj := Hid.intro hj
              clear hj hinv cs1 cs2 hz9 hb9
              go_wp2_with (at_builtin; refine wpList_append1 _ rfl _ _ 42 rfl 9 i9 Yba.underlying42 hi9 hs9 s 0 j (m - 1) rfl ⟨wr.heap.size, 0, none⟩ 1 (.string ⟨#[115]⟩) rfl (by simp [Addr.add]) rfl (by omega) (Hj.out _) ?_)
              go_meet
              case rel => exact HF.out
          case rest =>
            have hinv1 := hcut.drew
            clear hcut hinv
            obtain ⟨i1, p1, hst1, hi1, hi2, hp1⟩ := hinv1.ready
            have hmb := mul_bound (c := cnt d) hlt hm2
            have hle : i1 + cnt d ≤ 10000 := by omega
            have hlr := hinv1.lr
            have hne : r ≠ g := by omega
            have hC0 := (hinv1.cells hlt (Keep.refl _ _) (Nat.le_refl _)).1
            obtain ⟨i39, hi39, hz39, hs39, hb39⟩ := info_parts info39
            have HX : Hid (Inv H W w m d i p r g s k k wc.drew ∧ ((k = 0 ∧ p1 = p) ∨ (0 < k ∧ ∃ cs c' L', wc.drew.heap[g]? = some (.cells cs 39 (0, 0)) ∧ cs[0]? = some (.pointer (some ⟨c', 0, none⟩)) ∧ Left (w.heap.size + 3) d wc.drew c' L' ∧ p1 = some (p.getD ⟨L', 0, none⟩)))) := ⟨hinv1, hp1⟩
            clear hinv1 hp1 hz39 hb39
            have hwr : IntKind.i64.wrap (d : Int) = d := by rw [IntKind.wrap_i64]; omega
            go_upto_region 16 with fail
            go_region_law (first | (refine step_append1 (by rfl) _ _ 41 (by rfl) 39 i39 Yba.underlying41 hi39 hs39 g 0 k m (by simp [Act.eval]) ⟨w2.heap.size, 0, none⟩ 1 (.pointer (some ⟨c, 0, none⟩)) (by simp [Act.eval]) (by simp [Addr.add]) rfl (by omega) (hd4 _) ?_) | (go_simp; go_at_call 24; refine (ih.out wc.drew i1 p1 (by omega) hst1 hle).mono ?_; rintro e w2 ⟨c, L, i2, rfl, hj1, hj2, hst2, hkp2, hsz2, hl2⟩; obtain ⟨hd1, hd2, hd3, hd4⟩ := HX.out.1.cells hlt hkp2 hsz2))
            all_goals
              have R := HX.out.1.child hlt (.cells #[.pointer (some ⟨c, 0, none⟩)] 39) i1 i2 p1 c L hi1 hi2 hj1 hj2 HX.out.2 hst2 hkp2 hsz2 hl2
              clear hd1 hd2 hd3 hd4 hst2 hkp2 hsz2 hl2 HX hst1 ih
              go_wp2_with fail
              go_roundg (m - (k + 1))
              case rel => exact ⟨k + 1, by go_num, by omega, R⟩
              case measure => have := HK.out; omega
        · have hkm : k = m := by have := HK.out; omega
          subst hkm
          obtain ⟨L, i', F⟩ := hinv.fin (by omega)
          clear hinv
          go_wp2_with fail
          go_ret
          exact BuildPost.mk _ L i' rfl F.1 F.2
theorem build_any (H : Nat) (W : World) (a1 : Option Addr) (len1 cap1 : Nat) (hw : WidthAt W H a1 len1) (d : Nat) :
    ∀ (w : World) (i : Nat) (p : Option Addr), d ≤ 5 → St H W w i p → i + cnt d ≤ 10000 →
    Calls Yba.prog 24 #[.int .i64 d, .slice a1 len1 cap1, .pointer (some ⟨H, 0, none⟩), .pointer (some ⟨H + 1, 0, none⟩)] w (BuildPost H W w d i p) := by
  induction d with
  | zero => exact fun w i p _ hst _ => build_zero H W a1 len1 cap1 w i p hst
  | succ d ih => exact fun w i p hd hst hi => build_succ H W a1 len1 cap1 hw d ih w i p hd hst hi
end Go.Proofs.Ybulkckvy
