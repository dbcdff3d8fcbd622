import Derived.Test.YbulkckvySmall
import Derived.Test.YbulkckvyLeftLaw
import Derived.Test.YbulkckvyZero
set_option linter.unusedVariables false
set_option linter.unusedSimpArgs false
namespace Go.Proofs.Ybulkckvy
open Go.RowKit
attribute [local go_sem ↓] Go.wp_at_zero Go.wp_at_succ

/-- u16s that came in. -/
def WordsAt (w : World) (a : Option Addr) (len : Nat) (Z : Nat → Nat) : Prop :=
  (∀ j, Z j ≤ 65535) ∧ (0 < len → ∃ b off, a = some ⟨b, off, none⟩ ∧ b < w.heap.size ∧ ∀ j, j < len → w.cell? ⟨b, off + j, none⟩ = some (.int .u16 (Z j : Int)))

/-- A leaf without entries, the first root. -/
theorem first_tree {w w1 : World} (hb : LeafPost (w.alloc (.cells Yba.zeroCells74 74)) (w.heap.size + 1) [] (.returned (.pointer (some ⟨(w.alloc (.cells Yba.zeroCells74 74)).heap.size + 1, 0, none⟩))) w1) : SInv w (w.heap.size + 1 + 1) 0 1000 w1 := by
  obtain ⟨_, hn, he, hx, hs⟩ := hb
  rw [hp_alloc_size] at hn he hs
  have hsz : w1.heap.size = w.heap.size + 3 := hs
  have hS : w1.heap[w.heap.size]? = some (.cells Yba.zeroCells74 74 (0, 0)) := hx.some (hp_alloc_new _ _)
  refine ⟨⟨[⟨w.heap.size + 1 + 1, _, []⟩], [], _, _, ⟨⟨rfl, List.Pairwise.nil, fun h => by simp [kssOf] at h, fun c hc => by simp [kssOf] at hc; simp [hc]⟩, .inl ⟨_, rfl, rfl, rfl, ⟨hn, he, by show w.heap.size + 1 ≤ w.heap.size + 1 + 1; omega⟩, rfl⟩, by omega⟩, hS, ?_⟩, ?_⟩
  · refine ⟨rfl, zero74, fun n hn => ⟨false, zero74get n hn, by simp [keysOf, kssOf]⟩, fun x hx => by simp [keysOf, kssOf] at hx, Nat.le_refl _, fun _ => rfl, fun h => by omega, fun n _ h => by simp [keysOf, kssOf] at h⟩
  · exact ((Below.refl _ _).alloc (Nat.le_refl _) _).trans (hx.below (by rw [hp_alloc_size]; omega))

/-- The first leaf of a tree, and all its leaves in a chain. -/
theorem TreeAt.left {w : World} {base root : Nat} {ls : List Leaf} {ss : List ByteArray} {F : List Nat} (h : TreeAt w base root ls ss F) : ∃ d l r, ls = l :: r ∧ Left 0 d w root l.b ∧ Seg w base none ls none ∧ (ss = [] → root = l.b ∧ r = []) := by
  rcases h.mem with ⟨l, rfl, rfl, rfl, hL, rfl⟩ | ⟨hs, vc, vs, hI, rfl⟩
  · exact ⟨0, l, [], rfl, ⟨rfl, Nat.zero_le _, hL.cell3⟩, ⟨hL, trivial⟩, fun _ => ⟨rfl, rfl⟩⟩
  · cases ls with
    | nil => have := h.good.len; simp [kssOf] at this
    | cons l r =>
      obtain ⟨g, cap, hvc, _⟩ := hI.ch.form (by simp)
      have hc := hI.ch.cell hvc (j := 0) (by simp)
      have h3 := hI.cell3
      rw [hvc] at h3
      exact ⟨1, l, r, rfl, ⟨g, _, cap, l.b, h3, by simp, by simpa using hc, Nat.zero_le _, Nat.zero_le _, ⟨rfl, Nat.zero_le _, hI.seg.1.cell3⟩⟩, hI.seg, fun e => by rw [e] at hs; simp at hs⟩
theorem Ents.val {w : World} {base : Nat} {v : Value} {ks : List ByteArray} (h : Ents w base v ks) : ∃ a cap, v = .slice a ks.length cap := by
  rcases h.form with ⟨rfl, rfl⟩ | ⟨g, cap, cur, rfl, _⟩
  · exact ⟨none, 0, rfl⟩
  · exact ⟨_, cap, rfl⟩
theorem keysOf_cons (l : Leaf) (r : List Leaf) : keysOf (l :: r) = l.ks ++ keysOf r := by simp [keysOf, kssOf]
theorem keysOf_append (A B : List Leaf) : keysOf (A ++ B) = keysOf A ++ keysOf B := by simp [keysOf, kssOf]

set_option maxRecDepth 100000 in
set_option maxHeartbeats 2000000 in
theorem small_walk (a : Option Addr) (len cap : Nat) (Z : Nat → Nat) (w : World) (hZ : WordsAt w a len Z) :
    Calls Yba.prog 8 #[.slice a len cap] w fun e w' => e = .returned (.bool true) ∧ Below w.heap.size w w' := by
  by_cases hlen : len > 1024
  · have h : (1024 : Int) < (len : Int) := by omega
    go_enter Yba.func8, Yba.ntmps8
    go_wp2_with fail
    go_ret
    exact ⟨rfl, Below.refl _ _⟩
  · have h : (len : Int) ≤ 1024 := by omega
    have hle : len ≤ 1024 := by omega
    have HN := Hid.intro (newLeaf_nil (w.heap.size + 1) (w.alloc (.cells Yba.zeroCells74 74)) (by rw [hp_alloc_size]; omega))
    clear hlen
    go_enter Yba.func8, Yba.ntmps8
    go_wp2_with (go_at_call 27; refine HN.out.mono ?_; rintro e w1 hLP; have hre := hLP.1; subst hre; have hI0 := first_tree hLP; clear hLP; rw [hp_alloc_size])
    go_loopg [4, 5, 6, 22] len (fun m v4 v5 v6 v22 wr => ∃ i root count mn : Nat, v22 = .int .i64 (i : Int) ∧ v4 = .pointer (some ⟨root, 0, none⟩) ∧ v5 = .int .i64 (count : Int) ∧ v6 = .int .i64 (mn : Int) ∧ i + m = len ∧ count ≤ i ∧ SInv w root count mn wr)
    case atStart => exact ⟨0, _, 0, 1000, rfl, rfl, rfl, rfl, by omega, by omega, hI0⟩
    case round =>
      obtain ⟨i, root, count, mn, rfl, rfl, rfl, rfl, him, hci, hI⟩ := hrel
      have HIM := Hid.intro him
      clear him hI0 HN
      by_cases hlt : i < len
      · obtain ⟨b, off, rfl, hb, hz⟩ := hZ.2 (by omega)
        have hcz : wr.cell? ⟨b, off + i, none⟩ = some (.int .u16 (Z i : Int)) := (hI.bel.cell (p := ⟨b, off + i, none⟩) hb).trans (hz i hlt)
        have hzb := hZ.1 i
        obtain ⟨ls, ss, F, C, hT, hS, hK⟩ := hI.st
        obtain ⟨n, hn⟩ : ∃ n, n = Z i % 1000 := ⟨_, rfl⟩
        have hn1 : n < 1000 := by omega
        have hni : (Z i : Int) % 1000 = (n : Int) := by omega
        clear hn hz
        obtain ⟨bb, hbb, hiff⟩ := hK.seen n hn1
        have hcs : wr.cell? ⟨w.heap.size, n, none⟩ = some (.bool bb) := by rw [hp_cell hS]; exact hbb
        have hfs : wr.frozen? ⟨w.heap.size, n, none⟩ = false := hp_frozen hS _
        cases bb with
        | true =>
          clear hiff hbb
          go_wp2_with fail
          go_roundg (len - (i + 1))
          case rel => exact ⟨i + 1, root, count, mn, by go_num, rfl, rfl, rfl, by omega, by omega, hI⟩
          case measure => have := HIM.out; omega
        | false =>
          have hk : ckey n ∉ keysOf ls := fun hm => by have := hiff.2 hm; cases this
          have hroom : (keysOf ls).length ≤ 1023 := by have := hK.len; omega
          have hge := hT.ge
          have hTs : TreeAt (wr.setCell ⟨w.heap.size, n, none⟩ (.bool true)) (w.heap.size + 1) root ls ss F :=
            hT.carry (bs := [w.heap.size]) ((Fr.refl _ _).set _ _ (.inl (by simp))) (fun x hx hF => by have := hge x hF; simp at hx; omega)
          have HCK := Hid.intro (ckey_any n (by omega) (wr.setCell ⟨w.heap.size, n, none⟩ (.bool true)))
          have HST := Hid.intro (fun (w2 w3 : World) (root' : Nat) ls' ss' F' h1 h2 h3 h4 => SInv.step1 (w2 := w2) (w3 := w3) (ls' := ls') (ss' := ss') (F' := F') hT hS hK hI.bel hn1 hk h1 root' h2 h3 h4)
          have HT := Hid.intro hTs
          have HK := Hid.intro hk
          have htop := hK.top
          clear hiff hbb hK hS hT hTs hI hk
          have hmn : (if n < mn then (n : Int) else (mn : Int)) = (minN n mn : Int) := by unfold minN; split <;> rfl
          go_upto_if 38 with fail
          go_cut [6] (fun v6 w' => v6 = .int .i64 (minN n mn : Int) ∧ wr.setCell ⟨w.heap.size, n, none⟩ (.bool true) = w')
          case first =>
            by_cases hlt2 : n < mn
            · have HX := Hid.intro (p := minN n mn = n) (by unfold minN; rw [if_pos hlt2])
              clear hmn
              go_wp2_with fail
              go_meet
              case rel => exact ⟨by rw [HX.out, hni], rfl⟩
            · have HX := Hid.intro (p := minN n mn = mn) (by unfold minN; rw [if_neg hlt2])
              clear hmn
              go_wp2_with fail
              go_meet
              case rel => exact ⟨by rw [HX.out], rfl⟩
          case rest =>
            obtain ⟨rfl, rfl⟩ := hcut
            clear hmn
            go_wp2_with (go_at_call 29; refine HCK.out.mono ?_; rintro e w2 ⟨rfl, hx2⟩)
            refine (ins_tree (w.heap.size + 1) root ls ss F (ckey n) w2 (HT.out.carry (Fr.of_ext hx2 []) (by simp)) HK.out hroom).mono ?_
            rintro e w3 hIT
            rcases hIT with ⟨rfl, ls', ss', F', hT', hk', hF', hgr⟩ | ⟨l1, l2, x, rfl, hb1, hL1, hL2, hgd, hk', hF', hgr, hnv, hne⟩
            · have R := HST.out w2 w3 root ls' ss' F' hx2 hT' hk' hF'
              clear hT' hk' hF' hgr hx2 HCK HST HT HK
              go_wp2_with fail
              go_roundg (len - (i + 1))
              case rel => exact ⟨i + 1, root, count + 1, minN n mn, by go_num, rfl, by go_num, rfl, by omega, by omega, R⟩
              case measure => have := HIM.out; omega
            · have hs2 := (hx2.trans (Ext.refl _)).le
              rw [hp_set_size] at hs2
              have hs3 := hF'.size
              have hlow := HT.out.low
              rw [hp_set_size] at hlow
              obtain ⟨F', hT', hgr'⟩ := new_root (w := w) (K := keysOf ls) (root := root) (F := F) (k := ckey n) (by omega) hL1 hL2 hgd hnv hne #[.pointer (some ⟨l1.b, 0, none⟩), .pointer (some ⟨l2.b, 0, none⟩)] #[.string x] rfl rfl
              have R := HST.out w2 _ _ [l1, l2] [x] F' hx2 hT' hk' (((hF'.alloc _).alloc _).alloc _)
              rw [hb1] at R
              have HR := Hid.intro R
              clear R hT' hk' hF' hgr hx2 HCK HST HT HK hgr' hL1 hL2 hgd hnv hne hb1
              go_wp2_with fail
              go_roundg (len - (i + 1))
              case rel => exact ⟨i + 1, _, count + 1, minN n mn, by go_num, rfl, by go_num, rfl, by omega, by omega, HR.out⟩
              case measure => have := HIM.out; omega
      · obtain ⟨ls, ss, F, C, hT, hS, hK⟩ := hI.st
        have hbel := hI.bel
        obtain ⟨d, l0, r0, hls, hleft, hseg, hroot⟩ := hT.left
        have hrising := hT.good.rising
        have hfew := hT.good.few (by have h1 := hK.len; have := HIM.out; show (keysOf ls).length ≤ 1024; omega)
        have hlo := hT.good.lo
        have hslen := hT.good.len
        subst hls
        obtain ⟨hL0, hseg0⟩ := hseg
        have hc0 := hL0.cell0
        have hc1 : wr.cell? ⟨l0.b, 1, none⟩ = some (.pointer none) := hL0.cell1
        have hc3 := hL0.cell3
        obtain ⟨a0, cap0, hv0⟩ := hL0.ents.val
        obtain ⟨i44, hi44⟩ : ∃ i, Yba.prog.info? 44 = some i := info44
        have heq := fun w a => run_eql_ptr_same (P := Yba.prog) w (tp := 39) a Yba.underlying39 hi44
        rw [hv0] at hc0
        by_cases hcount : count = 0
        · have hk0 : keysOf (l0 :: r0) = [] := List.eq_nil_of_length_eq_zero (by rw [hK.len]; exact hcount)
          have hl0 : l0.ks = [] := by rw [keysOf_cons] at hk0; exact (List.append_eq_nil_iff.1 hk0).1
          have hss : ss = [] := by
            by_cases h2 : 2 ≤ (kssOf (l0 :: r0)).length
            · have := hlo h2 l0.ks (by simp [kssOf])
              rw [hl0] at this; simp at this
            · apply List.eq_nil_of_length_eq_zero; omega
          obtain ⟨hre, _⟩ := hroot hss
          subst hre
          subst hcount
          rw [hl0] at hc0
          have HB := Hid.intro hbel
          clear hroot hss hk0 hl0 hK hS hT hlo hslen hfew hrising hL0 hseg0 hI hbel hv0
          go_wp2_with (first | (go_at_call 25; refine (firstLeaf_any _ _ _ _ _ hleft).mono ?_; rintro e w2 ⟨rfl, rfl⟩) | (go_at_call 26; refine (leaf_nil _ _ hc3).mono ?_; rintro e w2 ⟨rfl, rfl⟩))
          go_ret
          exact ⟨rfl, HB.out⟩
        · have hkf := hK.first hrising (by omega)
          have hne : 0 < l0.ks.length := by
            by_cases h2 : 2 ≤ (kssOf (l0 :: r0)).length
            · have := hlo h2 l0.ks (by simp [kssOf]); omega
            · have hr0 : r0 = [] := by
                cases r0 with
                | nil => rfl
                | cons x y => simp [kssOf] at h2
              subst hr0
              have := hK.len; simp [keysOf, kssOf] at this; omega
          have hk0 : l0.ks[0]? = some (ckey mn) := by
            rw [keysOf_cons, List.getElem?_append_left hne] at hkf; exact hkf
          obtain ⟨g, hg, hgc⟩ : ∃ g, a0 = some ⟨g, 0, none⟩ ∧ ∀ w', Ext wr w' → w'.cell? ⟨g, 0, none⟩ = some (.string (ckey mn)) := by
            rcases hL0.ents.form with ⟨_, e⟩ | ⟨g, cap, cur, e, _⟩
            · rw [e] at hne; simp at hne
            · refine ⟨g, ?_, fun w' hx => ?_⟩
              · rw [hv0] at e; injection e
              · have := ((hL0.ents.ext hx).cells e hne).1
                rw [List.getElem?_eq_getElem hne] at hk0
                injection hk0 with hk0
                rw [hk0] at this
                exact this
          subst hg
          have hmn : mn ≤ 1000 := hK.top
          have hcnt : (keysOf (l0 :: r0)).length = count := hK.len
          have hz : (((l0.ks.length : Nat) : Int) == 0) = false := beq_eq_false_iff_ne.2 (by omega)
          have hcell0 : ∀ w', Ext wr w' → w'.cell? ⟨l0.b, 0, none⟩ = some (.slice (some ⟨g, 0, none⟩) l0.ks.length cap0) := fun w' hx => by have := (hL0.ext hx).cell0; rwa [hv0] at this
          have HB := Hid.intro hbel
          have HS := Hid.intro (show Seg wr (w.heap.size + 1) none (l0 :: r0) none from ⟨hL0, hseg0⟩)
          have hfl : r0.length < 32 := by have := hfew; simp [kssOf] at this; omega
          have HC := Hid.intro hcnt
          clear hroot hK hS hT hlo hslen hfew hrising hL0 hseg0 hI hbel hv0 hkf hk0 hcnt
          have hgw := hgc wr (Ext.refl _)
          go_upto_region 25 with (first | (go_at_call 25; refine (firstLeaf_any _ _ _ _ _ hleft).mono ?_; rintro e w2 ⟨rfl, hw2⟩; obtain rfl := hw2.symm) | (go_at_call 26; refine (leaf_nil _ _ hc3).mono ?_; rintro e w2 ⟨rfl, hw2⟩; obtain rfl := hw2.symm))
          go_cut [100] (fun v100 w' => v100 = .bool false ∧ Ext wr w')
          case first =>
            go_region_law (go_simp; go_at_call 29; refine (ckey_any mn hmn _).mono ?_; rintro e w2 ⟨rfl, hx2⟩; have hx3 : Ext wr w2 := ((Ext.refl wr).drew).trans hx2; have hg2 := hgc w2 hx3; have hl2 := hcell0 w2 hx3)
            all_goals
              go_wp2_with fail
              go_meet
              case rel => exact ⟨rfl, by assumption⟩
          case rest =>
            obtain ⟨rfl, hxx⟩ := hcut
            have hsg : Seg wc (w.heap.size + 1) none (l0 :: r0) none := seg_carry (Fr.of_ext hxx []) _ _ _ HS.out (fun l hl => by simp)
            have hbl : Below w.heap.size w wc := HB.out.trans (hxx.below HB.out.size)
            have HSG := Hid.intro hsg
            have HBL := Hid.intro hbl
            clear hgc hcell0 hsg hbl hxx HB HS hgw hc0 hc1 hc3 hleft hz
            go_wp2_with fail
            go_loopg [13, 14, 15] (r0.length + 1) (fun m v13 v14 v15 w' => ∃ done rest p, l0 :: r0 = done ++ rest ∧ p = ((nextB rest none).map fun b => (⟨b, 0, none⟩ : Addr)) ∧ v13 = .int .i64 ((keysOf done).length : Int) ∧ v14 = .int .i64 (done.length : Int) ∧ v15 = .pointer p ∧ rest.length = m ∧ wc = w')
            case atStart => exact ⟨[], l0 :: r0, _, rfl, rfl, rfl, rfl, rfl, rfl, rfl⟩
            case round =>
              obtain ⟨done, rest, p, hdr, hp, rfl, rfl, rfl, hrm, rfl⟩ := hrel
              have hcnt := HC.out
              have hci2 : count ≤ 1024 := by have := HIM.out; omega
              rw [hdr, keysOf_append, List.length_append] at hcnt
              have hdl : done.length ≤ 32 := by have := congrArg List.length hdr; simp at this; omega
              cases rest with
              | nil =>
                simp only [nextB, Option.map_none] at hp
                subst hp
                have hE : ((keysOf done).length : Int) = (count : Int) := by
                  have h0 : (keysOf []).length = 0 := rfl
                  omega
                have HDR := Hid.intro hdr
                clear hdr hcnt
                go_wp2_with fail
                go_ret
                exact ⟨by simp [hE], HBL.out⟩
              | cons l rest =>
                simp only [nextB, Option.map_some] at hp
                subst hp
                have hL : ∃ p, LeafAt wc (w.heap.size + 1) l p (nextB rest none) := by
                  have := HSG.out
                  rw [hdr, seg_append] at this
                  exact ⟨_, this.2.1⟩
                obtain ⟨p, hL⟩ := hL
                have d0 := hL.cell0
                have d2 : wc.cell? ⟨l.b, 2, none⟩ = some (.pointer ((nextB rest none).map fun b => (⟨b, 0, none⟩ : Addr))) := hL.cell2
                obtain ⟨al, capl, hvl⟩ := hL.ents.val
                rw [hvl] at d0
                have hkl : (keysOf done).length + l.ks.length ≤ 1024 := by rw [keysOf_cons, List.length_append] at hcnt; omega
                have hdr2 : l0 :: r0 = (done ++ [l]) ++ rest := by rw [hdr]; simp
                have hkl2 : ((keysOf (done ++ [l])).length : Int) = ((keysOf done).length : Int) + (l.ks.length : Int) := by simp [keysOf, kssOf]
                have hdl2 : ((done ++ [l]).length : Int) = (done.length : Int) + 1 := by simp
                have HDR := Hid.intro hdr2
                clear hdr hdr2 hcnt hL hvl
                go_wp2_with fail
                go_roundg rest.length
                case measure => simp only [List.length_cons] at hrm; omega
                case rel => exact ⟨done ++ [l], rest, _, HDR.out, rfl, by rw [hkl2], by rw [hdl2], rfl, rfl, rfl⟩
end Go.Proofs.Ybulkckvy
