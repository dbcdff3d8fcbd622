import Derived.Test.YbulkckvyMerge
set_option linter.unusedVariables false
set_option linter.unusedSimpArgs false
namespace Go.Proofs.Ybulkckvy
open Go.RowKit
attribute [local go_sem ↓] Go.wp_at_zero Go.wp_at_succ

theorem merge_ch {A B : List Leaf} {a b a' : Leaf} (h : a'.b = a.b) : ((A ++ a :: b :: B).map (·.b)).take (A.length + 1) ++ ((A ++ a :: b :: B).map (·.b)).drop (A.length + 2) = (A ++ a' :: B).map (·.b) := by
  simp [List.take_append, List.drop_append, h, List.take_of_length_le, List.drop_of_length_le]

def MG2 (w : World) (F : List Nat) (base r gc cc n : Nat) (A B : List Leaf) (a b a' : Leaf) (ss : List ByteArray) (w' : World) : Prop :=
  ∃ vs', Ev w F base r (.slice (some ⟨gc, 0, none⟩) n cc) vs' ((A ++ a :: b :: B).map (·.b)) (A ++ a' :: B) (ss.take A.length ++ ss.drop (A.length + 1)) w'
set_option maxRecDepth 100000 in
set_option maxHeartbeats 2000000 in
theorem merge (base r : Nat) (vc vs : Value) (A B : List Leaf) (a b : Leaf) (ss : List ByteArray) (w : World) (h : InnerG w base r vc vs ((A ++ a :: b :: B).map (·.b)) (A ++ a :: b :: B) ss) (hss : ss.length = A.length + 1 + B.length)
    (ha : 0 < a.ks.length) (ha2 : a.ks.length ≤ 64) (hb : 0 < b.ks.length) (hb2 : b.ks.length ≤ 64) (hbase : base ≤ w.heap.size) (hfew : A.length + B.length ≤ 1000) :
    Calls Yba.prog 64 #[.pointer (some ⟨r, 0, none⟩), .int .i64 (A.length : Int)] w fun e w' => e = .returned (.tuple #[]) ∧ MergePost w (footI r vc vs (A ++ a :: b :: B)) base r A B a b ss w' := by
  obtain ⟨gc, cc, hvc, hP⟩ := h.pair (ls' := [])
  obtain ⟨ga, ca, hva, _⟩ := hP.la.some_row ha
  obtain ⟨gs, cs, hvs, _⟩ := h.se.form' (by omega)
  have c3 := hP.c3
  have p0 := hP.p0
  have p1 := hP.p1
  have HP := Hid.intro hP
  have HH := Hid.intro h
  clear hP h
  go_enter Yba.func64, Yba.ntmps64
  go_upto_region 0 with fail
  go_cut [4, 5] (fun v4 v5 w' => v4 = .pointer (some ⟨a.b, 0, none⟩) ∧ v5 = .pointer (some ⟨b.b, 0, none⟩) ∧ Ext w w')
  case first =>
    go_region
    all_goals
      go_wp2_with fail
      go_meet
      case rel => exact ⟨rfl, rfl, (Ext.refl _).drew⟩
  case rest =>
    obtain ⟨rfl, rfl, hx⟩ := hcut
    have hI := HH.out.ext hx
    have la := HP.out.la.ext hx
    have lb := HP.out.lb.ext hx
    have k3 := la.cell3
    have k0 := la.cell0
    rw [hva] at k0
    obtain ⟨gb, cb, hvb, _⟩ := lb.some_row (by omega)
    have m0 := lb.cell0
    rw [hvb] at m0
    have xA : Ext wc wc.drew := (Ext.refl wc).drew
    have hbe := (lb.ext xA).ents
    rw [hvb] at hbe
    obtain ⟨g, m, cap, w4, hrun, s0, s1, R⟩ := app_call (ty := 40) (ks2 := b.ks) (ad := ⟨gb, 0, none⟩) (c := cb) (la.ext xA) hb hbe.all ha2 hb2 (by have := hx.le; have := xA.le; omega)
    have R' := SL1.mk (hx.trans xA) (hI.ext xA) R
    have HR := Hid.intro R'
    rw [hva] at hrun s0
    clear R R' hI la lb c3 p0 p1 hbe
    go_upto_region 2 with (go_at_call 26; refine (leaf_nil _ _ k3).mono ?_; rintro e w1 ⟨rfl, h⟩; obtain rfl := h.symm)
    go_cut [] (fun w' => SL1 w (footI r vc vs (A ++ a :: b :: B)) base r vc vs A B a b b.ks ss w')
    case first =>
      go_region_law (refine step_append_run (by rfl) _ _ 40 40 (by rfl) _ _ (by simp [Act.eval]) (by simp [Act.eval]) hrun ?_)
      all_goals
        go_wp2_with fail
        go_meet
        case rel => exact HR.out
    case rest =>
      obtain ⟨a', ha'b, ha'k, hE⟩ := hcut
      clear k0 k3 m0 s0 s1 hrun HR
      obtain ⟨F, hF⟩ : ∃ F, footI r vc vs (A ++ a :: b :: B) = F := ⟨_, rfl⟩
      rw [hF] at hE
      have HF := Hid.intro hF
      clear hF
      rw [hvc, hvs] at hE
      have hlen : ((A ++ a :: b :: B).map (·.b)).length = A.length + 2 + B.length := by simp; omega
      obtain ⟨n, hn⟩ : ∃ n, A.length + 2 + B.length = n := ⟨_, rfl⟩
      rw [hn] at hE hlen
      have hn2 : A.length + 1 < n := by omega
      have hn3 : n ≤ 2000 := by omega
      clear hn
      obtain ⟨qa, qb⟩ := seg_pair hE.1.seg
      have a2 := qa.cell2
      have b2 := qb.cell2
      have af := qa.free 2
      rw [ha'b] at a2 af
      have hAs : A.length < ss.length := by omega
      have HK := Hid.intro ha'k
      have hs2 : ss.length ≤ 2000 := by omega
      have HLEN := Hid.intro hlen
      clear ha'k hss hlen
      cases B with
      | nil =>
        have b2' : wc.cell? ⟨b.b, 2, none⟩ = some (.pointer none) := b2
        have hE2 := Ev.unlink_none hE
        rw [ha'b] at hE2
        have hne : b.b ≠ a.b := fun e => by
          have := hE.1.nd
          simp only [List.map_append, List.map_cons] at this
          rw [List.nodup_append, List.nodup_cons] at this
          exact this.2.1.1 (by simp [ha'b, e])
        have t2 : (wc.setCell ⟨a.b, 2, none⟩ (.pointer none)).cell? ⟨b.b, 2, none⟩ = some (.pointer none) := by
          rw [hp_cell_eq (w := wc) (hp_set_ne _ _ _ _ hne)]; exact b2'
        have r4 := hE2.1.cell4
        have HS := Hid.intro (Ev.del_sep hE2 hAs hs2)
        clear hE hE2 qa qb b2
        go_upto_region 8 with fail
        go_cut [] (fun w' => MG2 w F base r gc cc n A [] a b a' ss w')
        case first =>
          go_wp2_with (go_at_call 23; refine HS.out.mono ?_; rintro e w5 ⟨m5, rfl, s0, s1, R⟩; have HR := Hid.intro R; clear R)
          go_meet
          case rel => exact ⟨_, HR.out⟩
        case rest =>
          obtain ⟨vs', hE3⟩ := hcut
          clear HS
          have r3 := hE3.1.cell3
          have HS := Hid.intro (Ev.del_ch HLEN.out hE3 (i := A.length) hn2 hn3)
          clear hE3
          go_wp2_with (go_at_call 46; refine HS.out.mono ?_; rintro e w5 ⟨m5, rfl, s0, s1, R⟩; have HR := Hid.intro R; clear R)
          first | go_end0 | ((try simp only [Exit.inBlock, Exit.then]); refine bodyPost_ret (results_none rfl _ _ _) rfl ?_)
          exact ⟨rfl, a', _, vs', ha'b, HK.out, by have := HR.out; rw [merge_ch ha'b] at this; rw [HF.out]; exact this⟩
      | cons m B =>
        have b2' : wc.cell? ⟨b.b, 2, none⟩ = some (.pointer (some ⟨m.b, 0, none⟩)) := b2
        have hE2 := Ev.unlink_some hE
        rw [ha'b] at hE2
        obtain ⟨hne, hne2⟩ : b.b ≠ a.b ∧ m.b ≠ a.b := by
          have := hE.1.nd
          simp only [List.map_append, List.map_cons] at this
          rw [List.nodup_append, List.nodup_cons] at this
          exact ⟨fun e => this.2.1.1 (by simp [ha'b, e]), fun e => this.2.1.1 (by simp [ha'b, e])⟩
        have lm : ∃ p n, LeafAt wc base m p n := seg_leaf hE.1.seg m (by simp)
        obtain ⟨pm, nm, lm⟩ := lm
        have hsb := fun v : Value => hp_set_ne wc ⟨a.b, 2, none⟩ v b.b hne
        have hsm := fun v : Value => hp_set_ne wc ⟨a.b, 2, none⟩ v m.b hne2
        have t2 : (wc.setCell ⟨a.b, 2, none⟩ (.pointer (some ⟨m.b, 0, none⟩))).cell? ⟨b.b, 2, none⟩ = some (.pointer (some ⟨m.b, 0, none⟩)) := by
          rw [hp_cell_eq (w := wc) (hsb _)]; exact b2'
        have t1 : (wc.setCell ⟨a.b, 2, none⟩ (.pointer (some ⟨m.b, 0, none⟩))).cell? ⟨m.b, 1, none⟩ = some (toP pm) := by
          rw [hp_cell_eq (w := wc) (hsm _)]; exact lm.cell1
        have t3 : (wc.setCell ⟨a.b, 2, none⟩ (.pointer (some ⟨m.b, 0, none⟩))).frozen? ⟨m.b, 1, none⟩ = false := hp_frozen ((hsm _).trans lm.node) _
        have r4 := hE2.1.cell4
        have HS := Hid.intro (Ev.del_sep hE2 hAs hs2)
        clear hE hE2 qa qb b2 lm hsb hsm
        go_upto_region 8 with fail
        go_cut [] (fun w' => MG2 w F base r gc cc n A (m :: B) a b a' ss w')
        case first =>
          go_wp2_with (go_at_call 23; refine HS.out.mono ?_; rintro e w5 ⟨m5, rfl, s0, s1, R⟩; have HR := Hid.intro R; clear R)
          go_meet
          case rel => exact ⟨_, HR.out⟩
        case rest =>
          obtain ⟨vs', hE3⟩ := hcut
          clear HS
          have r3 := hE3.1.cell3
          have HS := Hid.intro (Ev.del_ch HLEN.out hE3 (i := A.length) hn2 hn3)
          clear hE3
          go_wp2_with (go_at_call 46; refine HS.out.mono ?_; rintro e w5 ⟨m5, rfl, s0, s1, R⟩; have HR := Hid.intro R; clear R)
          first | go_end0 | ((try simp only [Exit.inBlock, Exit.then]); refine bodyPost_ret (results_none rfl _ _ _) rfl ?_)
          exact ⟨rfl, a', _, vs', ha'b, HK.out, by have := HR.out; rw [merge_ch ha'b] at this; rw [HF.out]; exact this⟩
end Go.Proofs.Ybulkckvy
