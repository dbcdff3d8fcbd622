import Derived.Test.YbulkckzsDoorAddr4
import Derived.Test.YbulkckzsDoorParse
set_option linter.unusedVariables false
set_option linter.unusedSimpArgs false
namespace Go.Proofs.YbulkckzsDoor
open Go.RowKit
attribute [local go_sem ↓] Go.wp_at_zero Go.wp_at_succ

/-- The kinds of records that zzs4347cbuild lays out. -/
def RK (r : Rec) : Prop := (r.l = 41 ∧ r.t = 50 ∧ r.a = 36) ∨ (r.l = 0 ∧ r.t = 8 ∧ r.a = 28) ∨ (r.l = 1 ∧ r.t = 29 ∧ r.a = 24) ∨ (r.l = 41 ∧ r.t = 50 ∧ 16 ≤ r.a ∧ r.a < 32) ∨ (r.l = 0 ∧ r.t = 8 ∧ 16 ≤ r.a ∧ r.a < 28) ∨ (r.l = 0 ∧ r.t = 50 ∧ r.a = 32) ∨ (r.l = 41 ∧ r.t = 8 ∧ r.a = 28)
def hit6 (r : Rec) : Bool := r.l == 41 && r.t == 50 && r.a == 36
def hit4 (r : Rec) : Bool := r.l == 0 && r.t == 8 && r.a == 28
def A6 (B : Nat → Nat) (o : Nat) (z6 : Option Addr) : Value := av (be64 (B o) (B (o + 1)) (B (o + 2)) (B (o + 3)) (B (o + 4)) (B (o + 5)) (B (o + 6)) (B (o + 7))) (be64 (B (o + 8)) (B (o + 9)) (B (o + 10)) (B (o + 11)) (B (o + 12)) (B (o + 13)) (B (o + 14)) (B (o + 15))) z6
def A4 (B : Nat → Nat) (o : Nat) (z4 : Option Addr) : Value := av 0 (lo4 (B o) (B (o + 1)) (B (o + 2)) (B (o + 3))) z4
def destV (B : Nat → Nat) (z6 z4 : Option Addr) : Nat → List Rec → Value
  | _, [] => av 0 0 none
  | o, r :: rs => if hit6 r then A6 B (o + 16) z6 else if hit4 r then A4 B (o + 24) z4 else destV B z6 z4 (o + al r.a) rs
theorem rowC_len (g cap : Nat) : ∀ (A : List Rec) (o : Nat), (rowC g cap o A).length = A.length * 4
  | [], o => rfl
  | r :: A, o => by rw [rowC, List.length_append, rowC_len g cap A, List.length_cons]; simp [recC]; omega
theorem rowC_get (g cap : Nat) (done : List Rec) (r : Rec) (rest : List Rec) (j : Nat) (hj : j < 4) : (rowC g cap 0 (done ++ r :: rest))[done.length * 4 + j]? = (recC g cap (tot done) r)[j]? := by
  have e : ∀ (A : List Rec) (o : Nat), rowC g cap o (A ++ r :: rest) = rowC g cap o A ++ (recC g cap (o + tot A) r ++ rowC g cap (o + tot A + al r.a) rest) := by
    intro A
    induction A with
    | nil => intro o; simp [rowC, tot]
    | cons x A ih => intro o; simp [rowC, ih, tot, Nat.add_assoc]
  rw [e, List.getElem?_append_right (by rw [rowC_len]; omega), rowC_len, Nat.add_sub_cancel_left, List.getElem?_append_left (by simp [recC]; omega), Nat.zero_add]
theorem rec_cells {w : World} {base g cap : Nat} {v : Value} {rs : List Rec} (h : w.ownsRow base 58 4 v rs.length (rowC g cap 0 rs)) {done rest : List Rec} {r : Rec} (hd : rs = done ++ r :: rest) :
    ∃ gm cm, v = .slice (some ⟨gm, 0, none⟩) rs.length cm ∧ w.cell? ⟨gm, done.length * 4, none⟩ = some (.int .u64 (r.a : Int)) ∧ w.cell? ⟨gm, done.length * 4 + 1, none⟩ = some (.int .i32 (r.l : Int)) ∧ w.cell? ⟨gm, done.length * 4 + 2, none⟩ = some (.int .i32 (r.t : Int)) ∧ w.cell? ⟨gm, done.length * 4 + 3, none⟩ = some (.slice (dataP g (tot done) (cap - tot done)) (r.a - 16) (cap - tot done - 16)) := by
  have hlen : done.length < rs.length := by rw [hd]; simp
  rcases h.2 with ⟨_, q⟩ | ⟨gm, cm, cur, rfl, _, hc, _, _, _, ht⟩
  · omega
  · have hget : ∀ j, j < 4 → w.cell? ⟨gm, done.length * 4 + j, none⟩ = (recC g cap (tot done) r)[j]? := fun j hj => by
      rw [hp_cell hc, ← Array.getElem?_toList, ← rowC_get g cap done r rest j hj, ← hd, ← ht, List.getElem?_take_of_lt (by omega)]
    exact ⟨gm, cm, rfl, hget 0 (by omega), hget 1 (by omega), hget 2 (by omega), hget 3 (by omega)⟩
theorem own_val {w : World} {base n : Nat} {v : Value} {xs : List Value} (h : w.ownsRow base 58 4 v n xs) : ∃ a c, v = .slice a n c := by
  rcases h.2 with ⟨q, e⟩ | ⟨gm, cm, cur, q, _⟩
  · exact ⟨none, 0, by rw [q, e]⟩
  · exact ⟨_, cm, q⟩
theorem lay_kinds {C : Array Value} : ∀ (rs : List Rec) (o : Nat), (∀ r ∈ rs, RK r) → True := fun _ _ _ => trivial
set_option maxRecDepth 100000 in
set_option maxHeartbeats 4000000 in
theorem dest_some (g N cap tl : Nat) (rs : List Rec) (C : Array Value) (B : Nat → Nat) (z6 z4 : Option Addr) (w : World) (hg : w.heap[g]? = some (.cells C 5 (0, 0))) (hL : Lay C 0 rs) (hN : N = tot rs + tl) (htl : tl < 16) (hcap : N ≤ cap) (hcm : N ≤ 1000000) (hrs : rs.length ≤ 1000)
    (hK : ∀ r ∈ rs, RK r) (hB : ∀ j, j < N → C[j]? = some (bv (B j))) (hB2 : ∀ j, B j < 256) (h6 : w.cell? ⟨1, 0, none⟩ = some (.pointer z6)) (h4 : w.cell? ⟨2, 0, none⟩ = some (.pointer z4)) :
    Calls Ybad.prog 7 #[.slice (some ⟨g, 0, none⟩) N cap] w fun e w' => e = .returned (destV B z6 z4 0 rs) ∧ Ext w w' := by
  have xA := (Ext.refl w).alloc (.cells #[.int .u64 0, .int .u64 0, .pointer none] 31)
  have HP := Hid.intro (parse_some g N cap tl rs C (w.alloc (.cells #[.int .u64 0, .int .u64 0, .pointer none] 31)) (xA.some hg) hL hN htl hcap hcm hrs)
  have HG := Hid.intro hg
  have HN := Hid.intro hN
  have HK := Hid.intro hK
  have HB := Hid.intro (And.intro hB hB2)
  have H6 := Hid.intro h6
  have H4 := Hid.intro h4
  have HR := Hid.intro (hp_alloc_new w (.cells #[.int .u64 0, .int .u64 0, .pointer none] 31))
  clear hg hL hN hK hB hB2 h6 h4
  go_enter Ybad.func7, Ybad.ntmps7
  go_upto_region 4 with (go_at_call 13; refine HP.out.mono ?_; rintro e w1 ⟨v, rfl, hown, hx1⟩; obtain ⟨av1, cv1, hv1⟩ := own_val hown; subst hv1; have HO := Hid.intro hown; clear HP hown)
  go_wp2_with fail
  go_loopg [17] rs.length (fun m v17 wr => ∃ done rest, rs = done ++ rest ∧ v17 = .int .i64 (done.length : Int) ∧ destV B z6 z4 0 rs = destV B z6 z4 (tot done) rest ∧ rest.length = m ∧ Ext w1 wr)
  case atStart => exact ⟨[], rs, rfl, rfl, rfl, rfl, Ext.refl _⟩
  case round =>
    obtain ⟨done, rest, hdr, rfl, hdv, hrm, hx⟩ := hrel
    have hr := (hx1.trans hx).some HR.out
    have r0 : wr.cell? ⟨w.heap.size, 0, none⟩ = some (.int .u64 0) := by rw [hp_cell hr]; rfl
    have r1 : wr.cell? ⟨w.heap.size, 1, none⟩ = some (.int .u64 0) := by rw [hp_cell hr]; rfl
    have r2 : wr.cell? ⟨w.heap.size, 2, none⟩ = some (.pointer none) := by rw [hp_cell hr]; rfl
    have rf := fun o => hp_frozen hr o
    have HRR := Hid.intro hr
    have HRM := Hid.intro hrm
    have HDV := Hid.intro hdv
    clear hr hrm hdv
    have hdl : done.length ≤ 1000 := by have := congrArg List.length hdr; simp at this; omega
    cases rest with
    | nil =>
      have he : ¬ (done.length : Int) < (rs.length : Int) := by rw [hdr]; simp
      clear hdr
      go_wp2_with fail
      (try simp only [Exit.inBlock, Exit.then])
      obtain ⟨hput, hfr⟩ := addr_put (W := wr) 0 0 none HRR.out rfl
      have p0 := hp_cell hput 0
      have p1 := hp_cell hput 1
      have p2 := hp_cell hput 2
      refine bodyPost_ret (v := av (0) (0) (none)) (by unfold av; simp [results, Ybad.results7, go_sem, p0, p1, p2]; try rfl) rfl ?_
      rw [HDV.out]
      exact ⟨rfl, (((xA.trans (hx1.trans hx)).set _ _ (Nat.le_refl _)).set _ _ (Nat.le_refl _)).set _ _ (Nat.le_refl _)⟩
    | cons r rest =>
      obtain ⟨gm, cm, hvm, hcs⟩ := rec_cells (owns_ext HO.out hx) hdr
      injection hvm with e1 _ e3
      subst e1
      subst e3
      obtain ⟨o, ho⟩ : ∃ o, tot done = o := ⟨_, rfl⟩
      have htot : tot rs = o + (al r.a + tot rest) := by rw [hdr, tot_append, ho]; rfl
      have hal := al_ge r.a
      have hNN := HN.out
      have hdv := HDV.out
      rw [ho] at hdv hcs
      have hkr := HK.out r (by rw [hdr]; simp)
      have hlt : (done.length : Int) < (rs.length : Int) := by rw [hdr]; simp; omega
      have hl0 : (0 : Int) ≤ (done.length : Int) := by omega
      have HD2 : Hid (rs = (done ++ [r]) ++ rest) := Hid.intro (by rw [hdr]; simp)
      have HLEN : Hid (((done ++ [r]).length : Int) = (done.length : Int) + 1) := Hid.intro (by simp)
      have HNX : Hid (hit6 r = false → hit4 r = false → destV B z6 z4 0 rs = destV B z6 z4 (tot (done ++ [r])) rest) := Hid.intro (fun q6 q4 => by
        rw [hdv, tot_append, ho]; simp [destV, q6, q4, tot])
      obtain ⟨c0, c1, c2, c3⟩ := hcs
      rcases hkr with ⟨k1, k2, k3⟩ | ⟨k1, k2, k3⟩ | ⟨k1, k2, k3⟩ | ⟨k1, k2, k3, k4⟩ | ⟨k1, k2, k3, k4⟩ | ⟨k1, k2, k3⟩ | ⟨k1, k2, k3⟩
      · -- an IPv6 pktinfo
        rw [k1] at c1; rw [k2] at c2; rw [k3] at c0 c3
        rw [k3] at htot hal
        have hcp : dataP g o (cap - o) = some ⟨g, o + 16, none⟩ := by unfold dataP; rw [if_neg (by omega)]
        rw [hcp] at c3
        obtain ⟨p, hp⟩ : ∃ p, o + 16 = p := ⟨_, rfl⟩
        rw [hp] at c3
        obtain ⟨cc, hcc⟩ : ∃ cc, cap - o - 16 = cc := ⟨_, rfl⟩
        have hcc16 : 20 ≤ cc := by omega
        have hcci : (16 : Int) ≤ (cc : Int) := by omega
        have har : ∀ W, (Instr.arrayAt 43 (.slice (some ⟨g, p, none⟩) 16 cc)).run Ybad.prog W = .ok (.pointer (some ⟨g, p, none⟩)) W := fun W => by simp [Instr.arrayAt, run_underlying Ybad.underlying43]
        rw [hcc] at c3
        clear hcc
        have hgw : ∀ W, Ext wr W → W.heap[g]? = some (.cells C 5 (0, 0)) := fun W hW => hW.some ((hx1.trans hx).some (xA.some HG.out))
        have hgc : ∀ W, Ext wr W → ∀ j, j < 16 → W.cell? ⟨g, p + j, none⟩ = some (bv (B (p + j))) := fun W hW j hj => by
          rw [hp_cell (hgw W hW)]; exact HB.out.1 _ (by omega)
        have HA : ∀ o', (wr.alloc o').cell? ⟨g, p, none⟩ = some (bv (B p)) := fun o' => hgc _ ((Ext.refl wr).alloc o') 0 (by omega)
        have HAj : ∀ o' j, j < 16 → (wr.alloc o').cell? ⟨g, p + j, none⟩ = some (bv (B (p + j))) := fun o' j hj => hgc _ ((Ext.refl wr).alloc o') j hj
        have g1 := fun o' => HAj o' 1 (by omega)
        have g2 := fun o' => HAj o' 2 (by omega)
        have g3 := fun o' => HAj o' 3 (by omega)
        have g4 := fun o' => HAj o' 4 (by omega)
        have g5 := fun o' => HAj o' 5 (by omega)
        have g6 := fun o' => HAj o' 6 (by omega)
        have g7 := fun o' => HAj o' 7 (by omega)
        have g8 := fun o' => HAj o' 8 (by omega)
        have g9 := fun o' => HAj o' 9 (by omega)
        have g10 := fun o' => HAj o' 10 (by omega)
        have g11 := fun o' => HAj o' 11 (by omega)
        have g12 := fun o' => HAj o' 12 (by omega)
        have g13 := fun o' => HAj o' 13 (by omega)
        have g14 := fun o' => HAj o' 14 (by omega)
        have g15 := fun o' => HAj o' 15 (by omega)
        obtain ⟨hi, hhi⟩ : ∃ hi, be64 (B p) (B (p + 1)) (B (p + 2)) (B (p + 3)) (B (p + 4)) (B (p + 5)) (B (p + 6)) (B (p + 7)) = hi := ⟨_, rfl⟩
        obtain ⟨lo, hlo⟩ : ∃ lo, be64 (B (p + 8)) (B (p + 9)) (B (p + 10)) (B (p + 11)) (B (p + 12)) (B (p + 13)) (B (p + 14)) (B (p + 15)) = lo := ⟨_, rfl⟩
        have HF := Hid.intro (fun W (hW : Ext wr W) => (show Calls Ybad.prog 11 #[.agg #[bv (B p), bv (B (p + 1)), bv (B (p + 2)), bv (B (p + 3)), bv (B (p + 4)), bv (B (p + 5)), bv (B (p + 6)), bv (B (p + 7)), bv (B (p + 8)), bv (B (p + 9)), bv (B (p + 10)), bv (B (p + 11)), bv (B (p + 12)), bv (B (p + 13)), bv (B (p + 14)), bv (B (p + 15))]] W fun e w' => e = .returned (.agg #[.int .u64 hi, .int .u64 lo, .pointer z6]) ∧ Ext W w' by
          rw [← hhi, ← hlo]
          exact from16 (fun j => B (p + j)) z6 W (fun j => HB.out.2 _) (ext_cell (xA.trans ((hx1.trans hx).trans hW)) H6.out)))
        have HDE : Hid (destV B z6 z4 0 rs = .agg #[.int .u64 hi, .int .u64 lo, .pointer z6]) := Hid.intro (by rw [hdv, ← hhi, ← hlo, ← hp]; simp [destV, hit6, k1, k2, k3, A6, av])
        clear hhi hlo hdr htot hal hNN hdv ho hgw hgc HAj hcp hp
        go_wp2_with (go_at_call 11; refine (HF.out _ ((Ext.refl wr).alloc _)).mono ?_; rintro e w4 ⟨rfl, hx4⟩; have hr4 := (((Ext.refl wr).alloc _).trans hx4).some HRR.out; have q0 : w4.cell? ⟨w.heap.size, 0, none⟩ = some (.int .u64 0) := (by rw [hp_cell hr4]; rfl); have q1 : w4.cell? ⟨w.heap.size, 1, none⟩ = some (.int .u64 0) := (by rw [hp_cell hr4]; rfl); have q2 : w4.cell? ⟨w.heap.size, 2, none⟩ = some (.pointer none) := (by rw [hp_cell hr4]; rfl); have qf := (fun o => hp_frozen hr4 o); have HR4 := Hid.intro hr4; clear hr4)
        (try simp only [Exit.inBlock, Exit.then])
        obtain ⟨hput, hfr⟩ := addr_put (W := w4) hi lo z6 HR4.out rfl
        have p0 := hp_cell hput 0
        have p1 := hp_cell hput 1
        have p2 := hp_cell hput 2
        refine bodyPost_ret (v := .agg #[.int .u64 hi, .int .u64 lo, .pointer z6]) (by simp [results, Ybad.results7, go_sem, p0, p1, p2]; try rfl) rfl ?_
        rw [HDE.out]
        exact ⟨rfl, (((((xA.trans (hx1.trans hx)).alloc _).trans hx4).set _ _ (Nat.le_refl _)).set _ _ (Nat.le_refl _)).set _ _ (Nat.le_refl _)⟩
      · -- an IPv4 pktinfo
        rw [k1] at c1; rw [k2] at c2; rw [k3] at c0 c3
        rw [k3] at htot hal
        have hcp : dataP g o (cap - o) = some ⟨g, o + 16, none⟩ := by unfold dataP; rw [if_neg (by omega)]
        rw [hcp] at c3
        obtain ⟨p, hp⟩ : ∃ p, o + 16 = p := ⟨_, rfl⟩
        rw [hp] at c3
        obtain ⟨cc, hcc⟩ : ∃ cc, cap - o - 16 = cc := ⟨_, rfl⟩
        have hcc16 : 12 ≤ cc := by omega
        have hcci : (12 : Int) ≤ (cc : Int) := by omega
        have hcc8 : ¬ cc = 8 := by omega
        have har : ∀ W, (Instr.arrayAt 49 (.slice (some ⟨g, p + 8, none⟩) 4 (cc - 8))).run Ybad.prog W = .ok (.pointer (some ⟨g, p + 8, none⟩)) W := fun W => by simp [Instr.arrayAt, run_underlying Ybad.underlying49]
        rw [hcc] at c3
        clear hcc
        have hgw : ∀ W, Ext wr W → W.heap[g]? = some (.cells C 5 (0, 0)) := fun W hW => hW.some ((hx1.trans hx).some (xA.some HG.out))
        have hgc : ∀ W, Ext wr W → ∀ j, j < 12 → W.cell? ⟨g, p + j, none⟩ = some (bv (B (p + j))) := fun W hW j hj => by
          rw [hp_cell (hgw W hW)]; exact HB.out.1 _ (by omega)
        have HAj : ∀ o' j, j < 12 → (wr.alloc o').cell? ⟨g, p + j, none⟩ = some (bv (B (p + j))) := fun o' j hj => hgc _ ((Ext.refl wr).alloc o') j hj
        have g8 := fun o' => HAj o' 8 (by omega)
        have g9 := fun o' => HAj o' 9 (by omega)
        have g10 := fun o' => HAj o' 10 (by omega)
        have g11 := fun o' => HAj o' 11 (by omega)
        obtain ⟨lo, hlo⟩ : ∃ lo, lo4 (B (p + 8)) (B (p + 9)) (B (p + 10)) (B (p + 11)) = lo := ⟨_, rfl⟩
        have HF := Hid.intro (fun W (hW : Ext wr W) => (show Calls Ybad.prog 12 #[.agg #[bv (B (p + 8)), bv (B (p + 9)), bv (B (p + 10)), bv (B (p + 11))]] W fun e w' => e = .returned (.agg #[.int .u64 0, .int .u64 lo, .pointer z4]) ∧ Ext W w' by
          rw [← hlo]
          exact from4 _ _ _ _ z4 W ⟨HB.out.2 _, HB.out.2 _, HB.out.2 _, HB.out.2 _⟩ (ext_cell (xA.trans ((hx1.trans hx).trans hW)) H4.out)))
        have HDE : Hid (destV B z6 z4 0 rs = .agg #[.int .u64 0, .int .u64 lo, .pointer z4]) := Hid.intro (by rw [hdv, ← hlo, ← hp]; simp [destV, hit6, hit4, k1, k2, k3, A4, av])
        clear hlo hdr htot hal hNN hdv ho hgw hgc HAj hcp hp
        go_wp2_with (go_at_call 12; refine (HF.out _ ((Ext.refl wr).alloc _)).mono ?_; rintro e w4 ⟨rfl, hx4⟩; have hr4 := (((Ext.refl wr).alloc _).trans hx4).some HRR.out; have q0 : w4.cell? ⟨w.heap.size, 0, none⟩ = some (.int .u64 0) := (by rw [hp_cell hr4]; rfl); have q1 : w4.cell? ⟨w.heap.size, 1, none⟩ = some (.int .u64 0) := (by rw [hp_cell hr4]; rfl); have q2 : w4.cell? ⟨w.heap.size, 2, none⟩ = some (.pointer none) := (by rw [hp_cell hr4]; rfl); have qf := (fun o => hp_frozen hr4 o); have HR4 := Hid.intro hr4; clear hr4)
        (try simp only [Exit.inBlock, Exit.then])
        obtain ⟨hput, hfr⟩ := addr_put (W := w4) 0 lo z4 HR4.out rfl
        have p0 := hp_cell hput 0
        have p1 := hp_cell hput 1
        have p2 := hp_cell hput 2
        refine bodyPost_ret (v := .agg #[.int .u64 0, .int .u64 lo, .pointer z4]) (by simp [results, Ybad.results7, go_sem, p0, p1, p2]; try rfl) rfl ?_
        rw [HDE.out]
        exact ⟨rfl, (((((xA.trans (hx1.trans hx)).alloc _).trans hx4).set _ _ (Nat.le_refl _)).set _ _ (Nat.le_refl _)).set _ _ (Nat.le_refl _)⟩
      · rw [k1] at c1; rw [k2] at c2; rw [k3] at c0 c3
        clear hdr htot hal hNN hdv ho
        go_wp2_with fail
        go_roundg rest.length
        case measure => have := HRM.out; simp only [List.length_cons] at this; omega
        case rel => exact ⟨done ++ [r], rest, HD2.out, by rw [HLEN.out], HNX.out (by simp [hit6, k1, k2, k3]) (by simp [hit4, k1, k2, k3]), rfl, hx.alloc _⟩
      · rw [k1] at c1; rw [k2] at c2
        have hq : (r.a - 16 : Nat) < 16 := by omega
        have hqi : ¬ (16 : Int) ≤ ((r.a - 16 : Nat) : Int) := by omega
        have hqd : decide ((16 : Int) ≤ ((r.a - 16 : Nat) : Int)) = false := decide_eq_false hqi
        clear hdr htot hal hNN hdv ho
        go_wp2_with fail
        go_roundg rest.length
        case measure => have := HRM.out; simp only [List.length_cons] at this; omega
        case rel => exact ⟨done ++ [r], rest, HD2.out, by rw [HLEN.out], HNX.out (by simp [hit6, k1, k2]; omega) (by simp [hit4, k1, k2]), rfl, hx.alloc _⟩
      · rw [k1] at c1; rw [k2] at c2
        have hq : (r.a - 16 : Nat) < 12 := by omega
        have hqi : ¬ (12 : Int) ≤ ((r.a - 16 : Nat) : Int) := by omega
        have hqd : decide ((12 : Int) ≤ ((r.a - 16 : Nat) : Int)) = false := decide_eq_false hqi
        clear hdr htot hal hNN hdv ho
        go_wp2_with fail
        go_roundg rest.length
        case measure => have := HRM.out; simp only [List.length_cons] at this; omega
        case rel => exact ⟨done ++ [r], rest, HD2.out, by rw [HLEN.out], HNX.out (by simp [hit6, k1, k2]) (by simp [hit4, k1, k2]; omega), rfl, hx.alloc _⟩
      · rw [k1] at c1; rw [k2] at c2; rw [k3] at c0 c3
        clear hdr htot hal hNN hdv ho
        go_wp2_with fail
        go_roundg rest.length
        case measure => have := HRM.out; simp only [List.length_cons] at this; omega
        case rel => exact ⟨done ++ [r], rest, HD2.out, by rw [HLEN.out], HNX.out (by simp [hit6, k1, k2, k3]) (by simp [hit4, k1, k2, k3]), rfl, hx.alloc _⟩
      · rw [k1] at c1; rw [k2] at c2; rw [k3] at c0 c3
        clear hdr htot hal hNN hdv ho
        go_wp2_with fail
        go_roundg rest.length
        case measure => have := HRM.out; simp only [List.length_cons] at this; omega
        case rel => exact ⟨done ++ [r], rest, HD2.out, by rw [HLEN.out], HNX.out (by simp [hit6, k1, k2, k3]) (by simp [hit4, k1, k2, k3]), rfl, hx.alloc _⟩
end Go.Proofs.YbulkckzsDoor
