import Derived.Test.YbulkckvyMoves
set_option linter.unusedVariables false
set_option linter.unusedSimpArgs false
namespace Go.Proofs.Ybulkckvy
open Go.RowKit
attribute [local go_sem ↓] Go.wp_at_zero Go.wp_at_succ

theorem seg_pair {w : World} {base : Nat} {A B : List Leaf} {a b : Leaf} (h : Seg w base none (A ++ a :: b :: B) none) : LeafAt w base a (lastB A none) (some b.b) ∧ LeafAt w base b (some a.b) (nextB B none) := by
  rw [seg_append] at h; exact ⟨h.2.1, h.2.2.1⟩
theorem lastB_snoc (A : List Leaf) (a : Leaf) (p : Option Nat) : lastB (A ++ [a]) p = some a.b := by
  induction A generalizing p with
  | nil => rfl
  | cons x A ih => exact ih _
theorem snoc_mid (A B : List Leaf) (a b : Leaf) : A ++ a :: b :: B = (A ++ [a]) ++ b :: B := by simp

/-- A leaf with keys has a row. -/
theorem LeafAt.some_row {w : World} {base : Nat} {l : Leaf} {p n : Option Nat} (h : LeafAt w base l p n) (hk : 0 < l.ks.length) : ∃ g cap, l.v = .slice (some ⟨g, 0, none⟩) l.ks.length cap ∧ l.ks.length ≤ cap := by
  rcases h.ents.form with ⟨_, e⟩ | ⟨g, cap, cur, e, _, _, h4, _⟩
  · rw [e] at hk; simp at hk
  · exact ⟨g, cap, e, h4⟩

/-- What the first regions of shiftRight, shiftLeft, merge read. -/
structure Pair (w : World) (base r gc cc : Nat) (A B : List Leaf) (a b : Leaf) : Prop where
  c3 : w.cell? ⟨r, 3, none⟩ = some (.slice (some ⟨gc, 0, none⟩) (A.length + 2 + B.length) cc)
  p0 : w.cell? ⟨gc, A.length, none⟩ = some (.pointer (some ⟨a.b, 0, none⟩))
  p1 : w.cell? ⟨gc, A.length + 1, none⟩ = some (.pointer (some ⟨b.b, 0, none⟩))
  la : LeafAt w base a (lastB A none) (some b.b)
  lb : LeafAt w base b (some a.b) (nextB B none)
theorem InnerG.pair {w : World} {base r : Nat} {vc vs : Value} {A B : List Leaf} {a b : Leaf} {ls' : List Leaf} {ss : List ByteArray} (h : InnerG w base r vc vs ((A ++ a :: b :: B).map (·.b)) (A ++ a :: b :: B) ss) : ∃ gc cc, vc = .slice (some ⟨gc, 0, none⟩) (A.length + 2 + B.length) cc ∧ Pair w base r gc cc A B a b := by
  have hl : ((A ++ a :: b :: B).map (·.b)).length = A.length + 2 + B.length := by simp; omega
  obtain ⟨gc, cc, hvc, _⟩ := h.ch.form (by omega)
  have hp : ∀ j (hj : j < ((A ++ a :: b :: B).map (·.b)).length), w.cell? ⟨gc, j, none⟩ = some (.pointer (some ⟨((A ++ a :: b :: B).map (·.b))[j], 0, none⟩)) := fun j hj => h.ch.cell hvc hj
  rw [hl] at hvc
  have h0 := hp A.length (by omega)
  have h1 := hp (A.length + 1) (by omega)
  obtain ⟨q1, q2⟩ := seg_pair h.seg
  refine ⟨gc, cc, hvc, ⟨by rw [h.cell3, hvc], ?_, ?_, q1, q2⟩⟩
  · rw [h0]; simp
  · rw [h1]; simp [List.getElem_append_right]

/-- The last key of a has gone to the front of b. -/
def ShiftR (w : World) (F : List Nat) (base r : Nat) (vc vs : Value) (A B : List Leaf) (a b : Leaf) (ss : List ByteArray) (w' : World) : Prop :=
  ∃ (a' b' : Leaf) (x : ByteArray), a'.b = a.b ∧ b'.b = b.b ∧ a.ks = a'.ks ++ [x] ∧ b'.ks = x :: b.ks ∧ Ev w F base r vc vs ((A ++ a :: b :: B).map (·.b)) (A ++ a' :: b' :: B) (ss.set A.length x) w'
def SR1 (w : World) (F : List Nat) (base r : Nat) (vc vs : Value) (A B : List Leaf) (a b : Leaf) (x : ByteArray) (ss : List ByteArray) (w' : World) : Prop :=
  ∃ (b' : Leaf), b'.b = b.b ∧ b'.ks = x :: b.ks ∧ Ev w F base r vc vs ((A ++ a :: b :: B).map (·.b)) (A ++ a :: b' :: B) ss w'

theorem SR1.mk {w wc W : World} {base r : Nat} {vc vs : Value} {A B : List Leaf} {a b : Leaf} {x : ByteArray} {ss : List ByteArray} (hx : Ext w wc) (h : InnerG wc base r vc vs ((A ++ a :: b :: B).map (·.b)) (A ++ a :: b :: B) ss) (hk : KeysAt wc base b (some a.b) (nextB B none) (List.take 0 b.ks ++ x :: List.drop 0 b.ks) W) :
    SR1 w (footI r vc vs (A ++ a :: b :: B)) base r vc vs A B a b x ss W := by
  obtain ⟨b', hb', hT⟩ := hk
  refine ⟨b', hT.1, by rw [hb']; simp, ?_⟩
  have hE : Ev w (footI r vc vs (A ++ a :: b :: B)) base r vc vs ((A ++ a :: b :: B).map (·.b)) (A ++ a :: b :: B) ss wc := ⟨h, Fr.of_ext hx _, fun y hy => .inl hy⟩
  rw [snoc_mid A B a b] at hE
  rw [snoc_mid A B a b'] 
  rw [snoc_mid A B a b]
  exact Ev.turn hE (by rw [lastB_snoc]; exact hT)
def SR2 (w : World) (F : List Nat) (base r : Nat) (vc vs : Value) (A B : List Leaf) (a b : Leaf) (x : ByteArray) (ss : List ByteArray) (w' : World) : Prop :=
  ∃ (a' b' : Leaf), a'.b = a.b ∧ b'.b = b.b ∧ a.ks = a'.ks ++ [x] ∧ b'.ks = x :: b.ks ∧ Ev w F base r vc vs ((A ++ a :: b :: B).map (·.b)) (A ++ a' :: b' :: B) ss w'
theorem SR2.mk {w wc W : World} {F : List Nat} {base r : Nat} {vc vs : Value} {A B : List Leaf} {a b b' : Leaf} {x : ByteArray} {ks0 : List ByteArray} {ss : List ByteArray} (hb : b'.b = b.b) (hk' : b'.ks = x :: b.ks) (hax : a.ks = ks0 ++ [x]) (h : Ev w F base r vc vs ((A ++ a :: b :: B).map (·.b)) (A ++ a :: b' :: B) ss wc)
    (hk : DelAt wc base a (lastB A none) (some b'.b) ks0.length W) : SR2 w F base r vc vs A B a b x ss W := by
  obtain ⟨a', ha', hT⟩ := hk
  refine ⟨a', b', hT.1, hb, ?_, hk', Ev.turn (B := b' :: B) h hT⟩
  rw [ha', hax]; simp
set_option maxRecDepth 100000 in
set_option maxHeartbeats 2000000 in
theorem shiftR (base r : Nat) (vc vs : Value) (A B : List Leaf) (a b : Leaf) (ss : List ByteArray) (w : World) (h : InnerG w base r vc vs ((A ++ a :: b :: B).map (·.b)) (A ++ a :: b :: B) ss) (hss : ss.length = A.length + 1 + B.length)
    (ha : 0 < a.ks.length) (ha2 : a.ks.length ≤ 64) (hb : 0 < b.ks.length) (hb2 : b.ks.length ≤ 64) (hbase : base ≤ w.heap.size) (hfew : A.length + B.length ≤ 1000) :
    Calls Yba.prog 62 #[.pointer (some ⟨r, 0, none⟩), .int .i64 (A.length : Int)] w fun e w' => e = .returned (.tuple #[]) ∧ ShiftR w (footI r vc vs (A ++ a :: b :: B)) base r vc vs A B a b ss w' := by
  obtain ⟨gc, cc, hvc, hP⟩ := h.pair (ls' := [])
  obtain ⟨ga, ca, hva, _⟩ := hP.la.some_row ha
  obtain ⟨ks0, x, hax⟩ : ∃ ks0 x, a.ks = ks0 ++ [x] := by
    obtain ⟨q, y, hq⟩ := (List.eq_nil_or_concat a.ks).resolve_left (fun e => by rw [e] at ha; simp at ha)
    exact ⟨q, y, by rw [hq, List.concat_eq_append]⟩
  have hlen : a.ks.length = ks0.length + 1 := by rw [hax]; simp
  have c3 := hP.c3
  have p0 := hP.p0
  have p1 := hP.p1
  have l3 := hP.la.cell3
  have l0 := hP.la.cell0
  rw [hva, hlen] at l0
  have HP := Hid.intro hP
  have HH := Hid.intro h
  clear hP h
  go_enter Yba.func62, Yba.ntmps62
  go_upto_region 0 with fail
  go_cut [4, 5] (fun v4 v5 w' => v4 = .pointer (some ⟨a.b, 0, none⟩) ∧ v5 = .pointer (some ⟨b.b, 0, none⟩) ∧ Ext w w')
  case first =>
    go_region
    all_goals
      go_wp2_with fail
      go_meet
      case rel => exact ⟨rfl, rfl, (Ext.refl _).drew⟩
  case rest =>
    obtain ⟨rfl, rfl, hx⟩ := hcut
    have hI := HH.out.ext hx
    have la := HP.out.la.ext hx
    have lb := HP.out.lb.ext hx
    have k3 := la.cell3
    have k0 := la.cell0
    rw [hva, hlen] at k0
    obtain ⟨gb, cb, hvb, _⟩ := lb.some_row hb
    have m0 := lb.cell0
    rw [hvb] at m0
    obtain ⟨e0, e1, e2⟩ := la.ents.cells hva (j := ks0.length) (by omega)
    have ex : a.ks[ks0.length]'(by omega) = x := by simp [hax]
    rw [ex] at e0
    have HC := Hid.intro (fun (W : World) (hxW : Ext wc W) (hbox : W.heap[wc.heap.size]? = some (.cells #[.string x, .slice none 0 0, .bool false] 81 (0, 0))) => ins_call (i := 0) lb hxW hbox (Nat.le_refl _) (Nat.zero_le _) hb2 (by have := hx.le; omega))
    have HI := Hid.intro hI
    clear hI la lb c3 p0 p1 l3 l0
    go_upto_region 3 with (go_at_call 26; refine (leaf_nil _ _ k3).mono ?_; rintro e w1 ⟨rfl, h⟩; obtain rfl := h.symm)
    rw [hvb] at HC
    have HF := Hid.intro (fun (W : World) (hk : KeysAt wc base b (some a.b) (nextB B none) (List.take 0 b.ks ++ x :: List.drop 0 b.ks) W) => SR1.mk hx HI.out hk)
    have f0 : ∀ o, (wc.alloc o).cell? ⟨b.b, 0, none⟩ = some (.slice (some ⟨gb, 0, none⟩) b.ks.length cb) := fun o => by have := (seg_pair (HI.out.ext ((Ext.refl wc).alloc o)).seg).2.cell0; rw [hvb] at this; exact this
    have hbd : (ks0.length : Int) < (ks0.length : Int) + 1 := by omega
    go_cut [] (fun w' => SR1 w (footI r vc vs (A ++ a :: b :: B)) base r vc vs A B a b x ss w')
    case first =>
      go_region_law (go_simp; go_at_call 40; refine (HC.out _ (((Ext.refl wc).alloc _).drew) (hp_alloc_new _ _)).mono ?_; rintro e w4 ⟨g, m, cap, rfl, s0, s1, R⟩; have HR := Hid.intro (HF.out _ R); clear R; rw [hvb] at s0)
      all_goals
        go_wp2_with fail
        go_meet
        case rel => exact HR.out
    case rest =>
      obtain ⟨b', hb'b, hb'k, hE⟩ := hcut
      clear k0 k3 m0 e0 e1 e2 f0 HC HF HI
      obtain ⟨qa, qb⟩ := seg_pair hE.1.seg
      have k0 := qa.cell0
      rw [hva, hlen] at k0
      have HE := Hid.intro hE
      have HC := Hid.intro (del_call (i := ks0.length) qa (Ext.refl _) hva (by omega) ha2).2
      rw [hlen] at HC
      have HF := Hid.intro (fun (W : World) (hk : DelAt wc base a (lastB A none) (some b'.b) ks0.length W) => SR2.mk (w := w) hb'b hb'k hax hE hk)
      clear hE qa qb
      go_upto_region 4 with fail
      go_cut [] (fun w' => SR2 w (footI r vc vs (A ++ a :: b :: B)) base r vc vs A B a b x ss w')
      case first =>
        go_wp2_with (go_at_call 41; refine HC.out.mono ?_; rintro e w4 ⟨m, rfl, s0, s1, R⟩; have HR := Hid.intro (HF.out _ R); clear R; rw [hlen] at s0)
        go_meet
        case rel => exact HR.out
      case rest =>
        obtain ⟨a', b'', ha'b, hb''b, ha'k, hb''k, hE⟩ := hcut
        clear k0 HC HF HE
        obtain ⟨gs, cs, hvs, _⟩ := hE.1.se.form' (by omega)
        obtain ⟨qa, qb⟩ := seg_pair hE.1.seg
        have hbl : 0 < b''.ks.length := by rw [hb''k]; simp
        obtain ⟨g2, c2, hv2, _⟩ := qb.some_row hbl
        have z0 := qb.cell0
        rw [hv2, hb''b] at z0
        have z1 := (qb.ents.cells hv2 (j := 0) hbl).1
        rw [show b''.ks[0] = x by simp [hb''k], Nat.zero_mul] at z1
        have z4 := hE.1.cell4
        subst hvs
        have hAs : A.length < ss.length := by omega
        have z5 := hE.1.se.cell rfl hAs
        obtain ⟨c9, hc9⟩ := own_ty hE.1.se (g := gs) rfl
        have z6 : wc.frozen? ⟨gs, A.length, none⟩ = false := hp_frozen hc9 _
        have hi1 : (A.length : Int) < (ss.length : Int) := by omega
        have hi2 : (0 : Int) < (b''.ks.length : Int) := by omega
        have HE := Hid.intro (Ev.sep (hE.ext ((Ext.refl wc).drew)) hAs x)
        clear hE qa qb hc9
        go_upto_region 5 with fail
        go_region
        all_goals
          go_wp2_with fail
          first | go_end0 | ((try simp only [Exit.inBlock, Exit.then]); refine bodyPost_ret (results_none rfl _ _ _) rfl ?_)
          exact ⟨rfl, a', b'', x, ha'b, hb''b, ha'k, hb''k, HE.out⟩
end Go.Proofs.Ybulkckvy
