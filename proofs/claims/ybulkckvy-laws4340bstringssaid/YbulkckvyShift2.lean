import Derived.Test.YbulkckvyShift
set_option linter.unusedVariables false
set_option linter.unusedSimpArgs false
namespace Go.Proofs.Ybulkckvy
open Go.RowKit
attribute [local go_sem ↓] Go.wp_at_zero Go.wp_at_succ

/-- The first key of b has gone to the end of a. -/
def ShiftL (w : World) (F : List Nat) (base r : Nat) (vc vs : Value) (A B : List Leaf) (a b : Leaf) (ss : List ByteArray) (w' : World) : Prop :=
  ∃ (a' b' : Leaf) (x y : ByteArray) (t : List ByteArray), a'.b = a.b ∧ b'.b = b.b ∧ a'.ks = a.ks ++ [x] ∧ b.ks = x :: b'.ks ∧ b'.ks = y :: t ∧ Ev w F base r vc vs ((A ++ a :: b :: B).map (·.b)) (A ++ a' :: b' :: B) (ss.set A.length y) w'
def SL1 (w : World) (F : List Nat) (base r : Nat) (vc vs : Value) (A B : List Leaf) (a b : Leaf) (ks2 : List ByteArray) (ss : List ByteArray) (w' : World) : Prop :=
  ∃ (a' : Leaf), a'.b = a.b ∧ a'.ks = a.ks ++ ks2 ∧ Ev w F base r vc vs ((A ++ a :: b :: B).map (·.b)) (A ++ a' :: b :: B) ss w'
theorem SL1.mk {w W W' : World} {base r : Nat} {vc vs : Value} {A B : List Leaf} {a b : Leaf} {ks2 : List ByteArray} {ss : List ByteArray} (hx : Ext w W) (h : InnerG W base r vc vs ((A ++ a :: b :: B).map (·.b)) (A ++ a :: b :: B) ss) (hk : KeysAt W base a (lastB A none) (some b.b) (a.ks ++ ks2) W') :
    SL1 w (footI r vc vs (A ++ a :: b :: B)) base r vc vs A B a b ks2 ss W' := by
  obtain ⟨a', ha', hT⟩ := hk
  have hE : Ev w (footI r vc vs (A ++ a :: b :: B)) base r vc vs ((A ++ a :: b :: B).map (·.b)) (A ++ a :: b :: B) ss W := ⟨h, Fr.of_ext hx _, fun y hy => .inl hy⟩
  exact ⟨a', hT.1, ha', Ev.turn (B := b :: B) hE hT⟩
def SL2 (w : World) (F : List Nat) (base r : Nat) (vc vs : Value) (A B : List Leaf) (a b : Leaf) (x : ByteArray) (ss : List ByteArray) (w' : World) : Prop :=
  ∃ (a' b' : Leaf), a'.b = a.b ∧ b'.b = b.b ∧ a'.ks = a.ks ++ [x] ∧ b.ks = x :: b'.ks ∧ Ev w F base r vc vs ((A ++ a :: b :: B).map (·.b)) (A ++ a' :: b' :: B) ss w'
theorem SL2.mk {w wc W : World} {F : List Nat} {base r : Nat} {vc vs : Value} {A B : List Leaf} {a b a' : Leaf} {x : ByteArray} {t : List ByteArray} {ss : List ByteArray} (ha : a'.b = a.b) (hk' : a'.ks = a.ks ++ [x]) (hbx : b.ks = x :: t) (h : Ev w F base r vc vs ((A ++ a :: b :: B).map (·.b)) (A ++ a' :: b :: B) ss wc)
    (hk : DelAt wc base b (some a'.b) (nextB B none) 0 W) : SL2 w F base r vc vs A B a b x ss W := by
  obtain ⟨b', hb', hT⟩ := hk
  refine ⟨a', b', ha, hT.1, hk', ?_, ?_⟩
  · rw [hb', hbx]; simp
  · rw [snoc_mid A B a' b] at h
    rw [snoc_mid A B a' b']
    exact Ev.turn h (by rw [lastB_snoc]; exact hT)

set_option maxRecDepth 100000 in
set_option maxHeartbeats 2000000 in
theorem shiftL (base r : Nat) (vc vs : Value) (A B : List Leaf) (a b : Leaf) (ss : List ByteArray) (w : World) (h : InnerG w base r vc vs ((A ++ a :: b :: B).map (·.b)) (A ++ a :: b :: B) ss) (hss : ss.length = A.length + 1 + B.length)
    (ha : 0 < a.ks.length) (ha2 : a.ks.length ≤ 64) (hb : 2 ≤ b.ks.length) (hb2 : b.ks.length ≤ 64) (hbase : base ≤ w.heap.size) (hfew : A.length + B.length ≤ 1000) :
    Calls Yba.prog 63 #[.pointer (some ⟨r, 0, none⟩), .int .i64 (A.length : Int)] w fun e w' => e = .returned (.tuple #[]) ∧ ShiftL w (footI r vc vs (A ++ a :: b :: B)) base r vc vs A B a b ss w' := by
  obtain ⟨gc, cc, hvc, hP⟩ := h.pair (ls' := [])
  obtain ⟨ga, ca, hva, _⟩ := hP.la.some_row ha
  obtain ⟨x, t, hbx⟩ : ∃ x t, b.ks = x :: t := by
    cases hq : b.ks with
    | nil => rw [hq] at hb; simp at hb
    | cons x t => exact ⟨x, t, rfl⟩
  have c3 := hP.c3
  have p0 := hP.p0
  have p1 := hP.p1
  have HP := Hid.intro hP
  have HH := Hid.intro h
  clear hP h
  go_enter Yba.func63, Yba.ntmps63
  go_upto_region 0 with fail
  go_cut [4, 5] (fun v4 v5 w' => v4 = .pointer (some ⟨a.b, 0, none⟩) ∧ v5 = .pointer (some ⟨b.b, 0, none⟩) ∧ Ext w w')
  case first =>
    go_region
    all_goals
      go_wp2_with fail
      go_meet
      case rel => exact ⟨rfl, rfl, (Ext.refl _).drew⟩
  case rest =>
    obtain ⟨rfl, rfl, hx⟩ := hcut
    have hI := HH.out.ext hx
    have la := HP.out.la.ext hx
    have lb := HP.out.lb.ext hx
    have k3 := la.cell3
    have k0 := la.cell0
    rw [hva] at k0
    obtain ⟨gb, cb, hvb, _⟩ := lb.some_row (by omega)
    have m0 := lb.cell0
    rw [hvb] at m0
    obtain ⟨e0, e1, e2⟩ := lb.ents.cells hvb (j := 0) (by omega)
    rw [show b.ks[0]'(by omega) = x by simp [hbx], Nat.zero_mul] at e0
    rw [Nat.zero_mul] at e1 e2
    have xA : Ext wc (wc.alloc (.cells #[.string x, .slice none 0 0, .bool false] 81)).drew := ((Ext.refl wc).alloc _).drew
    obtain ⟨g, m, cap, w4, hrun, s0, s1, R⟩ := app_call (ty := 40) (ks2 := [x]) (ad := ⟨wc.heap.size, 0, none⟩) (c := 1) (la.ext xA) (by simp) (fun j u hj => by
      rw [Addr.add_lit, Nat.zero_add, hp_cell (show (wc.alloc (.cells #[.string x, .slice none 0 0, .bool false] 81)).drew.heap[wc.heap.size]? = some (.cells #[.string x, .slice none 0 0, .bool false] 81 (0, 0)) from hp_alloc_new _ _)]
      simpa [entsC] using hj) ha2 (by simp) (by have := hx.le; have := xA.le; omega)
    have R' := SL1.mk (hx.trans xA) (hI.ext xA) R
    have HR := Hid.intro R'
    have f0 : ∀ o, (wc.alloc o).cell? ⟨a.b, 0, none⟩ = some (.slice (some ⟨ga, 0, none⟩) a.ks.length ca) := fun o => by have := (la.ext ((Ext.refl wc).alloc o)).cell0; rw [hva] at this; exact this
    rw [hva] at hrun s0
    have HBX := Hid.intro hbx
    clear R R' hI la lb c3 p0 p1 hbx
    have hbd : 0 < b.ks.length := by omega
    go_upto_region 2 with (go_at_call 26; refine (leaf_nil _ _ k3).mono ?_; rintro e w1 ⟨rfl, h⟩; obtain rfl := h.symm)
    go_cut [] (fun w' => SL1 w (footI r vc vs (A ++ a :: b :: B)) base r vc vs A B a b [x] ss w')
    case first =>
      go_region_law (refine step_append_run (by rfl) _ _ 40 40 (by rfl) _ _ (by simp [Act.eval]) (by simp [Act.eval]) hrun ?_)
      all_goals
        go_wp2_with fail
        go_meet
        case rel => exact HR.out
    case rest =>
      obtain ⟨a', ha'b, ha'k, hE⟩ := hcut
      clear k0 k3 m0 e0 e1 e2 f0 s0 s1 hrun HR
      obtain ⟨qa, qb⟩ := seg_pair hE.1.seg
      have m0 := qb.cell0
      rw [hvb] at m0
      have HC : Hid (Calls Yba.prog 41 #[.slice (some ⟨gb, 0, none⟩) b.ks.length cb, .int .i64 0, .int .i64 1] wc (DelRet wc base b (some a'.b) (nextB B none) 0 gb cb)) := Hid.intro (del_call (i := 0) qb (Ext.refl _) hvb (by omega) hb2).2
      have HF := Hid.intro (fun (W : World) (hk : DelAt wc base b (some a'.b) (nextB B none) 0 W) => SL2.mk (w := w) ha'b ha'k HBX.out hE hk)
      clear hE qa qb
      go_upto_region 3 with fail
      go_cut [] (fun w' => SL2 w (footI r vc vs (A ++ a :: b :: B)) base r vc vs A B a b x ss w')
      case first =>
        go_wp2_with (go_at_call 41; refine HC.out.mono ?_; rintro e w4 ⟨m, rfl, s0, s1, R⟩; have HR := Hid.intro (HF.out _ R); clear R)
        go_meet
        case rel => exact HR.out
      case rest =>
        obtain ⟨a'', b'', ha'b, hb''b, ha'k, hb''k, hE⟩ := hcut
        clear m0 HC HF
        obtain ⟨gs, cs, hvs, _⟩ := hE.1.se.form' (by omega)
        obtain ⟨qa, qb⟩ := seg_pair hE.1.seg
        have hbl : 0 < b''.ks.length := by rw [hb''k] at hb; simp at hb; omega
        obtain ⟨y, t', hy⟩ : ∃ y t', b''.ks = y :: t' := by
          cases hq : b''.ks with
          | nil => rw [hq] at hbl; simp at hbl
          | cons y t' => exact ⟨y, t', rfl⟩
        obtain ⟨g2, c2, hv2, _⟩ := qb.some_row hbl
        have z0 := qb.cell0
        rw [hv2, hb''b] at z0
        have z1 := (qb.ents.cells hv2 (j := 0) hbl).1
        rw [show b''.ks[0] = y by simp [hy], Nat.zero_mul] at z1
        have z4 := hE.1.cell4
        subst hvs
        have hAs : A.length < ss.length := by omega
        have z5 := hE.1.se.cell rfl hAs
        obtain ⟨c9, hc9⟩ := own_ty hE.1.se (g := gs) rfl
        have z6 : wc.frozen? ⟨gs, A.length, none⟩ = false := hp_frozen hc9 _
        have hi1 : (A.length : Int) < (ss.length : Int) := by omega
        have hi2 : (0 : Int) < (b''.ks.length : Int) := by omega
        have HE := Hid.intro (Ev.sep (hE.ext ((Ext.refl wc).drew)) hAs y)
        have HY := Hid.intro hy
        have HB2 := Hid.intro hb''k
        clear hE qa qb hc9 hy hb''k
        go_upto_region 4 with fail
        go_region
        all_goals
          go_wp2_with fail
          first | go_end0 | ((try simp only [Exit.inBlock, Exit.then]); refine bodyPost_ret (results_none rfl _ _ _) rfl ?_)
          exact ⟨rfl, a'', b'', x, y, t', ha'b, hb''b, ha'k, HB2.out, HY.out, HE.out⟩
end Go.Proofs.Ybulkckvy
