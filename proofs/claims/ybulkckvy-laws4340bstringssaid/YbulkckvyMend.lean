import Derived.Test.YbulkckvyMerge2
set_option linter.unusedVariables false
set_option linter.unusedSimpArgs false
namespace Go.Proofs.Ybulkckvy
open Go.RowKit
attribute [local go_sem ↓] Go.wp_at_zero Go.wp_at_succ

theorem spare_yes {w : World} {base : Nat} {l : Leaf} {p n : Option Nat} (hl : LeafAt w base l p n) (h : 32 < l.ks.length) : Hid (Calls Yba.prog 61 #[.pointer (some ⟨l.b, 0, none⟩)] w fun e w' => e = .returned (.bool true) ∧ w' = w) := by
  have := spare_leaf base l p n w hl
  rw [decide_eq_true (by omega)] at this
  exact Hid.intro this
theorem spare_no {w : World} {base : Nat} {l : Leaf} {p n : Option Nat} (hl : LeafAt w base l p n) (h : l.ks.length ≤ 32) : Hid (Calls Yba.prog 61 #[.pointer (some ⟨l.b, 0, none⟩)] w fun e w' => e = .returned (.bool false) ∧ w' = w) := by
  have := spare_leaf base l p n w hl
  rw [decide_eq_false (by omega)] at this
  exact Hid.intro this

/-- What mend leaves. c is the leaf that lacks a key. -/
def MendPost (w : World) (F : List Nat) (base r : Nat) (P S : List Leaf) (c : Leaf) (ss : List ByteArray) (w' : World) : Prop :=
  ∃ vc vs, (∃ A p, P = A ++ [p] ∧ 32 < p.ks.length ∧ ShiftR w F base r vc vs A S p c ss w') ∨ (∃ q B, S = q :: B ∧ 32 < q.ks.length ∧ ShiftL w F base r vc vs P B c q ss w') ∨
    (∃ A p, P = A ++ [p] ∧ p.ks.length ≤ 32 ∧ MergePost w F base r A S p c ss w') ∨ (∃ q B, P = [] ∧ S = q :: B ∧ q.ks.length ≤ 32 ∧ MergePost w F base r P B c q ss w')

section
variable (base r : Nat) (vc vs : Value) (c : Leaf) (ss : List ByteArray) (w : World)

set_option maxRecDepth 100000 in
set_option maxHeartbeats 2000000 in
theorem mend1 (A S : List Leaf) (p : Leaf) (h : InnerG w base r vc vs ((A ++ p :: c :: S).map (·.b)) (A ++ p :: c :: S) ss) (hss : ss.length = A.length + 1 + S.length)
    (hp : 32 < p.ks.length) (hp2 : p.ks.length ≤ 64) (hc : c.ks.length = 31) (hbase : base ≤ w.heap.size) (hfew : A.length + S.length ≤ 1000) :
    Calls Yba.prog 49 #[.pointer (some ⟨r, 0, none⟩), .int .i64 ((A.length : Int) + 1)] w fun e w' => e = .returned (.tuple #[]) ∧ ShiftR w (footI r vc vs (A ++ p :: c :: S)) base r vc vs A S p c ss w' := by
  obtain ⟨gc, cc, hvc, hP⟩ := h.pair (ls' := [])
  have c3 := hP.c3
  have p0 := hP.p0
  have SP := spare_yes hP.la hp
  have HC := Hid.intro (shiftR base r vc vs A S p c ss w h hss (by omega) hp2 (by omega) (by omega) hbase hfew)
  have hpos : (0 : Int) < (A.length : Int) + 1 := by omega
  have hbd : (A.length : Int) < (A.length : Int) + 2 + (S.length : Int) := by omega
  clear hP h hss hvc
  go_enter Yba.func49, Yba.ntmps49
  go_wp2_with (first | (go_at_call 61; refine SP.out.mono ?_; rintro e w1 ⟨rfl, h⟩; obtain rfl := h.symm; clear SP) | (go_at_call 62; refine HC.out.mono ?_; rintro e w1 ⟨rfl, R⟩; have HR := Hid.intro R; clear R))
  first | go_end0 | ((try simp only [Exit.inBlock, Exit.then]); refine bodyPost_ret (results_none rfl _ _ _) rfl ?_)
  exact ⟨rfl, HR.out⟩
set_option maxRecDepth 100000 in
set_option maxHeartbeats 2000000 in
theorem mend2a (B : List Leaf) (q : Leaf) (h : InnerG w base r vc vs ((c :: q :: B).map (·.b)) (c :: q :: B) ss) (hss : ss.length = 1 + B.length)
    (hq : 32 < q.ks.length) (hq2 : q.ks.length ≤ 64) (hc : c.ks.length = 31) (hbase : base ≤ w.heap.size) (hfew : B.length ≤ 1000) :
    Calls Yba.prog 49 #[.pointer (some ⟨r, 0, none⟩), .int .i64 0] w fun e w' => e = .returned (.tuple #[]) ∧ ShiftL w (footI r vc vs (c :: q :: B)) base r vc vs [] B c q ss w' := by
  obtain ⟨gc, cc, hvc, hP⟩ := InnerG.pair (A := []) (ls' := []) h
  have c3 := hP.c3
  have p0 := hP.p0
  have p1 := hP.p1
  have SP := spare_yes hP.lb hq
  have HC := Hid.intro (shiftL base r vc vs [] B c q ss w h (by simpa using hss) (by omega) (by omega) (by omega) hq2 hbase (by simpa using hfew))
  simp only [List.length_nil, Nat.zero_add] at c3 p0 p1 HC
  have hlt : (1 : Int) < 2 + (B.length : Int) := by omega
  clear hP h hss hvc
  go_enter Yba.func49, Yba.ntmps49
  go_wp2_with (first | (go_at_call 61; refine SP.out.mono ?_; rintro e w1 ⟨rfl, h⟩; obtain rfl := h.symm; clear SP) | (go_at_call 63; refine HC.out.mono ?_; rintro e w1 ⟨rfl, R⟩; have HR := Hid.intro R; clear R))
  first | go_end0 | ((try simp only [Exit.inBlock, Exit.then]); refine bodyPost_ret (results_none rfl _ _ _) rfl ?_)
  exact ⟨rfl, HR.out⟩
set_option maxRecDepth 100000 in
set_option maxHeartbeats 2000000 in
theorem mend2b (A B : List Leaf) (p q : Leaf) (h : InnerG w base r vc vs ((A ++ p :: c :: q :: B).map (·.b)) (A ++ p :: c :: q :: B) ss) (hss : ss.length = A.length + 2 + B.length)
    (hp : p.ks.length ≤ 32) (hq : 32 < q.ks.length) (hq2 : q.ks.length ≤ 64) (hc : c.ks.length = 31) (hbase : base ≤ w.heap.size) (hfew : A.length + B.length ≤ 900) :
    Calls Yba.prog 49 #[.pointer (some ⟨r, 0, none⟩), .int .i64 ((A.length : Int) + 1)] w fun e w' => e = .returned (.tuple #[]) ∧ ShiftL w (footI r vc vs (A ++ p :: c :: q :: B)) base r vc vs (A ++ [p]) B c q ss w' := by
  obtain ⟨gc, cc, hvc, hP⟩ := h.pair (ls' := [])
  have c3 := hP.c3
  have p0 := hP.p0
  have SP := spare_no hP.la hp
  rw [snoc_mid A (q :: B) p c] at h
  obtain ⟨gc', cc', hvc', hQ⟩ := h.pair (ls' := [])
  rw [hvc] at hvc'
  have eg : gc = gc' := by injection hvc' with e _ _; injection e with e; injection e
  subst eg
  have p1 := hQ.p1
  have SQ := spare_yes hQ.lb hq
  have HC := Hid.intro (shiftL base r vc vs (A ++ [p]) B c q ss w h (by simp; omega) (by omega) (by omega) (by omega) hq2 hbase (by simp; omega))
  rw [← snoc_mid A (q :: B) p c] at HC
  simp only [List.length_append, List.length_cons, List.length_nil, Nat.zero_add, Int.natCast_add, Int.natCast_one] at c3 p1 HC
  have hpos : (0 : Int) < (A.length : Int) + 1 := by omega
  have hbd : (A.length : Int) < (A.length : Int) + 2 + ((B.length : Int) + 1) := by omega
  have hlt : (A.length : Int) + 1 + 1 < (A.length : Int) + 2 + ((B.length : Int) + 1) := by omega
  clear hP h hss hvc hvc' hQ
  go_enter Yba.func49, Yba.ntmps49
  go_wp2_with (first | (go_at_call 61; refine SP.out.mono ?_; rintro e w1 ⟨rfl, h⟩; obtain rfl := h.symm; clear SP) | (go_at_call 61; refine SQ.out.mono ?_; rintro e w1 ⟨rfl, h⟩; obtain rfl := h.symm) | (go_at_call 63; refine HC.out.mono ?_; rintro e w1 ⟨rfl, R⟩; have HR := Hid.intro R; clear R))
  first | go_end0 | ((try simp only [Exit.inBlock, Exit.then]); refine bodyPost_ret (results_none rfl _ _ _) rfl ?_)
  exact ⟨rfl, HR.out⟩
set_option maxRecDepth 100000 in
set_option maxHeartbeats 2000000 in
theorem mend3a (A : List Leaf) (p : Leaf) (h : InnerG w base r vc vs ((A ++ [p, c]).map (·.b)) (A ++ [p, c]) ss) (hss : ss.length = A.length + 1)
    (hp : p.ks.length ≤ 32) (hp1 : 0 < p.ks.length) (hc : c.ks.length = 31) (hbase : base ≤ w.heap.size) (hfew : A.length ≤ 1000) :
    Calls Yba.prog 49 #[.pointer (some ⟨r, 0, none⟩), .int .i64 ((A.length : Int) + 1)] w fun e w' => e = .returned (.tuple #[]) ∧ MergePost w (footI r vc vs (A ++ [p, c])) base r A [] p c ss w' := by
  obtain ⟨gc, cc, hvc, hP⟩ := h.pair (ls' := [])
  have c3 := hP.c3
  have p0 := hP.p0
  have SP := spare_no hP.la hp
  have HC := Hid.intro (merge base r vc vs A [] p c ss w h (by simpa using hss) (by omega) (by omega) (by omega) (by omega) hbase (by simpa using hfew))
  simp only [List.length_nil, Nat.add_zero] at c3
  have hpos : (0 : Int) < (A.length : Int) + 1 := by omega
  have hbd : (A.length : Int) < (A.length : Int) + 2 := by omega
  have hge : (A.length : Int) + 2 ≤ (A.length : Int) + 1 + 1 := by omega
  clear hP h hss hvc
  go_enter Yba.func49, Yba.ntmps49
  go_wp2_with (first | (go_at_call 61; refine SP.out.mono ?_; rintro e w1 ⟨rfl, h⟩; obtain rfl := h.symm; clear SP) | (go_at_call 64; refine HC.out.mono ?_; rintro e w1 ⟨rfl, R⟩; have HR := Hid.intro R; clear R))
  first | go_end0 | ((try simp only [Exit.inBlock, Exit.then]); refine bodyPost_ret (results_none rfl _ _ _) rfl ?_)
  exact ⟨rfl, HR.out⟩
set_option maxRecDepth 100000 in
set_option maxHeartbeats 2000000 in
theorem mend3b (A B : List Leaf) (p q : Leaf) (h : InnerG w base r vc vs ((A ++ p :: c :: q :: B).map (·.b)) (A ++ p :: c :: q :: B) ss) (hss : ss.length = A.length + 2 + B.length)
    (hp : p.ks.length ≤ 32) (hp1 : 0 < p.ks.length) (hq : q.ks.length ≤ 32) (hc : c.ks.length = 31) (hbase : base ≤ w.heap.size) (hfew : A.length + B.length ≤ 900) :
    Calls Yba.prog 49 #[.pointer (some ⟨r, 0, none⟩), .int .i64 ((A.length : Int) + 1)] w fun e w' => e = .returned (.tuple #[]) ∧ MergePost w (footI r vc vs (A ++ p :: c :: q :: B)) base r A (q :: B) p c ss w' := by
  obtain ⟨gc, cc, hvc, hP⟩ := h.pair (ls' := [])
  have c3 := hP.c3
  have p0 := hP.p0
  have SP := spare_no hP.la hp
  have HC := Hid.intro (merge base r vc vs A (q :: B) p c ss w h (by simp; omega) (by omega) (by omega) (by omega) (by omega) hbase (by simp; omega))
  rw [snoc_mid A (q :: B) p c] at h
  obtain ⟨gc', cc', hvc', hQ⟩ := h.pair (ls' := [])
  rw [hvc] at hvc'
  have eg : gc = gc' := by injection hvc' with e _ _; injection e with e; injection e
  subst eg
  have p1 := hQ.p1
  have SQ := spare_no hQ.lb hq
  simp only [List.length_append, List.length_cons, List.length_nil, Nat.zero_add] at c3 p1
  have hpos : (0 : Int) < (A.length : Int) + 1 := by omega
  have hbd : (A.length : Int) < (A.length : Int) + 2 + ((B.length : Int) + 1) := by omega
  have hlt : (A.length : Int) + 1 + 1 < (A.length : Int) + 2 + ((B.length : Int) + 1) := by omega
  clear hP h hss hvc hvc' hQ
  go_enter Yba.func49, Yba.ntmps49
  go_wp2_with (first | (go_at_call 61; refine SP.out.mono ?_; rintro e w1 ⟨rfl, h⟩; obtain rfl := h.symm; clear SP) | (go_at_call 61; refine SQ.out.mono ?_; rintro e w1 ⟨rfl, h⟩; obtain rfl := h.symm) | (go_at_call 64; refine HC.out.mono ?_; rintro e w1 ⟨rfl, R⟩; have HR := Hid.intro R; clear R))
  first | go_end0 | ((try simp only [Exit.inBlock, Exit.then]); refine bodyPost_ret (results_none rfl _ _ _) rfl ?_)
  exact ⟨rfl, HR.out⟩
set_option maxRecDepth 100000 in
set_option maxHeartbeats 2000000 in
theorem mend4 (B : List Leaf) (q : Leaf) (h : InnerG w base r vc vs ((c :: q :: B).map (·.b)) (c :: q :: B) ss) (hss : ss.length = 1 + B.length)
    (hq : q.ks.length ≤ 32) (hq1 : 0 < q.ks.length) (hc : c.ks.length = 31) (hbase : base ≤ w.heap.size) (hfew : B.length ≤ 1000) :
    Calls Yba.prog 49 #[.pointer (some ⟨r, 0, none⟩), .int .i64 0] w fun e w' => e = .returned (.tuple #[]) ∧ MergePost w (footI r vc vs (c :: q :: B)) base r [] B c q ss w' := by
  obtain ⟨gc, cc, hvc, hP⟩ := InnerG.pair (A := []) (ls' := []) h
  have c3 := hP.c3
  have p0 := hP.p0
  have p1 := hP.p1
  have SP := spare_no hP.lb hq
  have HC := Hid.intro (merge base r vc vs [] B c q ss w h (by simpa using hss) (by omega) (by omega) (by omega) (by omega) hbase (by simpa using hfew))
  simp only [List.length_nil, Nat.zero_add] at c3 p0 p1 HC
  have hlt : (1 : Int) < 2 + (B.length : Int) := by omega
  clear hP h hss hvc
  go_enter Yba.func49, Yba.ntmps49
  go_wp2_with (first | (go_at_call 61; refine SP.out.mono ?_; rintro e w1 ⟨rfl, h⟩; obtain rfl := h.symm; clear SP) | (go_at_call 64; refine HC.out.mono ?_; rintro e w1 ⟨rfl, R⟩; have HR := Hid.intro R; clear R))
  first | go_end0 | ((try simp only [Exit.inBlock, Exit.then]); refine bodyPost_ret (results_none rfl _ _ _) rfl ?_)
  exact ⟨rfl, HR.out⟩
end
end Go.Proofs.Ybulkckvy
