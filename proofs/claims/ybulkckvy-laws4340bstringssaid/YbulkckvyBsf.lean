import Derived.Test.YbulkckvyCmp
set_option linter.unusedVariables false
namespace Go.Proofs.Ybulkckvy
open Go.RowKit

/-- Nothing that was there has turned; there may be new blocks. -/
def Ext (w w' : World) : Prop := Below w.heap.size w w'
theorem Ext.refl (w : World) : Ext w w := Below.refl _ _
theorem Ext.trans {a b c : World} (h : Ext a b) (k : Ext b c) : Ext a c := Below.trans h (Below.mono k h.size)
theorem Ext.alloc {a b : World} (h : Ext a b) (o : Obj) : Ext a (b.alloc o) := Below.alloc h h.size o
theorem Ext.drewN {a b : World} (h : Ext a b) (n : Nat) : Ext a (b.drewN n) := below_drewN h n
theorem Ext.drew {a b : World} (h : Ext a b) : Ext a b.drew := Below.drew h
theorem Ext.set {a b : World} (h : Ext a b) (p : Addr) (v : Value) (hp : a.heap.size ≤ p.block) : Ext a (b.setCell p v) := Below.setCell h hp v
theorem Ext.below {a b : World} {B : Nat} (h : Ext a b) (hB : B ≤ a.heap.size) : Below B a b := Below.mono h hB
theorem Ext.block {a b : World} (h : Ext a b) {k : Nat} (hk : k < a.heap.size) : b.heap[k]? = a.heap[k]? := Below.block h k hk
theorem Ext.some {a b : World} (h : Ext a b) {k : Nat} {o : Obj} (hk : a.heap[k]? = some o) : b.heap[k]? = some o := (h.block (hp_lt hk)).trans hk
theorem Ext.le {a b : World} (h : Ext a b) : a.heap.size ≤ b.heap.size := Below.size h

theorem owns_block {w w' : World} {base : Nat} {e : TypeId} {size : Nat} {v : Value} {n : Nat} {xs : List Value} (h : w.ownsRow base e size v n xs) (hb : ∀ g o, v.ownBlock = some g → w.heap[g]? = some o → w'.heap[g]? = some o) : w'.ownsRow base e size v n xs := by
  obtain ⟨h1, h2⟩ := h
  refine ⟨h1, ?_⟩
  rcases h2 with h2 | ⟨g, cap, cur, rfl, h3, h4, h5⟩
  · exact .inl h2
  · exact .inr ⟨g, cap, cur, rfl, h3, hb g _ rfl h4, h5⟩
theorem owns_ext {w w' : World} {base : Nat} {e : TypeId} {size : Nat} {v : Value} {n : Nat} {xs : List Value} (h : w.ownsRow base e size v n xs) (hx : Ext w w') : w'.ownsRow base e size v n xs :=
  owns_block h (fun g o _ hg => hx.some hg)
theorem Ents.ext {w w' : World} {base : Nat} {v : Value} {ks : List ByteArray} (h : Ents w base v ks) (hx : Ext w w') : Ents w' base v ks := owns_ext h hx

/-- Is key among ks (rising)? -/
def foundB (key : ByteArray) (ks : List ByteArray) : Bool := match ks[pos key ks]? with
  | some x => decide (x = key)
  | none => false

theorem cmpI_lt {a b : ByteArray} (h : klt a b = true) : cmpI a b = -1 := by simp [cmpI, h]
theorem cmpI_eq (a : ByteArray) : cmpI a a = 0 := by simp [cmpI, klt_irrefl]
theorem cmpI_gt {a b : ByteArray} (h : klt a b = false) (hne : a ≠ b) : cmpI a b = 1 := by simp [cmpI, h, hne]
theorem cmpI_ge {a b : ByteArray} (h : klt a b = false) : 0 ≤ cmpI a b := by
  unfold cmpI; simp [h]; split <;> omega

/-- The end of the search: the place is found. -/
theorem pos_of {key : ByteArray} {ks : List ByteArray} {i : Nat} (hi : i ≤ ks.length) (h1 : ∀ t (h : t < ks.length), t < i → klt ks[t] key = true) (h2 : ∀ t (h : t < ks.length), i ≤ t → klt ks[t] key = false) : pos key ks = i :=
  countP_cut _ ks i hi h1 h2
theorem found_at {key : ByteArray} {ks : List ByteArray} (h : pos key ks < ks.length) : foundB key ks = decide (ks[pos key ks] = key) := by
  unfold foundB
  rw [List.getElem?_eq_getElem h]
theorem found_end {key : ByteArray} {ks : List ByteArray} (h : ¬ pos key ks < ks.length) : foundB key ks = false := by
  unfold foundB
  rw [List.getElem?_eq_none (by omega)]
theorem pos_self {ks : List ByteArray} (hr : Rising ks) {j : Nat} (hj : j < ks.length) : pos ks[j] ks = j :=
  pos_of (by omega) (fun t h ht => hr.get ht hj) (fun t h ht => by
    by_cases e : t = j
    · subst e; exact klt_irrefl _
    · exact klt_asymm (hr.get (by omega) h))
theorem found_iff {key : ByteArray} {ks : List ByteArray} (hr : Rising ks) : foundB key ks = true ↔ key ∈ ks := by
  constructor
  · intro h
    by_cases hp : pos key ks < ks.length
    · rw [found_at hp] at h
      have := of_decide_eq_true h
      rw [← this]; exact List.getElem_mem hp
    · rw [found_end hp] at h; cases h
  · intro hm
    obtain ⟨j, hj, rfl⟩ := List.getElem_of_mem hm
    have hp := pos_self hr hj
    rw [found_at (by omega)]
    simp [hp]

set_option maxRecDepth 100000 in
set_option maxHeartbeats 1000000 in
/-- A row that is not nil. -/
theorem bsf_some (base g cap : Nat) (ks : List ByteArray) (key : ByteArray) (w : World) (he : Ents w base (.slice (some ⟨g, 0, none⟩) ks.length cap) ks) (hr : Rising ks) (hn : ks.length ≤ 1000000) :
    Calls Yba.prog 38 #[.slice (some ⟨g, 0, none⟩) ks.length cap, .string key, .func (.func 39) #[] #[]] w fun e w' => e = .returned (.tuple #[.int .i64 (pos key ks : Int), .bool (foundB key ks)]) ∧ Ext w w' := by
  go_enter Yba.func38, Yba.ntmps38
  go_wp2_with fail
  go_loopg [9, 10] ks.length (fun m v9 v10 wr => ∃ i j : Nat, v9 = .int .i64 (i : Int) ∧ v10 = .int .i64 (j : Int) ∧ i + m = j ∧ j ≤ ks.length ∧ (∀ t (h : t < ks.length), t < i → klt ks[t] key = true) ∧ (∀ t (h : t < ks.length), j ≤ t → klt ks[t] key = false) ∧ Ext w wr)
  case atStart => exact ⟨0, ks.length, rfl, rfl, by omega, Nat.le_refl _, fun t h ht => by omega, fun t h ht => by omega, Ext.refl _⟩
  case round =>
    obtain ⟨i, j, rfl, rfl, hij, hj, h1, h2, hx⟩ := hrel
    have H1 := Hid.intro h1
    have H2 := Hid.intro h2
    have HM := Hid.intro hij
    clear h1 h2 hij
    by_cases hlt : i < j
    · have hmid : (i + j) / 2 < ks.length := by omega
      obtain ⟨c1, c2, c3⟩ := (he.ext hx).cells rfl hmid
      obtain ⟨x, hxk⟩ : ∃ x, ks[(i + j) / 2] = x := ⟨_, rfl⟩
      rw [hxk] at c1
      have HX := Hid.intro hxk
      clear hxk
      cases hc : klt x key with
      | true =>
        have hci := cmpI_lt hc
        go_wp2_with (go_at_call 39; refine (compareEntry _ _ _).mono ?_; rintro e w1 ⟨rfl, rfl⟩; rw [hci])
        go_roundg (j - ((i + j) / 2 + 1))
        case rel =>
          refine ⟨(i + j) / 2 + 1, j, by go_num, rfl, by omega, hj, fun t h ht => ?_, H2.out, hx.alloc _⟩
          by_cases e : t = (i + j) / 2
          · subst e; rw [HX.out]; exact hc
          · exact klt_trans (hr.get (by omega) hmid) (by rw [HX.out]; exact hc)
        case measure => have := HM.out; omega
      | false =>
        have hci := cmpI_ge hc
        go_wp2_with (go_at_call 39; refine (compareEntry _ _ _).mono ?_; rintro e w1 ⟨rfl, rfl⟩)
        go_roundg ((i + j) / 2 - i)
        case rel =>
          refine ⟨i, (i + j) / 2, rfl, by go_num, by omega, by omega, H1.out, fun t h ht => ?_, hx.alloc _⟩
          by_cases e : t = (i + j) / 2
          · subst e; rw [HX.out]; exact hc
          · have := hr.get (show (i + j) / 2 < t by omega) h
            cases hh : klt ks[t] key with
            | false => rfl
            | true => have := klt_trans this hh; rw [HX.out, hc] at this; cases this
        case measure => have := HM.out; omega
    · have hije : i = j := by have := HM.out; omega
      subst hije
      have hp : pos key ks = i := pos_of hj H1.out H2.out
      have HP := Hid.intro hp
      clear H1 H2 HM
      by_cases hin : i < ks.length
      · obtain ⟨c1, c2, c3⟩ := (he.ext hx).cells rfl hin
        obtain ⟨x, hxk⟩ : ∃ x, ks[i] = x := ⟨_, rfl⟩
        rw [hxk] at c1
        have hf : foundB key ks = decide (x = key) := by
          have := found_at (key := key) (ks := ks) (by omega)
          simp only [hp] at this
          rw [this, hxk]
        have HF := Hid.intro hf
        have hge : klt x key = false := by
          have := pos_ge (k := key) hr hin (by omega)
          rw [hxk] at this; exact this
        clear hp hf hxk
        by_cases hxe : x = key
        · have hci : cmpI x key = 0 := by rw [hxe]; exact cmpI_eq _
          have hd : decide ((i : Int) < (ks.length : Int)) = true := decide_eq_true (by omega)
          have HXE := Hid.intro hxe
          clear hxe
          go_wp2_with (go_at_call 39; refine (compareEntry _ _ _).mono ?_; rintro e w1 ⟨rfl, rfl⟩; rw [hci])
          go_ret2
          exact ⟨by rw [HP.out, HF.out]; simp [HXE.out], hx.alloc _⟩
        · have hci : cmpI x key = 1 := cmpI_gt hge hxe
          have hd : decide ((i : Int) < (ks.length : Int)) = true := decide_eq_true (by omega)
          have HXE := Hid.intro hxe
          clear hxe
          go_wp2_with (go_at_call 39; refine (compareEntry _ _ _).mono ?_; rintro e w1 ⟨rfl, rfl⟩; rw [hci])
          go_ret2
          exact ⟨by rw [HP.out, HF.out]; simp [HXE.out], hx.alloc _⟩
      · have hf : foundB key ks = false := found_end (by omega)
        have HF := Hid.intro hf
        have hd : decide ((i : Int) < (ks.length : Int)) = false := decide_eq_false (by omega)
        clear hf hp
        go_wp2_with fail
        go_ret2
        exact ⟨by rw [HP.out, HF.out]; rfl, hx⟩

set_option maxRecDepth 100000 in
theorem bsf_nil (key : ByteArray) (w : World) :
    Calls Yba.prog 38 #[.slice none 0 0, .string key, .func (.func 39) #[] #[]] w fun e w' => e = .returned (.tuple #[.int .i64 0, .bool false]) ∧ Ext w w' := by
  go_enter Yba.func38, Yba.ntmps38
  go_wp2_with fail
  refine wp_loop_rounds 1 ?_
  rw [rounds_succ]
  go_wp2_with fail
  go_ret2
  exact ⟨rfl, Ext.refl _⟩

theorem bsf_any (base : Nat) (v : Value) (ks : List ByteArray) (key : ByteArray) (w : World) (he : Ents w base v ks) (hr : Rising ks) (hn : ks.length ≤ 1000000) :
    Calls Yba.prog 38 #[v, .string key, .func (.func 39) #[] #[]] w fun e w' => e = .returned (.tuple #[.int .i64 (pos key ks : Int), .bool (foundB key ks)]) ∧ Ext w w' := by
  rcases he.form with ⟨rfl, rfl⟩ | ⟨g, cap, cur, rfl, _⟩
  · refine (bsf_nil key w).mono ?_
    rintro e w' ⟨rfl, hx⟩
    exact ⟨rfl, hx⟩
  · exact bsf_some base g cap ks key w he hr hn

/-! ### sort.Search, over whatever closure answers 'p' and makes at most new blocks -/
set_option maxRecDepth 100000 in
set_option maxHeartbeats 1000000 in
theorem search_any (n : Nat) (f : Nat) (cap : Array Value) (p : Nat → Bool) (w : World) (hn : n ≤ 1000000)
    (hcf : ∀ (args : Array Value) (w : World), (callFunc f args).run Yba.prog w = .ok (.enter f args) w)
    (hf : Hid (∀ (i : Nat) (w' : World), i < n → Ext w w' → Calls Yba.prog f (#[.int .i64 (i : Int)] ++ cap) w' fun e w'' => e = .returned (.bool (p i)) ∧ Ext w' w''))
    (hp : Hid (∀ i j, i < j → j < n → p i = true → p j = true)) :
    Calls Yba.prog 57 #[.int .i64 (n : Int), .func (.func f) #[] cap] w fun e w' => ∃ r : Nat, e = .returned (.int .i64 (r : Int)) ∧ r ≤ n ∧ (∀ i, i < r → p i = false) ∧ (∀ i, r ≤ i → i < n → p i = true) ∧ Ext w w' := by
  go_enter Yba.func57, Yba.ntmps57
  go_wp2_with fail
  go_loopg [5, 6] n (fun m v5 v6 wr => ∃ i j : Nat, v5 = .int .i64 (i : Int) ∧ v6 = .int .i64 (j : Int) ∧ i + m = j ∧ j ≤ n ∧ (∀ t, t < i → p t = false) ∧ (∀ t, j ≤ t → t < n → p t = true) ∧ Ext w wr)
  case atStart => exact ⟨0, n, rfl, rfl, by omega, Nat.le_refl _, fun t h => by omega, fun t h ht => by omega, Ext.refl _⟩
  case round =>
    obtain ⟨i, j, rfl, rfl, hij, hj, h1, h2, hx⟩ := hrel
    have H1 := Hid.intro h1
    have H2 := Hid.intro h2
    have HM := Hid.intro hij
    clear h1 h2 hij
    by_cases hlt : i < j
    · have hmid : (i + j) / 2 < n := by omega
      obtain ⟨q, hq⟩ : ∃ q : Nat, q = (i + j) / 2 := ⟨_, rfl⟩
      rw [← hq] at hmid
      have hqi : ((i : Int) + (j : Int)) / 2 = (q : Int) := by omega
      have hcall := hf.out q wr hmid hx
      have HCALL := Hid.intro hcall
      have hq1 : i ≤ q := by omega
      have hq2 : q < j := by omega
      clear hcall hq
      cases hpq : p q with
      | true =>
        go_wp2_with fail
        refine HCALL.out.mono ?_
        rintro e w2 ⟨rfl, hx2⟩
        rw [hpq]
        go_wp2_with fail
        go_roundg (q - i)
        case rel =>
          refine ⟨i, q, rfl, rfl, by omega, by omega, H1.out, fun t h ht => ?_, hx.trans hx2⟩
          by_cases e : t = q
          · subst e; exact hpq
          · exact hp.out q t (by omega) ht hpq
        case measure => have := HM.out; omega
      | false =>
        go_wp2_with fail
        refine HCALL.out.mono ?_
        rintro e w2 ⟨rfl, hx2⟩
        rw [hpq]
        go_wp2_with fail
        go_roundg (j - (q + 1))
        case rel =>
          refine ⟨q + 1, j, by go_num, rfl, by omega, hj, fun t ht => ?_, H2.out, hx.trans hx2⟩
          by_cases e : t = q
          · subst e; exact hpq
          · cases hh : p t with
            | false => rfl
            | true => have := hp.out t q (by omega) hmid hh; rw [hpq] at this; cases this
        case measure => have := HM.out; omega
    · have hije : i = j := by have := HM.out; omega
      subst hije
      go_wp2_with fail
      go_ret
      exact ⟨i, rfl, hj, H1.out, H2.out, hx⟩
end Go.Proofs.Ybulkckvy
