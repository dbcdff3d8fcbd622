import Derived.Test.YbulkckzsDoorRow
set_option linter.unusedVariables false
set_option linter.unusedSimpArgs false
namespace Go.Proofs.YbulkckzsDoor
open Go.RowKit
attribute [local go_sem ↓] Go.wp_at_zero Go.wp_at_succ

/-- A record: its length with the header, its level, its type. -/
structure Rec where
  a : Nat
  l : Nat
  t : Nat
def al (a : Nat) : Nat := (a + 7) / 8 * 8
theorem al_ge (a : Nat) : a ≤ al a ∧ al a < a + 8 := by unfold al; omega
def Lay (C : Array Value) : Nat → List Rec → Prop
  | _, [] => True
  | o, r :: rs => HdrAt C o r.a r.l r.t ∧ (16 ≤ r.a ∧ r.a ≤ 36 ∧ r.l < 128 ∧ r.t < 128) ∧ Lay C (o + al r.a) rs
def tot : List Rec → Nat
  | [] => 0
  | r :: rs => al r.a + tot rs
theorem tot_append (A B : List Rec) : tot (A ++ B) = tot A + tot B := by
  induction A with
  | nil => simp [tot]
  | cons r A ih => simp only [List.cons_append, tot, ih]; omega
theorem lay_append {C : Array Value} : ∀ (A B : List Rec) (o : Nat), Lay C o (A ++ B) → Lay C (o + tot A) B
  | [], B, o, h => by simpa [tot] using h
  | r :: A, B, o, h => by
    have := lay_append A B _ h.2.2
    rw [Nat.add_assoc] at this
    simpa [tot] using this
def recC (g cap o : Nat) (r : Rec) : List Value := [.int .u64 (r.a : Int), .int .i32 (r.l : Int), .int .i32 (r.t : Int), .slice (dataP g o (cap - o)) (r.a - 16) (cap - o - 16)]
def rowC (g cap : Nat) : Nat → List Rec → List Value
  | _, [] => []
  | o, r :: rs => recC g cap o r ++ rowC g cap (o + al r.a) rs
theorem rowC_snoc (g cap : Nat) (r : Rec) : ∀ (A : List Rec) (o : Nat), rowC g cap o (A ++ [r]) = rowC g cap o A ++ recC g cap (o + tot A) r
  | [], o => by simp [rowC, tot]
  | x :: A, o => by simp [rowC, rowC_snoc g cap r A, tot, Nat.add_assoc]
theorem view_loads {W : World} {vb g o a l t : Nat} {C : Array Value} (hv : W.heap[vb]? = some (.view ⟨g, o, none⟩ 56)) (hg : W.heap[g]? = some (.cells C 5 (0, 0))) (h : HdrAt C o a l t) (ha : a < 256) (hl : l < 128) (ht : t < 128) :
    (W.cell? ⟨vb, 0, none⟩ = none ∧ W.cell? ⟨vb, 1, none⟩ = none ∧ W.cell? ⟨vb, 2, none⟩ = none) ∧ ∃ q0 q1 q2, W.farLoad Ybad.prog ⟨vb, 0, none⟩ (Mode.plain == Mode.atomic) = .ok (.int .u64 (a : Int), q0) ∧ W.farLoad Ybad.prog ⟨vb, 1, none⟩ (Mode.plain == Mode.atomic) = .ok (.int .i32 (l : Int), q1) ∧ W.farLoad Ybad.prog ⟨vb, 2, none⟩ (Mode.plain == Mode.atomic) = .ok (.int .i32 (t : Int), q2) :=
  ⟨⟨view_cell hv, view_cell hv, view_cell hv⟩, _, _, _, load_len hv hg h ha, load_level hv hg h hl, load_type hv hg h ht⟩
/-- What ParseSocketControlMessage answers. -/
def ParseRet (w : World) (g cap : Nat) (rs : List Rec) (e : Ending) (w' : World) : Prop :=
  ∃ v, e = .returned (.tuple #[v, .nilIface]) ∧ w'.ownsRow w.heap.size 58 4 v rs.length (rowC g cap 0 rs) ∧ Ext w w'
set_option maxRecDepth 100000 in
set_option maxHeartbeats 2000000 in
theorem parse_some (g N cap tl : Nat) (rs : List Rec) (C : Array Value) (w : World) (hg : w.heap[g]? = some (.cells C 5 (0, 0))) (hL : Lay C 0 rs) (hN : N = tot rs + tl) (htl : tl < 16) (hcap : N ≤ cap) (hcm : N ≤ 1000000) (hrs : rs.length ≤ 1000) :
    Calls Ybad.prog 13 #[.slice (some ⟨g, 0, none⟩) N cap] w (ParseRet w g cap rs) := by
  have HL := Hid.intro hL
  have HG := Hid.intro hg
  have HN := Hid.intro hN
  clear hL hg hN
  go_enter Ybad.func13, Ybad.ntmps13
  go_wp2_with fail
  go_loopg [4, 5] rs.length (fun m v4 v5 wr => ∃ done rest, rs = done ++ rest ∧ v5 = .int .i64 (tot done : Int) ∧ wr.ownsRow w.heap.size 58 4 v4 done.length (rowC g cap 0 done) ∧ rest.length = m ∧ Ext w wr)
  case atStart => exact ⟨[], rs, rfl, rfl, ⟨rfl, .inl ⟨rfl, rfl⟩⟩, rfl, Ext.refl _⟩
  case round =>
    obtain ⟨done, rest, hdr, rfl, hown, hrm, hx⟩ := hrel
    have HDR := Hid.intro hdr
    have HOW := Hid.intro hown
    have HRM := Hid.intro hrm
    have htot : tot rs = tot done + tot rest := by rw [hdr, tot_append]
    obtain ⟨o, ho⟩ : ∃ o, tot done = o := ⟨_, rfl⟩
    rw [ho] at htot ⊢
    have hom : o ≤ 1000000 := by have := HN.out; omega
    cases rest with
    | nil =>
      have hle : ¬ (o : Int) + 16 ≤ (N : Int) := by have := HN.out; simp [tot] at htot; omega
      clear hdr hown hrm htot
      go_wp2_with (go_at_call 20; refine (cmsgLen0 _).mono ?_; rintro e w1 ⟨rfl, rfl⟩)
      go_ret2
      refine ⟨_, rfl, ?_, hx⟩
      have e : rs = done := by have := HDR.out; simpa using this
      rw [e]; exact HOW.out
    | cons r rest =>
      have hlay := HL.out
      rw [hdr] at hlay
      have hl2 := lay_append done (r :: rest) 0 hlay
      rw [Nat.zero_add, ho] at hl2
      obtain ⟨hH, ⟨ha1, ha2, hl3, ht3⟩, _⟩ := hl2
      have hal := al_ge r.a
      simp only [tot] at htot
      have hNN := HN.out
      have hle : (o : Int) + 16 ≤ (N : Int) := by omega
      have hco : ¬ cap = o := by omega
      have hoN : o ≤ N := by omega
      have hrl : Hid (done.length ≤ 100000) := Hid.intro (by have := congrArg List.length hdr; simp at this; omega)
      have hdr2 : Hid (rs = (done ++ [r]) ++ rest) := Hid.intro (by rw [hdr]; simp)
      have HRO : Hid (rowC g cap 0 (done ++ [r]) = rowC g cap 0 done ++ recC g cap o r) := Hid.intro (by rw [rowC_snoc, Nat.zero_add, ho])
      have HTO : Hid ((tot (done ++ [r]) : Int) = (o : Int) + (al r.a : Int)) := Hid.intro (by rw [tot_append, ho]; simp [tot])
      have HHD := Hid.intro (fun W (h : W.heap[g]? = some (.cells C 5 (0, 0))) => header_any g o (N - o) (cap - o) r.a r.l r.t C W h hH ha1 (by omega) (by omega) (by omega) (by omega))
      have HH := Hid.intro hH
      have hab : al r.a ≤ 100 := by omega
      obtain ⟨ra, hra⟩ : ∃ x, r.a = x := ⟨_, rfl⟩
      obtain ⟨rl, hrl'⟩ : ∃ x, r.l = x := ⟨_, rfl⟩
      obtain ⟨rt, hrt⟩ : ∃ x, r.t = x := ⟨_, rfl⟩
      rw [hra] at HHD HH HTO hab ha1 ha2
      rw [hrl'] at HH hl3
      rw [hrt] at HH ht3
      have HRC : Hid (recC g cap o r = [.int .u64 (ra : Int), .int .i32 (rl : Int), .int .i32 (rt : Int), .slice (dataP g o (cap - o)) (ra - 16) (cap - o - 16)]) := Hid.intro (by unfold recC; rw [hra, hrl', hrt])
      have HAL := Hid.intro (fun W => align_any ra (by omega) W)
      clear hdr hown hrm htot hlay hH hal hNN hra hrl' hrt
      have hdp : ∃ A, dataP g o (cap - o) = A := ⟨_, rfl⟩
      obtain ⟨A, hA⟩ := hdp
      rw [hA] at HHD HRC
      clear hA
      go_upto_region 5 with (first | (go_at_call 20; refine (cmsgLen0 _).mono ?_; rintro e w1 ⟨rfl, rfl⟩) | (go_at_call 21; refine (HHD.out _ (hx.some HG.out)).mono ?_; rintro e w2 ⟨rfl, q, hw2⟩; have hv2 : w2.heap[w1.heap.size]? = some (.view ⟨g, o, none⟩ 56) := (by rw [hw2]; exact hp_alloc_new w1 _); have hx2 : Ext w w2 := (by rw [hw2]; exact (hx.alloc _).drewN q); have hx12 : Ext w1 w2 := (by rw [hw2]; exact ((Ext.refl w1).alloc _).drewN q); clear hw2))
      obtain ⟨⟨vc0, vc1, vc2⟩, l0, l1, l2, fl0, fl1, fl2⟩ := view_loads hv2 (hx2.some HG.out) HH.out (by omega) hl3 ht3
      obtain ⟨v', w4, hrun, hown4, hx4, hf4⟩ := app_rec (hx2.alloc (.cells #[.int .u64 (ra : Int), .int .i32 (rl : Int), .int .i32 (rt : Int), .slice A (ra - 16) (cap - o - 16)] 58)) 50 u4 done.length (rowC g cap 0 done) (.int .u64 (ra : Int)) (.int .i32 (rl : Int)) (.int .i32 (rt : Int)) (.slice A (ra - 16) (cap - o - 16)) (owns_ext HOW.out (hx12.alloc _)) (by intro u hu; simp at hu; rcases hu with rfl | rfl | rfl | rfl <;> rfl) hrl.out
      rw [hp_alloc_size] at hrun
      have hv4 := hf4.some (((Ext.refl w2).alloc _).some hv2) (own_out (owns_ext HOW.out hx12) hv2)
      obtain ⟨⟨vd0, _, _⟩, m0, _, _, fm0, _, _⟩ := view_loads hv4 (hx4.some HG.out) HH.out (by omega) hl3 ht3
      have HR := Hid.intro (And.intro hown4 hx4)
      clear hown4 hx4 hf4 hv4 hv2
      go_wp2_with (first | (at_builtin; refine Lib.wpList_append_run _ rfl _ _ _ _ rfl _ _ rfl rfl _ _ hrun ?_) | (go_at_call 22; refine (HAL.out _).mono ?_; rintro e w5 ⟨rfl, rfl⟩))
      go_roundg rest.length
      case measure => have := HRM.out; simp only [List.length_cons] at this; omega
      case rel =>
        refine ⟨done ++ [r], rest, hdr2.out, ?_, ?_, rfl, HR.out.2⟩
        · rw [HTO.out]; rfl
        · rw [HRO.out, HRC.out]
          simpa using HR.out.1
end Go.Proofs.YbulkckzsDoor
