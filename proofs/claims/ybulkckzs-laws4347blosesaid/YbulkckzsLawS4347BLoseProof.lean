/-
  A PROOF OF 'Rows.LawS4347BLoseSaid'. The frame is turned from a shell written by program; the walks lie in YbulkckzsLaw2.lean and YbulkckzsLaw3.lean.
-/
import Derived.Test.YbulkckzsRows
import Derived.WalkKit
import Derived.ProofKit
import Derived.OpenShut
import Derived.ShutString
import Derived.ChangeOld
import Derived.Below
import Derived.Deep.SlicePairs
import Derived.Test.YbulkckzsLaw3
namespace Go.Proofs.Ybulkckzs.lawS4347BLose
open Go.ChangeShapes Go.WideShapes Go.ChangeAt Go.RowKit
set_option linter.unusedVariables false

theorem own : ownKnob Yba.prog.godebug = none := by kernel_rfl
theorem laidOut : laidOutB Yba.prog = true := by kernel_rfl

theorem pairsAt {H : Type} {enc : TypeId × Value → H} {W : World} {a : Option Addr} {len cap : Nat} {d : DataW H} {ps : List MemPlace} (h : DataW.Trod enc Yba.prog W 0 (fun _ => true) true 22 (.slice a len cap) d ps) : ∃ I V, PairsAt W a len I V := by
  obtain ⟨fuel, hf⟩ := h
  rcases Go.Deep.open_slice_pairs Yba.underlying22 Yba.underlying58 (by kernel_rfl) rfl rfl (by kernel_rfl) (by kernel_rfl) hf with ⟨hcs, _⟩ | ⟨x, l, c, m, n, V0, V1, D0, D1, P0, P1, hcs, _, hl, hm, hmm, _, hx⟩
  · simp [Value.cells] at hcs
    obtain ⟨rfl, rfl, rfl⟩ := hcs
    exact ⟨fun _ => 0, fun _ => false, fun j => Nat.zero_le _, fun h => by omega⟩
  · simp [Value.cells] at hcs
    obtain ⟨rfl, rfl, rfl⟩ := hcs
    have hm' : m = cap := by simpa using hmm
    subst hm'
    have each : ∀ i, i < m → ∃ (n0 : Nat) (n1 : Bool), n0 ≤ 65535 ∧ W.cell? (x.add (i * 2)) = some (.int .u16 (n0 : Int)) ∧ W.cell? (x.add (i * 2 + 1)) = some (.bool n1) := fun i hi => by
      obtain ⟨q0, q1, q2, q3⟩ := hx i hi
      obtain ⟨n0, e0, _, f0⟩ := DataW.trod_int Yba.underlying23 q2
      obtain ⟨n1, e1, _⟩ := DataW.trod_bool Yba.underlying4 q3
      have b0 := bounds_u16 f0
      injection e0 with e0
      injection e1 with e1
      refine ⟨n0.toNat, n1, by omega, ?_, ?_⟩
      · rw [q0, e0, Int.toNat_of_nonneg b0.1]
      · rw [q1, e1]
    refine ⟨fun i => if h : i < m then (each i h).choose else 0, fun i => if h : i < m then (each i h).choose_spec.choose else false, fun i => ?_, fun h0 => ?_⟩
    · by_cases hi : i < m
      · have := (each i hi).choose_spec.choose_spec
        simp only [dif_pos hi]
        exact this.1
      · simp [hi]
    · obtain ⟨b, off, spot⟩ := x
      have c0 := (each 0 (by omega)).choose_spec.choose_spec.2.1
      have hs : spot = none := by simpa [Addr.add] using World.cell?_spot c0
      subst hs
      refine ⟨b, off, rfl, hp_cell_lt c0, fun j hj => ?_⟩
      have hjm : j < m := by omega
      have := (each j hjm).choose_spec.choose_spec.2
      simp only [dif_pos hjm]
      obtain ⟨t1, t2⟩ := this
      refine ⟨Eq.trans ?_ t1, Eq.trans ?_ t2⟩
      · rw [add_plain]
      · rw [add_plain, Nat.add_assoc]

theorem walk (on hm : Bool) (a : Option Addr) (len cap : Nat) (I : Nat → Nat) (V : Nat → Bool) (id s t : Int) (w : World) (hP : PairsAt w a len I V) (h3 : (Lit.int .u16 id).wf = true) (h4 : (Lit.int .i64 s).wf = true) (h5 : (Lit.int .i64 t).wf = true) :
    Calls Yba.prog 3 #[.bool on, .bool hm, .slice a len cap, .int .u16 id, .int .i64 s, .int .i64 t] w fun e w' => e = .returned (.bool true) ∧ Below w.heap.size w w' := by
  have b3 := bounds_u16 h3
  have b4 := bounds_i64 h4
  have b5 := bounds_i64 h5
  obtain ⟨n, rfl⟩ : ∃ n : Nat, id = (n : Int) := ⟨id.toNat, by omega⟩
  cases on with
  | true => exact lose_on hm a len cap n s t I V w (by omega) b4 b5 hP
  | false => exact lose_off2 hm a len cap n s t I V w (by omega) b4 b5 hP

set_option maxRecDepth 100000 in
theorem lifted (os : Os) (started : os.Started) (H : Type) (enc : TypeId × Value → H) :
    ReturnsInHanded {} Yba.checked os 3 .any (Rows.lawS4347BLoseSpec.pre6 enc Yba.prog Yba.f3 Rows.lawS4347BLoseRow.domain false) (Rows.lawS4347BLoseSpec.post enc Yba.prog Yba.f3 false true false false) := by
  refine returnsInHanded_of_change (C := Yba.checked) own started (by kernel_rfl) Yba.func3
    (ChangeSpec.witness6 (enc := enc) (C := Yba.checked) false ⟨#[], #[.bool false, .bool false, .slice none 0 0, .int .u16 0, .int .i64 0, .int .i64 0], []⟩ 8 (by kernel_rfl) (by kernel_rfl) (by kernel_rfl) (by kernel_rfl)) ?_
  intro W base args ds gs before hval0 hW hcnd _
  have hval : ∀ (j : Nat) t v, Yba.f3.params[j]? = some t → args[j]? = some v → Value.okWide Yba.prog W .any base t v := hval0
  have hW' := hW
  obtain ⟨p, q, hA0, hV, rfl, hfz, hnd⟩ := hW
  have hA : DataW.TrodAll enc Yba.prog W 0 (fun _ => true) true Yba.f3.params.toList args.toList ds p := hA0
  rw [Yba.params3] at hA hval
  obtain ⟨v0, vs0, d0, ds0, p0, q0, hargs, rfl, rfl, h0, r0⟩ := trodAll_cons hA
  obtain ⟨v1, vs1, d1, ds1, p1, q1, rfl, rfl, rfl, h1, r1⟩ := trodAll_cons r0
  obtain ⟨v2, vs2, d2, ds2, p2, q2, rfl, rfl, rfl, h2, r2⟩ := trodAll_cons r1
  obtain ⟨v3, vs3, d3, ds3, p3, q3, rfl, rfl, rfl, h3, r3⟩ := trodAll_cons r2
  obtain ⟨v4, vs4, d4, ds4, p4, q4, rfl, rfl, rfl, h4, r4⟩ := trodAll_cons r3
  obtain ⟨v5, vs5, d5, ds5, p5, q5, rfl, rfl, rfl, h5, r5⟩ := trodAll_cons r4
  obtain ⟨rfl, rfl, rfl⟩ := trodAll_nil r5
  obtain rfl : args = #[v0, v1, v2, v3, v4, v5] := by cases args; simp_all
  obtain ⟨rfl, rfl⟩ := trodVars_none hV
  obtain ⟨a0, rfl, rfl, rfl⟩ := open_bool Yba.underlying4 (hval 0 4 v0 rfl rfl) h0
  obtain ⟨a1, rfl, rfl, rfl⟩ := open_bool Yba.underlying4 (hval 1 4 v1 rfl rfl) h1
  obtain ⟨a2, len2, cap2, rfl⟩ := okWide_slice Yba.underlying22 (hval 2 22 v2 rfl rfl)
  have k2 := h2
  have lt2 : ∀ x ∈ p2, x.block < W.heap.size := by obtain ⟨m, hm⟩ := k2; exact DataW.trod_lt m _ _ _ hm
  obtain ⟨I, V, w2⟩ := pairsAt h2
  obtain ⟨a3, rfl, rfl, rfl, w3⟩ := open_int Yba.underlying23 (hval 3 23 v3 rfl rfl) h3
  obtain ⟨a4, rfl, rfl, rfl, w4⟩ := open_int Yba.underlying2 (hval 4 2 v4 rfl rfl) h4
  obtain ⟨a5, rfl, rfl, rfl, w5⟩ := open_int Yba.underlying2 (hval 5 2 v5 rfl rfl) h5
  clear hA0 hval0
  refine (walk a0 a1 a2 len2 cap2 I V a3 a4 a5 W w2 w3 w4 w5).mono fun e W' ⟨he, bel⟩ => ?_
  subst he
  exact ⟨_, rfl, _, _, _, [], _, [], hW', trodAll_mk1 (shut_bool Yba.underlying4 _), (trodAll_cons_mk (shut_bool Yba.underlying4 _) (trodAll_cons_mk (shut_bool Yba.underlying4 _) (trodAll_cons_mk (Below.trod laidOut (by kernel_rfl) (of_decide_eq_true (by kernel_rfl)) k2 bel lt2) (trodAll_cons_mk (shut_int Yba.underlying23 w3) (trodAll_cons_mk (shut_int Yba.underlying2 w4) (trodAll_cons_mk (shut_int Yba.underlying2 w5) trodAll_mk0)))))), rfl, bel.frame _, fun h => by cases h⟩

theorem over : Rows.lawS4347BLoseRow.holds Yba.pinned (OpenSpec.ofChange Rows.lawS4347BLoseSpec) :=
  OpenClaim.holds_of_wide 3 Yba.f3 rfl rfl rfl rfl rfl rfl rfl ⟨rfl, rfl, rfl, rfl, rfl⟩ rfl rfl rfl rfl rfl (by kernel_rfl) Yba.func3 (by kernel_rfl)
    (of_decide_eq_true (by kernel_rfl)) (by unfold Func.isWrapper; first | (rw [if_pos (by decide +kernel)]; kernel_rfl) | (rw [if_neg (by decide +kernel)]; exact ⟨rfl, rfl⟩))
    (fun os started H enc _ => lifted os started H enc)

/-- ████ THE STATEMENT ████ -/
theorem proved : Rows.LawS4347BLoseSaid := over
#print axioms proved
end Go.Proofs.Ybulkckzs.lawS4347BLose
