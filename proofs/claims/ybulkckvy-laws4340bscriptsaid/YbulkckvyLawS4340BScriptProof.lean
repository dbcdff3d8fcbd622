/-
  A PROOF OF 'Rows.LawS4340BScriptSaid'. The frame is turned from the shell of LawS4340CSmallest (written by program); the walk lies in YbulkckvyScr2.lean.
-/
import Derived.Test.YbulkckvyRows
import Derived.WalkKit
import Derived.ProofKit
import Derived.OpenShut
import Derived.ShutString
import Derived.ChangeOld
import Derived.Below
import Derived.Deep.SlicePairs
import Derived.Test.YbulkckvyScr2
namespace Go.Proofs.Ybulkckvy.lawS4340BScript
open Go.ChangeShapes Go.WideShapes Go.ChangeAt Go.RowKit
set_option linter.unusedVariables false

theorem own : ownKnob Yba.prog.godebug = none := by kernel_rfl
theorem laidOut : laidOutB Yba.prog = true := by kernel_rfl

theorem opsAt {H : Type} {enc : TypeId × Value → H} {W : World} {a : Option Addr} {len cap : Nat} {d : DataW H} {ps : List MemPlace} (h : DataW.Trod enc Yba.prog W 0 (fun _ => true) true 37 (.slice a len cap) d ps) : ∃ S L, OpsAt W a len S L := by
  obtain ⟨fuel, hf⟩ := h
  rcases Go.Deep.open_slice_pairs Yba.underlying37 Yba.underlying53 (by kernel_rfl) rfl rfl (by kernel_rfl) (by kernel_rfl) hf with ⟨hcs, _⟩ | ⟨x, l, c, m, n, V0, V1, D0, D1, P0, P1, hcs, _, hl, hm, hmm, _, hx⟩
  · simp [Value.cells] at hcs
    obtain ⟨rfl, rfl, rfl⟩ := hcs
    exact ⟨fun _ => 0, fun _ => 0, fun j => ⟨Nat.zero_le _, Nat.zero_le _⟩, fun h => by omega⟩
  · simp [Value.cells] at hcs
    obtain ⟨rfl, rfl, rfl⟩ := hcs
    have hm' : m = cap := by simpa using hmm
    subst hm'
    have each : ∀ i, i < m → ∃ n0 n1 : Nat, n0 ≤ 65535 ∧ n1 ≤ 255 ∧ W.cell? (x.add (i * 2)) = some (.int .u16 (n0 : Int)) ∧ W.cell? (x.add (i * 2 + 1)) = some (.int .u8 (n1 : Int)) := fun i hi => by
      obtain ⟨q0, q1, q2, q3⟩ := hx i hi
      obtain ⟨n0, e0, _, f0⟩ := DataW.trod_int Yba.underlying36 q2
      obtain ⟨n1, e1, _, f1⟩ := DataW.trod_int Yba.underlying5 q3
      have b0 := bounds_u16 f0
      have b1 := bounds_u8 f1
      injection e0 with e0
      injection e1 with e1
      refine ⟨n0.toNat, n1.toNat, by omega, by omega, ?_, ?_⟩
      · rw [q0, e0, Int.toNat_of_nonneg b0.1]
      · rw [q1, e1, Int.toNat_of_nonneg b1.1]
    refine ⟨fun i => if h : i < m then (each i h).choose else 0, fun i => if h : i < m then (each i h).choose_spec.choose else 0, fun i => ?_, fun h0 => ?_⟩
    · by_cases hi : i < m
      · have := (each i hi).choose_spec.choose_spec
        simp only [dif_pos hi]
        exact ⟨this.1, this.2.1⟩
      · simp [hi]
    · obtain ⟨b, off, spot⟩ := x
      have c0 := (each 0 (by omega)).choose_spec.choose_spec.2.2.1
      have hs : spot = none := by simpa [Addr.add] using World.cell?_spot c0
      subst hs
      refine ⟨b, off, rfl, hp_cell_lt c0, fun j hj => ?_⟩
      have hjm : j < m := by omega
      have := (each j hjm).choose_spec.choose_spec.2.2
      simp only [dif_pos hjm]
      obtain ⟨t1, t2⟩ := this
      refine ⟨Eq.trans ?_ t1, Eq.trans ?_ t2⟩
      · rw [add_plain]
      · rw [add_plain, Nat.add_assoc]

theorem walk (a0 : Int) (a1 : Bool) (a2 : Option Addr) (len cap : Nat) (S L : Nat → Nat) (w : World) (h0 : (Lit.int .u16 a0).wf = true) (h2 : OpsAt w a2 len S L) :
    Calls Yba.prog 5 #[.int .u16 a0, .bool a1, .slice a2 len cap] w fun e w' => e = .returned (.bool true) ∧ Below w.heap.size w w' := by
  have b0 := bounds_u16 h0
  obtain ⟨n, rfl⟩ : ∃ n : Nat, a0 = (n : Int) := ⟨a0.toNat, by omega⟩
  exact script_walk n (by omega) a1 a2 len cap S L w h2

set_option maxRecDepth 100000 in
theorem lifted (os : Os) (started : os.Started) (H : Type) (enc : TypeId × Value → H) :
    ReturnsInHanded {} Yba.checked os 5 .any (Rows.lawS4340BScriptSpec.pre6 enc Yba.prog Yba.f5 Rows.lawS4340BScriptRow.domain false) (Rows.lawS4340BScriptSpec.post enc Yba.prog Yba.f5 false true false false) := by
  refine returnsInHanded_of_change (C := Yba.checked) own started (by kernel_rfl) Yba.func5
    (ChangeSpec.witness6 (enc := enc) (C := Yba.checked) false ⟨#[], #[.int .u16 0, .bool false, .slice none 0 0], []⟩ 8 (by kernel_rfl) (by kernel_rfl) (by kernel_rfl) (by kernel_rfl)) ?_
  intro W base args ds gs before hval0 hW hcnd _
  have hval : ∀ (j : Nat) t v, Yba.f5.params[j]? = some t → args[j]? = some v → Value.okWide Yba.prog W .any base t v := hval0
  have hW' := hW
  obtain ⟨p, q, hA0, hV, rfl, hfz, hnd⟩ := hW
  have hA : DataW.TrodAll enc Yba.prog W 0 (fun _ => true) true Yba.f5.params.toList args.toList ds p := hA0
  rw [Yba.params5] at hA hval
  obtain ⟨v0, vs0, d0, ds0, p0, q0, hargs, rfl, rfl, h0, r0⟩ := trodAll_cons hA
  obtain ⟨v1, vs1, d1, ds1, p1, q1, rfl, rfl, rfl, h1, r1⟩ := trodAll_cons r0
  obtain ⟨v2, vs2, d2, ds2, p2, q2, rfl, rfl, rfl, h2, r2⟩ := trodAll_cons r1
  obtain ⟨rfl, rfl, rfl⟩ := trodAll_nil r2
  obtain rfl : args = #[v0, v1, v2] := by cases args; simp_all
  obtain ⟨rfl, rfl⟩ := trodVars_none hV
  obtain ⟨a0, rfl, rfl, rfl, w0⟩ := open_int Yba.underlying36 (hval 0 36 v0 rfl rfl) h0
  obtain ⟨a1, rfl, rfl, rfl⟩ := open_bool Yba.underlying4 (hval 1 4 v1 rfl rfl) h1
  obtain ⟨a2, len2, cap2, rfl⟩ := okWide_slice Yba.underlying37 (hval 2 37 v2 rfl rfl)
  have k2 := h2
  have lt2 : ∀ x ∈ p2, x.block < W.heap.size := by obtain ⟨m, hm⟩ := k2; exact DataW.trod_lt m _ _ _ hm
  obtain ⟨S, L, w2⟩ := opsAt h2
  clear hA0 hval0
  refine (walk a0 a1 a2 len2 cap2 S L W w0 w2).mono fun e W' ⟨he, bel⟩ => ?_
  subst he
  exact ⟨_, rfl, _, _, _, [], _, [], hW', trodAll_mk1 (shut_bool Yba.underlying4 _), (trodAll_cons_mk (shut_int Yba.underlying36 w0) (trodAll_cons_mk (shut_bool Yba.underlying4 _) (trodAll_cons_mk (Below.trod laidOut (by kernel_rfl) (of_decide_eq_true (by kernel_rfl)) k2 bel lt2) trodAll_mk0))), rfl, bel.frame _, fun h => by cases h⟩

theorem over : Rows.lawS4340BScriptRow.holds Yba.pinned (OpenSpec.ofChange Rows.lawS4340BScriptSpec) :=
  OpenClaim.holds_of_wide 5 Yba.f5 rfl rfl rfl rfl rfl rfl rfl ⟨rfl, rfl, rfl, rfl, rfl⟩ rfl rfl rfl rfl rfl (by kernel_rfl) Yba.func5 (by kernel_rfl)
    (of_decide_eq_true (by kernel_rfl)) (by unfold Func.isWrapper; first | (rw [if_pos (by decide +kernel)]; kernel_rfl) | (rw [if_neg (by decide +kernel)]; exact ⟨rfl, rfl⟩))
    (fun os started H enc _ => lifted os started H enc)

/-- ████ THE STATEMENT ████ -/
theorem proved : Rows.LawS4340BScriptSaid := over
#print axioms proved
end Go.Proofs.Ybulkckvy.lawS4340BScript
