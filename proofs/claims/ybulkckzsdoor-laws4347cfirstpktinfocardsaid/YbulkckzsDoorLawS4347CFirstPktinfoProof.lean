/-
  A PROOF OF 'Rows.LawS4347CFirstPktinfoCardSaid'. The walks lie in YbulkckzsDoorLaw.lean and below it; the ties are the given ones.
-/
import Derived.Test.YbulkckzsDoorRows
import Derived.Test.YbulkckzsDoorCards
import Derived.Test.YbulkckzsDoorTie
import Derived.WalkKit
import Derived.ProofKit
import Derived.OpenShut
import Derived.LaidMore
import Derived.Lay
import Derived.SevenTiedAt
import Derived.Stop.Joined
import Derived.Below
import Derived.Deep.Slices
import Derived.Test.YbulkckzsDoorLaw
namespace Go.Proofs.YbulkckzsDoor.lawS4347CFirstPktinfo
open Go.ChangeShapes Go.WideShapes Go.ChangeAt Go.RowKit
set_option linter.unusedVariables false

theorem own : ownKnob Ybad.prog.godebug = none := by kernel_rfl
theorem laidOut : laidOutB Ybad.prog = true := by kernel_rfl
theorem c5 : Ybad.prog.cellsOf 5 = 1 := by kernel_rfl
theorem c43 : Ybad.prog.cellsOf 43 = 16 := by kernel_rfl
theorem c45 : Ybad.prog.cellsOf 45 = 18 := by kernel_rfl
theorem c27 : Ybad.prog.cellsOf 27 = 1 := by kernel_rfl
theorem c29 : Ybad.prog.cellsOf 29 = 1 := by kernel_rfl

/-- One message's cells. -/
theorem msg_of {H : Type} {enc : TypeId × Value → H} {W : World} {n : Nat} {cs : List Value} {x : DataW H × List MemPlace} (h : DataW.trod enc Ybad.prog W 0 (fun _ => true) true n 45 cs = some x) : ∃ m : Msg, m.ok ∧ ∀ i, i < 18 → cs[i]? = (mcells m)[i]? := by
  obtain ⟨xs, k, _, _, hl, hxl, hf⟩ := DataW.trod_struct Ybad.underlying45 h
  rw [c45] at hl
  have byte : ∀ (y : DataW H × List MemPlace) (n : Nat) (i : Nat), DataW.trod enc Ybad.prog W 0 (fun _ => true) true n 5 ((cs.drop i).take 1) = some y → ∃ b : Nat, b < 256 ∧ cs[i]? = some (.int .u8 (b : Int)) := fun y n i hy => by
    obtain ⟨z, e1, _, e3⟩ := DataW.trod_int Ybad.underlying5 hy
    have hb := bounds_u8 e3
    refine ⟨z.toNat, by omega, ?_⟩
    have h0 : ((cs.drop i).take 1)[0]? = some (.int .u8 z) := by rw [e1]; rfl
    rw [Int.toNat_of_nonneg hb.1]
    simpa using h0
  match xs, hxl with
  | [y0, y1, y2], _ =>
    have g0 : DataW.trod enc Ybad.prog W 0 (fun _ => true) true k 5 ((cs.drop 0).take (Ybad.prog.cellsOf 5)) = some y0 := hf 0 _ rfl
    have g1 : DataW.trod enc Ybad.prog W 0 (fun _ => true) true k 5 ((cs.drop 1).take (Ybad.prog.cellsOf 5)) = some y1 := hf 1 _ rfl
    have g2 : DataW.trod enc Ybad.prog W 0 (fun _ => true) true k 43 ((cs.drop 2).take (Ybad.prog.cellsOf 43)) = some y2 := hf 2 _ rfl
    rw [c5] at g0 g1
    rw [c43] at g2
    obtain ⟨b0, l0, e0⟩ := byte _ _ 0 g0
    obtain ⟨b1, l1, e1⟩ := byte _ _ 1 g1
    obtain ⟨ys, m, _, _, _, hyl, hel⟩ := DataW.trod_array Ybad.underlying43 g2
    have each : ∀ j, j < 16 → ∃ b : Nat, b < 256 ∧ cs[2 + j]? = some (.int .u8 (b : Int)) := fun j hj => by
      have hE := hel j hj
      rw [c5, Nat.mul_one, List.getElem?_eq_getElem (by omega)] at hE
      have e : (cs.drop (2 + j)).take 1 = (((cs.drop 2).take 16).drop j).take 1 := by rw [List.drop_take, List.drop_drop, List.take_take, Nat.min_eq_left (by omega)]
      exact byte ys[j] m (2 + j) (by rw [e]; exact hE)
    obtain ⟨f, hfj⟩ := Go.Deep.choose_lt (α := Nat) each
    refine ⟨⟨b0, b1, fun j => if j < 16 then f j else 0⟩, ⟨l0, l1, fun j => ?_⟩, fun i hi => ?_⟩
    · by_cases hj : j < 16
      · simp only [if_pos hj]; exact (hfj j hj).1
      · simp only [if_neg hj]; omega
    · match i, hi with
      | 0, _ => exact e0
      | 1, _ => exact e1
      | 2, _ => exact (hfj 0 (by omega)).2
      | 3, _ => exact (hfj 1 (by omega)).2
      | 4, _ => exact (hfj 2 (by omega)).2
      | 5, _ => exact (hfj 3 (by omega)).2
      | 6, _ => exact (hfj 4 (by omega)).2
      | 7, _ => exact (hfj 5 (by omega)).2
      | 8, _ => exact (hfj 6 (by omega)).2
      | 9, _ => exact (hfj 7 (by omega)).2
      | 10, _ => exact (hfj 8 (by omega)).2
      | 11, _ => exact (hfj 9 (by omega)).2
      | 12, _ => exact (hfj 10 (by omega)).2
      | 13, _ => exact (hfj 11 (by omega)).2
      | 14, _ => exact (hfj 12 (by omega)).2
      | 15, _ => exact (hfj 13 (by omega)).2
      | 16, _ => exact (hfj 14 (by omega)).2
      | 17, _ => exact (hfj 15 (by omega)).2
      | i + 18, hi => omega

theorem msgsAt {H : Type} {enc : TypeId × Value → H} {W : World} {a : Option Addr} {len cap : Nat} {d : DataW H} {ps : List MemPlace} (h : DataW.Trod enc Ybad.prog W 0 (fun _ => true) true 22 (.slice a len cap) d ps) : ∃ M, MsgsAt W a len M := by
  obtain ⟨fuel, hf⟩ := h
  have hz : (⟨0, 0, fun _ => 0⟩ : Msg).ok := ⟨by decide, by decide, fun _ => by show 0 < 256; decide⟩
  rcases Go.Deep.open_slice Ybad.underlying22 hf with ⟨hcs, _⟩ | ⟨x, l, c, m, n, D, Pl, hcs, _, hl, hm, hmm, _, hx⟩
  · simp [Value.cells] at hcs
    obtain ⟨rfl, rfl, rfl⟩ := hcs
    exact ⟨fun _ => ⟨0, 0, fun _ => 0⟩, fun j => hz, fun h => by omega⟩
  · simp [Value.cells] at hcs
    obtain ⟨rfl, rfl, rfl⟩ := hcs
    have hm' : m = cap := by simpa using hmm
    subst hm'
    have each : ∀ i, i < m → ∃ q : Msg, q.ok ∧ ∀ j, j < 18 → W.cell? (x.add (i * 18 + j)) = (mcells q)[j]? := fun i hi => by
      obtain ⟨cs', q1, q2⟩ := hx i hi
      rw [c45] at q1
      obtain ⟨_, _, hcell⟩ := World.cells?_some q1
      obtain ⟨q, hok, hq⟩ := msg_of q2
      exact ⟨q, hok, fun j hj => by rw [← hq j hj, ← hcell j hj, Go.Deep.add_add]⟩
    refine ⟨fun i => if h : i < m then (each i h).choose else ⟨0, 0, fun _ => 0⟩, fun i => ?_, fun h0 => ?_⟩
    · by_cases hi : i < m
      · simp only [dif_pos hi]; exact (each i hi).choose_spec.1
      · simp only [dif_neg hi]; exact hz
    · obtain ⟨b, off, spot⟩ := x
      have c0 := (each 0 (by omega)).choose_spec.2 0 (by omega)
      have c0' : W.cell? (Addr.add ⟨b, off, spot⟩ (0 * 18 + 0)) = some (.int .u8 ((each 0 (by omega)).choose.k : Int)) := c0
      have hs : spot = none := by simpa [Addr.add] using World.cell?_spot c0'
      subst hs
      refine ⟨b, off, rfl, ?_, fun j hj i hi => ?_⟩
      · have := hp_cell_lt c0'
        simpa [Addr.add] using this
      · have hjm : j < m := by omega
        simp only [dif_pos hjm]
        rw [← (each j hjm).choose_spec.2 i hi, add_plain, Nat.add_assoc]

/-- One variable's cell. -/
theorem var_cell {W : World} {n : String} {g : Nat} {cs : Array Value} {fuel : Nat} {d : DataW Unit} {p : List MemPlace} (hg : Ybad.prog.globalNamed n = some g) (hv : W.var? Ybad.prog n = some cs) (hd : DataW.trod (fun _ => ()) Ybad.prog W 0 (fun _ => true) false fuel 29 cs.toList = some (.agg [.ptr d], p)) :
    ∃ a, W.cell? ⟨g, 0, none⟩ = some (.pointer a) := by
  obtain ⟨xs, k, _, ex, hl, hxl, hf⟩ := DataW.trod_struct Ybad.underlying29 hd
  match xs, hxl with
  | [y], _ =>
    have g0 : DataW.trod (fun _ => ()) Ybad.prog W 0 (fun _ => true) false k 27 ((cs.toList.drop 0).take (Ybad.prog.cellsOf 27)) = some y := hf 0 _ rfl
    rw [c27] at g0
    have hy : y.1 = .ptr d := by
      have := (DataW.agg.inj (Prod.mk.inj ex).1).symm
      simpa using this
    obtain ⟨y1, y2⟩ := y
    simp only at hy
    subst hy
    obtain ⟨_, a, _, _, e, _⟩ := ptr_of_trod Ybad.underlying27 g0
    refine ⟨some a, ?_⟩
    rw [World.var?_cell hg hv 0]
    have h0 : ((cs.toList.drop 0).take 1)[0]? = some (.pointer (some a)) := by rw [e]; rfl
    simpa using h0

theorem laid_cells {W : World} (h : laidMetH Ybad.prog Rows.lawS4347CFirstPktinfoRow.laid W) : (∃ z6, W.cell? ⟨1, 0, none⟩ = some (.pointer z6)) ∧ ∃ z4, W.cell? ⟨2, 0, none⟩ = some (.pointer z4) := by
  rw [MakeChecks.laidMetH_plain _ _ _ (by kernel_rfl)] at h
  obtain ⟨ps, ⟨g, t, cs, fuel, p, q, hg, ht, hv, hd, ⟨g', t', cs', fuel', p', q', hg', ht', hv', hd', _, _⟩, _⟩, _, _⟩ := h
  obtain rfl := Option.some.inj ((show Ybad.prog.globalNamed "net/netip.z4" = some 2 by kernel_rfl).symm.trans hg)
  obtain rfl := Option.some.inj ((show (Ybad.prog.globals[2]?).map (·.type) = some 29 by kernel_rfl).symm.trans ht)
  obtain rfl := Option.some.inj ((show Ybad.prog.globalNamed "net/netip.z6noz" = some 1 by kernel_rfl).symm.trans hg')
  obtain rfl := Option.some.inj ((show (Ybad.prog.globals[1]?).map (·.type) = some 29 by kernel_rfl).symm.trans ht')
  exact ⟨var_cell hg' hv' hd', var_cell hg hv hd⟩

set_option maxRecDepth 100000 in
theorem lifted (os : Os) (started : os.Started) (H : Type) (enc : TypeId × Value → H) :
    ReturnsInHanded {} Ybad.checked os 3 .any (fun w args => (Rows.lawS4347CFirstPktinfoSpec.pre enc Ybad.prog Ybad.f3 Rows.lawS4347CFirstPktinfoRow.domain false w args ∧ laidMetH Ybad.prog Rows.lawS4347CFirstPktinfoRow.laid w) ∧ sizedMet enc Ybad.prog Ybad.f3 (OpenSpec.ofChange Rows.lawS4347CFirstPktinfoSpec) false w args)
      (Rows.lawS4347CFirstPktinfoSpec.post enc Ybad.prog Ybad.f3 false true false false) := by
  refine returnsInHanded_of_change_and (C := Ybad.checked) (X := fun w _ => laidMetH Ybad.prog Rows.lawS4347CFirstPktinfoRow.laid w) (fun _ _ _ hh h => h.of_heap hh) own started (by kernel_rfl) Ybad.func3
    (ChangeSpec.witness_shaped (enc := enc) (C := Ybad.checked) (os := os) (X := fun w _ => laidMetH Ybad.prog Rows.lawS4347CFirstPktinfoRow.laid w) false (World.laidAll Ybad.prog os Rows.lawS4347CFirstPktinfoRow.laid) #[.slice none 0 0, .int .u8 0] 8 (World.laidAll_os _ _ _)
      (World.shaped_of_ZipB (by kernel_rfl) (by kernel_rfl)) (by kernel_rfl) (by kernel_rfl) (by kernel_rfl)
      (by rw [MakeChecks.laidMetH_plain _ _ _ (by kernel_rfl)]; exact laidMet_laidAll _ (by kernel_rfl) (by kernel_rfl))) ?_
  intro W base args ds gs before hval0 hW _ _ hL _
  have hval : ∀ (j : Nat) t v, Ybad.f3.params[j]? = some t → args[j]? = some v → Value.okWide Ybad.prog W .any base t v := hval0
  have hW' := hW
  obtain ⟨p, q, hA0, hV, rfl, hfz, hnd⟩ := hW
  have hA : DataW.TrodAll enc Ybad.prog W 0 (fun _ => true) true Ybad.f3.params.toList args.toList ds p := hA0
  rw [Ybad.params3] at hA hval
  obtain ⟨v0, v1, d0, d1, p0, p1, rfl, rfl, rfl, h0, h1⟩ := trodAll_two hA
  obtain ⟨rfl, rfl⟩ := trodVars_none hV
  obtain ⟨a0, len0, cap0, rfl⟩ := okWide_slice Ybad.underlying22 (hval 0 22 v0 rfl rfl)
  have k0 := h0
  have lt0 : ∀ x ∈ p0, x.block < W.heap.size := by obtain ⟨m, hm⟩ := k0; exact DataW.trod_lt m _ _ _ hm
  obtain ⟨M, hM⟩ := msgsAt h0
  obtain ⟨t, rfl, rfl, rfl, wt⟩ := open_int Ybad.underlying5 (hval 1 5 v1 rfl rfl) h1
  have bt := bounds_u8 wt
  obtain ⟨tail, rfl⟩ : ∃ n : Nat, t = (n : Int) := ⟨t.toNat, by omega⟩
  obtain ⟨⟨z6, h6⟩, z4, h4⟩ := laid_cells hL
  clear hA0 hval0
  refine (pktinfo_walk a0 len0 cap0 tail M z6 z4 W hM (by omega) h6 h4).mono fun e W' ⟨he, bel⟩ => ?_
  subst he
  exact ⟨_, rfl, _, _, _, [], _, [], hW', trodAll_mk1 (shut_bool Ybad.underlying4 _), (trodAll_cons_mk (Below.trod laidOut (by kernel_rfl) (of_decide_eq_true (by kernel_rfl)) k0 bel lt0) (trodAll_cons_mk (shut_int Ybad.underlying5 wt) trodAll_mk0)), rfl, bel.frame _, fun h => by cases h⟩

theorem over : Rows.LawS4347CFirstPktinfoSaid :=
  OpenClaim.holds_of_wide 3 Ybad.f3 rfl rfl rfl rfl rfl rfl rfl ⟨rfl, rfl, rfl, rfl, rfl⟩ rfl rfl rfl rfl rfl (by kernel_rfl) Ybad.func3 (by kernel_rfl)
    (of_decide_eq_true (by kernel_rfl)) (by unfold Func.isWrapper; first | (rw [if_pos (by decide +kernel)]; kernel_rfl) | (rw [if_neg (by decide +kernel)]; exact ⟨rfl, rfl⟩))
    (fun os started H enc _ => lifted os started H enc)

/-- ████ THE STATEMENT ████ -/
theorem proved : Rows.LawS4347CFirstPktinfoCardSaid :=
  Claim7.holds_tied_plain_at .later [] [.called, .called] true (true, "48ad29eeb14c8983db4a86dbc3859d32b1edbce37ea4026a4c76d762e9cb744e") false
    over (fun _ h => by cases h) (by kernel_rfl) (fun _ h => by cases h) lawS4347CFirstPktinfo_row_tie rfl ⟨rfl, rfl⟩ (by kernel_rfl) rfl
    (fun f fn hf hfn => by
      obtain rfl : f = 3 := Option.some.inj ((show Ybad.prog.funcNamed "example.com/freshet/freshet/collector.LawS4347CFirstPktinfo" = some 3 by kernel_rfl).symm.trans hf) |>.symm
      obtain rfl : fn = Ybad.f3 := (Option.some.inj (Ybad.func3.symm.trans hfn)).symm
      exact ⟨by kernel_rfl, fun j t ht => by
        rw [Ybad.params3] at ht
        have h3 : t = 22 ∨ t = 5 := by
          rcases j with _ | _ | j
          · left; simpa using ht.symm
          · right; simpa using ht.symm
          · simp at ht
        rcases h3 with rfl | rfl
        · exact (show Ybad.prog.wantsStandIn 22 = false by kernel_rfl)
        · exact (show Ybad.prog.wantsStandIn 5 = false by kernel_rfl)⟩)
    (by kernel_rfl)
#print axioms proved
end Go.Proofs.YbulkckzsDoor.lawS4347CFirstPktinfo
