import Derived.Test.YbulkckzsDoorBld2
import Derived.Test.YbulkckzsDoorEql
set_option linter.unusedVariables false
set_option linter.unusedSimpArgs false
namespace Go.Proofs.YbulkckzsDoor
open Go.RowKit
attribute [local go_sem ↓] Go.wp_at_zero Go.wp_at_succ

set_option maxRecDepth 100000 in
theorem parse_nil (w : World) : Calls Ybad.prog 13 #[.slice none 0 0] w fun e w' => e = .returned (.tuple #[.slice none 0 0, .nilIface]) ∧ w' = w := by
  go_enter Ybad.func13, Ybad.ntmps13
  go_wp2_with fail
  refine wp_loop_rounds 1 ?_
  rw [rounds_succ]
  go_wp2_with (go_at_call 20; refine (cmsgLen0 _).mono ?_; rintro e w1 ⟨rfl, rfl⟩)
  go_ret2
  exact ⟨rfl, rfl⟩
set_option maxRecDepth 100000 in
theorem dest_nil (w : World) : Calls Ybad.prog 7 #[.slice none 0 0] w fun e w' => e = .returned (av 0 0 none) ∧ Ext w w' := by
  unfold av
  go_enter Ybad.func7, Ybad.ntmps7
  go_wp2_with (go_at_call 13; refine (parse_nil _).mono ?_; rintro e w1 ⟨rfl, rfl⟩)
  refine wp_loop_rounds 1 ?_
  rw [rounds_succ]
  go_wp2_with fail
  (try simp only [Exit.inBlock, Exit.then])
  refine bodyPost_ret (v := .agg #[.int .u64 0, .int .u64 0, .pointer none]) (by simp [results, Ybad.results7, go_sem]; try rfl) rfl ?_
  exact ⟨rfl, (Ext.refl w).alloc _⟩
def nthB (L : List Nat) (j : Nat) : Nat := L.getD j 0
theorem encs_pos {m : Msg} {ms : List Msg} : 0 < (encs (m :: ms)).length := by
  have h1 := menc_len m
  have h2 := al_ge (mrec m).a
  simp only [encs, List.length_append]
  unfold mrec at h1 h2
  simp only at h1 h2
  omega
theorem menc_lt {m : Msg} (h : m.ok) : ∀ x ∈ menc m, x < 256 := by
  obtain ⟨h1, h2, h3⟩ := h
  have hd : ∀ x ∈ mdat m, x < 256 := by
    have ha : ∀ x ∈ ad16 m.a, x < 256 := fun x hx => by
      simp only [ad16, List.mem_cons, List.not_mem_nil, or_false] at hx
      rcases hx with rfl | rfl | rfl | rfl | rfl | rfl | rfl | rfl | rfl | rfl | rfl | rfl | rfl | rfl | rfl | rfl <;> exact h3 _
    intro x hx
    rcases mkind m with hk | hk | hk | hk | hk | hk
    · simp only [mdat, hk, List.mem_append, List.mem_cons, List.not_mem_nil, or_false] at hx
      rcases hx with hx | rfl | rfl | rfl | rfl
      · exact ha x hx
      · exact h2
      · omega
      · omega
      · omega
    · simp only [mdat, hk, List.mem_cons, List.not_mem_nil, or_false] at hx
      rcases hx with rfl | rfl | rfl | rfl | rfl | rfl | rfl | rfl | rfl | rfl | rfl | rfl <;> first | exact h2 | exact h3 _ | omega
    · simp only [mdat, hk] at hx
      exact ha x (List.mem_of_mem_take hx)
    · simp only [mdat, hk] at hx
      exact ha x (List.mem_of_mem_take hx)
    · simp only [mdat, hk] at hx
      exact ha x (List.mem_of_mem_take hx)
    · simp only [mdat, hk] at hx
      split at hx
      · exact ha x hx
      · exact ha x (List.mem_of_mem_take hx)
  have hrk := mrec_ok m
  have hb : (16 + (mdat m).length) < 256 ∧ mlev m < 256 ∧ mtyp m < 256 := by
    unfold RK mrec at hrk
    simp only at hrk
    have := mdat_len m
    omega
  intro x hx
  simp only [menc, enc, hdr, List.mem_append, List.mem_cons, List.not_mem_nil, or_false, List.mem_replicate] at hx
  rcases hx with ((((rfl | rfl | rfl | rfl | rfl | rfl | rfl | rfl) | (rfl | rfl | rfl | rfl)) | (rfl | rfl | rfl | rfl)) | hx) | ⟨_, rfl⟩
  all_goals first | omega | exact hd _ hx
theorem encs_lt : ∀ (ms : List Msg), (∀ m ∈ ms, m.ok) → ∀ x ∈ encs ms, x < 256
  | [], _, x, hx => by simp [encs] at hx
  | m :: ms, h, x, hx => by
    rcases List.mem_append.1 hx with q | q
    · exact menc_lt (h m (by simp)) x q
    · exact encs_lt ms (fun m' hm => h m' (by simp [hm])) x q
/-- destination over what was built, with a tail. -/
theorem dest_bytes {W : World} {base : Nat} {v : Value} {ms : List Msg} {k : Nat} {z6 z4 : Option Addr} (hB : Bytes W base v (encs ms ++ List.replicate k 255)) (hk : k < 16) (hlen : ms.length ≤ 300) (hok : ∀ m ∈ ms, m.ok) (h6 : W.cell? ⟨1, 0, none⟩ = some (.pointer z6)) (h4 : W.cell? ⟨2, 0, none⟩ = some (.pointer z4)) :
    Calls Ybad.prog 7 #[v] W fun e w' => e = .returned (wantV z6 z4 ms) ∧ Ext W w' := by
  have hle := encs_le ms
  rcases hB.2 with ⟨q, e⟩ | ⟨g, cap, cur, q, _, hc, hcap, _, hcs, ht⟩
  · have hms : ms = [] := by
      cases ms with
      | nil => rfl
      | cons m ms => have := encs_pos (m := m) (ms := ms); rw [List.length_append] at e; omega
    subst hms
    rw [q]
    exact dest_nil W
  · rw [q]
    have hget : ∀ j (hj : j < (encs ms ++ List.replicate k 255).length), cur[j]? = some (bv (encs ms ++ List.replicate k 255)[j]) := fun j hj => by
      rw [← Array.getElem?_toList, ← List.getElem?_take_of_lt (i := j) (j := (encs ms ++ List.replicate k 255).length * 1) (by omega), ht]
      rw [List.getElem?_map, List.getElem?_eq_getElem hj]
      rfl
    have hL : (encs ms ++ List.replicate k 255).length = tot (ms.map mrec) + k := by rw [List.length_append, encs_len, List.length_replicate]
    have hgE : ∀ i (h : i < (encs ms).length), (encs ms ++ List.replicate k 255)[i]'(by simp; omega) = (encs ms)[i] := fun i h => List.getElem_append_left h
    have hlay : Lay cur 0 (ms.map mrec) := lay_of ms 0 (fun i hi => by
      rw [Nat.zero_add, hget i (by simp; omega), hgE i hi])
    have hd := dest_some g _ cap k (ms.map mrec) cur (nthB (encs ms ++ List.replicate k 255)) z6 z4 W hc hlay hL hk hcap (by simp; omega) (by simp; omega) (fun r hr => by
        obtain ⟨m, _, rfl⟩ := List.mem_map.1 hr
        exact mrec_ok m)
      (fun j hj => by rw [hget j hj]; simp [nthB, List.getD, List.getElem?_eq_getElem hj])
      (fun j => by
        unfold nthB
        rw [List.getD_eq_getElem?_getD]
        cases hx : (encs ms ++ List.replicate k 255)[j]? with
        | none => simp
        | some x =>
          have hm := List.mem_of_getElem? hx
          rcases List.mem_append.1 hm with q | q
          · simpa using encs_lt ms hok x q
          · have := (List.mem_replicate.1 q).2
            simp [this]) h6 h4
    rw [dest_want z6 z4 _ ms 0 (fun i hi => by
      rw [Nat.zero_add]
      have hi2 : i < (encs ms ++ List.replicate k 255).length := by simp; omega
      simp only [nthB, List.getD, List.getElem?_eq_getElem hi2, Option.getD_some]
      exact hgE i hi)] at hd
    exact hd
end Go.Proofs.YbulkckzsDoor
