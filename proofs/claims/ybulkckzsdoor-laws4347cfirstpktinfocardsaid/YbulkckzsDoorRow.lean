import Derived.Test.YbulkckzsDoorHdr
import Derived.Maps.AppendAt
import Derived.Laws.OwnMore
import Derived.OwnWalk
import Derived.Lib.Walk
import Derived.Lib.AppendZerosOnto
set_option linter.unusedVariables false
set_option linter.unusedSimpArgs false
namespace Go.Proofs.YbulkckzsDoor
open Go.RowKit

theorem info_parts {P : Program} {e : TypeId} {z : Value} {s b : Nat} (h : (P.info? e).map (fun i => (i.zero, i.size, i.bytes)) = some (some z, s, b)) : ∃ i, P.info? e = some i ∧ i.zero = some z ∧ i.size = s ∧ i.bytes = b := by
  obtain ⟨i, hi, hzz⟩ := Option.map_eq_some_iff.1 h
  simp only [Prod.mk.injEq] at hzz
  exact ⟨i, hi, hzz.1, hzz.2.1, hzz.2.2⟩
theorem owns_block {w w' : World} {base : Nat} {e : TypeId} {size : Nat} {v : Value} {n : Nat} {xs : List Value} (h : w.ownsRow base e size v n xs) (hb : ∀ g o, v.ownBlock = some g → w.heap[g]? = some o → w'.heap[g]? = some o) : w'.ownsRow base e size v n xs := by
  obtain ⟨h1, h2⟩ := h
  refine ⟨h1, ?_⟩
  rcases h2 with h2 | ⟨g, cap, cur, rfl, h3, h4, h5⟩
  · exact .inl h2
  · exact .inr ⟨g, cap, cur, rfl, h3, hb g _ rfl h4, h5⟩
theorem owns_ext {w w' : World} {base : Nat} {e : TypeId} {size : Nat} {v : Value} {n : Nat} {xs : List Value} (h : w.ownsRow base e size v n xs) (hx : Ext w w') : w'.ownsRow base e size v n xs :=
  owns_block h (fun g o _ hg => hx.some hg)
theorem owns_fr {w w' : World} {base : Nat} {e : TypeId} {size : Nat} {v : Value} {n : Nat} {xs : List Value} {bs : List Nat} (h : w.ownsRow base e size v n xs) (hf : Fr bs w w') (hn : ∀ g, v.ownBlock = some g → g ∉ bs) : w'.ownsRow base e size v n xs :=
  owns_block h (fun g o hg hb => hf.some hb (hn g hg))
theorem info58 : (Ybad.prog.info? 58).map (fun i => (i.zero, i.size, i.bytes)) = some (some (.agg #[.int .u64 0, .int .i32 0, .int .i32 0, .slice none 0 0]), 4, 40) := by kernel_rfl
theorem info5 : (Ybad.prog.info? 5).map (fun i => (i.zero, i.size, i.bytes)) = some (some (.int .u8 0), 1, 1) := by kernel_rfl
theorem app_rec {w W : World} (hx : Ext w W) (ty : TypeId) (v : Value) (n : Nat) (xs : List Value) (a b c d : Value) (hown : W.ownsRow w.heap.size 58 4 v n xs) (h1 : ∀ u ∈ [a, b, c, d], u.oneCell' = true) (hn : n ≤ 100000) :
    ∃ v' w', (Builtin.append_ #[50, 50] ty #[v, .slice (some ⟨W.heap.size, 0, none⟩) 1 1]).run Ybad.prog (W.alloc (.cells #[a, b, c, d] 58)) = .ok v' w' ∧ w'.ownsRow w.heap.size 58 4 v' (n + 1) (xs ++ [a, b, c, d]) ∧ Ext w w' ∧ Fr v.ownBlock.toList W w' := by
  obtain ⟨i0, hi0, hz0, hzs, hzb⟩ := info_parts info58
  have hx' := hx.alloc (.cells #[a, b, c, d] 58)
  have how := owns_ext hown ((Ext.refl W).alloc (.cells #[a, b, c, d] 58))
  obtain ⟨v', w4, hr, hown', hgrow, hnil, hat⟩ := run_append_own_at (P := Ybad.prog) (W.alloc (.cells #[a, b, c, d] 58)) w.heap.size 50 ty 58 i0 (.agg #[.int .u64 0, .int .i32 0, .int .i32 0, .slice none 0 0]) 4 40 Ybad.underlying50 hi0 hz0 hzs hzb rfl (by decide) v n xs how ⟨W.heap.size, 0, none⟩ 1 1 [a, b, c, d] rfl
    (fun j u hu => by
      rw [Addr.add_lit, Nat.zero_add, hp_cell (hp_alloc_new W _)]
      match j, hu with
      | 0, hu => simpa using hu
      | 1, hu => simpa using hu
      | 2, hu => simpa using hu
      | 3, hu => simpa using hu) h1 (by unfold maxLen; omega) (by omega) hx'.le
  have h3 : Fr v.ownBlock.toList (W.alloc (.cells #[a, b, c, d] 58)) w4 := Fr.of_grown hgrow _ (fun g hg => .inl (by simp [hg]))
  refine ⟨v', w4, hr, hown', ?_, (Fr.of_ext ((Ext.refl W).alloc _) _).trans h3⟩
  have h1 : Fr [] w (W.alloc (.cells #[a, b, c, d] 58)) := Fr.of_ext hx' []
  have h2 : Fr v.ownBlock.toList (W.alloc (.cells #[a, b, c, d] 58)) w4 := Fr.of_grown hgrow _ (fun g hg => .inl (by simp [hg]))
  refine (h1.trans' h2 (fun x hxm => .inr ?_)).ext
  have hv := Option.mem_toList.1 hxm
  rcases hown.2 with ⟨q, _⟩ | ⟨g, cap, cur, q, hg, _⟩
  · rw [q] at hv; cases hv
  · rw [q] at hv
    have : g = x := by injection hv
    omega
theorem own_ty {w : World} {base : Nat} {e : TypeId} {size : Nat} {v : Value} {n : Nat} {xs : List Value} (h : w.ownsRow base e size v n xs) {g : Nat} (hg : v.ownBlock = some g) : ∃ c, w.heap[g]? = some (.cells c e (0, 0)) := by
  rcases h.2 with ⟨q, _⟩ | ⟨g', cap, cur, q, _, h4, _⟩
  · rw [q] at hg; cases hg
  · rw [q] at hg
    have : g' = g := by injection hg
    exact ⟨cur, this ▸ h4⟩
theorem own_out {w : World} {base : Nat} {e : TypeId} {size : Nat} {v : Value} {n : Nat} {xs : List Value} (h : w.ownsRow base e size v n xs) {b : Nat} {a : Addr} {u : TypeId} (hb : w.heap[b]? = some (.view a u)) : b ∉ v.ownBlock.toList := fun hm => by
  obtain ⟨c, hc⟩ := own_ty h (Option.mem_toList.1 hm)
  rw [hb] at hc
  cases hc
end Go.Proofs.YbulkckzsDoor
