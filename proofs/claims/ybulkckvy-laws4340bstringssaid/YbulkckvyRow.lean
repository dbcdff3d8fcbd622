import Derived.Test.YbulkckvyBsf
import Derived.Lib.AppendZerosOnto
import Derived.Maps.AppendAt
import Derived.Lib.Overlaps
import Derived.Laws.NewBlocks
import Derived.Laws.Externs
/-! Rows of cells: copy, append, clear at blocks that are known. Over any program. -/
set_option linter.unusedVariables false
namespace Go.Proofs.Ybulkckvy
open Go.RowKit

/-- The cells c, from o on overwritten by vs. -/
def putAt (c : Array Value) (o : Nat) (vs : List Value) : Array Value := (c.toList.take o ++ vs ++ c.toList.drop (o + vs.length)).toArray
theorem putAt_nil (c : Array Value) (o : Nat) : putAt c o [] = c := by simp [putAt]
theorem putAt_size (c : Array Value) (o : Nat) (vs : List Value) (h : o + vs.length ≤ c.size) : (putAt c o vs).size = c.size := by
  simp [putAt]; omega
theorem putAt_cons (c : Array Value) (o : Nat) (v : Value) (vs : List Value) (h : o + vs.length < c.size) : putAt (c.setIfInBounds o v) (o + 1) vs = putAt c o (v :: vs) := by
  obtain ⟨l⟩ := c
  have hl : o < l.length := by simp at h; omega
  simp only [putAt, List.setIfInBounds_toArray, List.length_cons]
  congr 1
  rw [List.take_set, List.drop_set, if_pos (by omega), show o + (vs.length + 1) = o + 1 + vs.length by omega]
  have : (l.take (o + 1)).set o v = l.take o ++ [v] := by
    rw [List.take_succ_eq_append_getElem hl, List.set_append_right _ _ (by simp; omega)]
    simp [show min o l.length = o by omega]
  rw [this]; simp
theorem hp_sets_ne (b : Nat) : ∀ (vs : List Value) (o : Nat) (w : World) (k : Nat), k ≠ b → (w.setCells b o vs).heap[k]? = w.heap[k]?
  | [], _, _, _, _ => rfl
  | v :: r, o, w, k, h => by rw [World.setCells, hp_sets_ne b r _ _ _ h, hp_set_ne _ _ _ _ h]
theorem hp_sets_size (b : Nat) : ∀ (vs : List Value) (o : Nat) (w : World), (w.setCells b o vs).heap.size = w.heap.size
  | [], _, _ => rfl
  | v :: r, o, w => by rw [World.setCells, hp_sets_size b r, hp_set_size]
theorem hp_sets_same (b : Nat) : ∀ (vs : List Value) (o : Nat) (w : World) (c : Array Value) (e : TypeId) (fr : Nat × Nat), w.heap[b]? = some (.cells c e fr) → o + vs.length ≤ c.size →
    (w.setCells b o vs).heap[b]? = some (.cells (putAt c o vs) e fr)
  | [], o, w, c, e, fr, h, _ => by rw [putAt_nil]; exact h
  | v :: r, o, w, c, e, fr, h, hl => by
    have hl' : o + r.length < c.size := by simp at hl; omega
    rw [World.setCells, hp_sets_same b r (o + 1) _ _ e fr (hp_set_same _ _ _ _ _ _ _ h) (by simp at hl ⊢; omega), putAt_cons c o v r hl']
theorem sets_grown (b : Nat) (vs : List Value) (o : Nat) (w : World) : w.grownBy (w.setCells b o vs) (some b) := by
  refine ⟨?_, ?_, ?_, by rw [hp_sets_size]; omega, fun k _ hk => hp_sets_ne b vs o w k (fun e => hk (by rw [e]))⟩
  · induction vs generalizing o w with
    | nil => rfl
    | cons v r ih => rw [World.setCells, ih]; rfl
  · induction vs generalizing o w with
    | nil => rfl
    | cons v r ih => rw [World.setCells, ih]; rfl
  · induction vs generalizing o w with
    | nil => rfl
    | cons v r ih => rw [World.setCells, ih]; rfl

section
variable {P : Program}
/-- copy(d, s), d in a block that is known, elements of whatever size. -/
theorem run_copy_blk (w : World) (dT ty elem : TypeId) (i : TypeInfo) (size : Nat) (hu : P.underlying dT = some (.slice elem)) (hi : P.info? elem = some i) (hsz : i.size = size)
    (g o dLen dCap : Nat) (a : Addr) (sLen sCap : Nat) (cur : Array Value) (e0 : TypeId) (cs : List Value)
    (m : Nat) (hm : Nat.min sLen dLen = m) (hg : w.heap[g]? = some (.cells cur e0 (0, 0))) (hn : cs.length = m * size) (hsrc : ∀ j v, cs[j]? = some v → w.cell? (a.add j) = some v) (hfit : o + cs.length ≤ cur.size) (h1 : ∀ v ∈ cs, v.oneCell' = true) :
    (Builtin.copy_ #[dT, dT] ty #[.slice (some ⟨g, o, none⟩) dLen dCap, .slice (some a) sLen sCap]).run P w = .ok (goInt m) (w.setCells g o cs) := by
  subst hsz
  subst hm
  have hl := run_firstCells_some (P := P) w i.size (Nat.min sLen dLen) a sLen sCap cs hn hsrc
  have hst := run_storeCells_cells (P := P) g o cs 0 w (fun j hj => by rw [hp_cell hg, Array.getElem?_eq_getElem (by omega)]; rfl) (fun j hj => hp_frozen hg _) h1
  simp only [Nat.add_zero] at hst
  simp [Builtin.copy_, run_underlying hu, Builtin.lenOf, sizeOf, typeInfo, hi, hl, hst]

/-- clear(s). -/
theorem run_clear_blk (w : World) (dT ty elem : TypeId) (i : TypeInfo) (z : Value) (hu : P.underlying dT = some (.slice elem)) (hi : P.info? elem = some i) (hz : i.zero = some z)
    (g o n c : Nat) (cur : Array Value) (e0 : TypeId) (hg : w.heap[g]? = some (.cells cur e0 (0, 0))) (hfit : o + n * z.cells.size ≤ cur.size) (h1 : ∀ v ∈ (Builtin.zeroCells z.cells n).toList, v.oneCell' = true) (hn : 0 < n) :
    (Builtin.clear_ #[dT] ty #[.slice (some ⟨g, o, none⟩) n c]).run P w = .ok (.tuple #[]) (w.setCells g o (Builtin.zeroCells z.cells n).toList) := by
  have hlen : (Builtin.zeroCells z.cells n).toList.length = n * z.cells.size := by simp [Builtin.zeroCells]
  have hst := run_storeCells_cells (P := P) g o (Builtin.zeroCells z.cells n).toList 0 w (fun j hj => by rw [hp_cell hg, Array.getElem?_eq_getElem (by omega)]; rfl) (fun j hj => hp_frozen hg _) h1
  simp only [Nat.add_zero] at hst
  obtain ⟨n, rfl⟩ : ∃ m, n = m + 1 := ⟨n - 1, by omega⟩
  simp [Builtin.clear_, run_underlying hu, zeroValue, typeInfo, hi, hz, hst]

theorem wp_copy_run (w : World) {o : Oper} {a : Act} {K : Act → World → Prop} {Q : Exit → Act → World → Prop} (d s : Operand) (t t' : TypeId)
    (ho : o.op = .call { callee := .builtin .copy, args := #[d, s], argTypes := #[t, t'] }) (v u : Value) (hd : a.eval d = v) (hs : a.eval s = u) {v' : Value} {w' : World}
    (hr : (Builtin.copy_ #[t, t'] o.type #[v, u]).run P w = .ok v' w') (h : K (a.put o.dst v') w') : o.wp P a w K Q := by
  unfold Oper.wp execOp
  simp only [ho, resolve, invoke, builtin, Sem.run_bind, Sem.run_pure, Result.andThen_ok, List.map_toArray, List.map_cons, List.map_nil, hd, hs, hr]
  exact h
theorem wpList_copy_run (w : World) {ops : Array Oper} {rest : List Oper} {o : Oper} {a : Act} {Q : Exit → Act → World → Prop} (hgd : o.guard = none) (d s : Operand) (t t' : TypeId)
    (ho : o.op = .call { callee := .builtin .copy, args := #[d, s], argTypes := #[t, t'] }) (v u : Value) (hd : a.eval d = v) (hs : a.eval s = u) {v' : Value} {w' : World}
    (hr : (Builtin.copy_ #[t, t'] o.type #[v, u]).run P w = .ok v' w') (h : wpList P ops Q rest (a.put o.dst v') w') : wpList P ops Q (o :: rest) a w :=
  wpList_plain hgd fun _ hK => wp_copy_run w d s t t' ho v u hd hs hr (hK _ _ h)
theorem step_copy_run {ops : Array Oper} {o : Oper} {a : Act} {w : World} {K : Act → World → Prop} {Q : Exit → Act → World → Prop} {E : Prop}
    (hg : o.guard = none) (d x : Operand) (dT sT : TypeId) (hop : o.op = Op.call { callee := Callee.builtin Builtin.copy, args := #[d, x], argTypes := #[dT, sT] })
    (v u : Value) (hd : a.eval d = v) (hx : a.eval x = u) {v' : Value} {w' : World} (hr : (Builtin.copy_ #[dT, sT] o.type #[v, u]).run P w = .ok v' w') (hK : K (a.put o.dst v') w') :
    if Region.wanted o (yielded ops a.tmps) = true then Oper.wp P o a w K Q else E := by
  have hw : Region.wanted o (yielded ops a.tmps) = true := by simp [Region.wanted, hg]
  rw [if_pos hw]
  exact wp_copy_run w d x dT sT hop v u hd hx hr hK
theorem step_append_run {ops : Array Oper} {o : Oper} {a : Act} {w : World} {K : Act → World → Prop} {Q : Exit → Act → World → Prop} {E : Prop}
    (hg : o.guard = none) (d x : Operand) (dT sT : TypeId) (hop : o.op = Op.call { callee := Callee.builtin Builtin.append, args := #[d, x], argTypes := #[dT, sT] })
    (v u : Value) (hd : a.eval d = v) (hx : a.eval x = u) {v' : Value} {w' : World} (hr : (Builtin.append_ #[dT, sT] o.type #[v, u]).run P w = .ok v' w') (hK : K (a.put o.dst v') w') :
    if Region.wanted o (yielded ops a.tmps) = true then Oper.wp P o a w K Q else E := by
  have hw : Region.wanted o (yielded ops a.tmps) = true := by simp [Region.wanted, hg]
  rw [if_pos hw]
  unfold Oper.wp execOp
  simp only [hop, resolve, invoke, builtin, Sem.run_bind, Sem.run_pure, Result.andThen_ok, List.map_toArray, List.map_cons, List.map_nil, hd, hx, hr]
  exact hK
theorem wpList_clear_run (w : World) {ops : Array Oper} {rest : List Oper} {o : Oper} {a : Act} {Q : Exit → Act → World → Prop} (hgd : o.guard = none) (s : Operand) (t : TypeId)
    (ho : o.op = .call { callee := .builtin .clear, args := #[s], argTypes := #[t] }) (u : Value) (hs : a.eval s = u) {v' : Value} {w' : World}
    (hr : (Builtin.clear_ #[t] o.type #[u]).run P w = .ok v' w') (h : wpList P ops Q rest (a.put o.dst v') w') : wpList P ops Q (o :: rest) a w := by
  refine wpList_plain hgd fun K hK => ?_
  unfold Oper.wp execOp
  simp only [ho, resolve, invoke, builtin, Sem.run_bind, Sem.run_pure, Result.andThen_ok, List.map_toArray, List.map_cons, List.map_nil, hs, hr]
  exact hK _ _ h
end

/-- What slices.Insert leaves: the elements xs, ys laid in at place i; the row where it was, or new. -/
def InsPost (w : World) (base : Nat) (e : TypeId) (size : Nat) (v : Value) (n : Nat) (zs : List Value) (en : Ending) (w' : World) : Prop :=
  ∃ v' g, en = .returned v' ∧ w'.ownsRow base e size v' (n + 1) zs ∧ w.grownBy w' v.ownBlock ∧ v'.ownBlock = some g ∧ (v.ownBlock = some g ∨ w.heap.size ≤ g)
theorem own_some {w : World} {base : Nat} {e : TypeId} {size : Nat} {v : Value} {n : Nat} {xs : List Value} (h : w.ownsRow base e size v (n + 1) xs) : ∃ g, v.ownBlock = some g := by
  obtain ⟨_, h2⟩ := h
  rcases h2 with ⟨_, h2⟩ | ⟨g, cap, cur, rfl, _⟩
  · omega
  · exact ⟨g, rfl⟩
theorem InsPost.of_append {w w' : World} {base : Nat} {e : TypeId} {size : Nat} {v v' u : Value} {n : Nat} {zs : List Value} (hu : u = v') (h : w'.ownsRow base e size v' (n + 1) zs) (hg : w.grownBy w' v.ownBlock) (hat : v'.ownBlock = v.ownBlock ∨ v'.ownBlock = some w.heap.size) :
    InsPost w base e size v n zs (.returned u) w' := by
  subst hu
  obtain ⟨g, hg'⟩ := own_some h
  refine ⟨_, g, rfl, h, hg, hg', ?_⟩
  rcases hat with hat | hat
  · exact .inl (by rw [← hat]; exact hg')
  · rw [hg'] at hat
    injection hat with hat
    exact .inr (by omega)
theorem grown_trans {a b c : World} {r : Option Nat} (h : a.grownBy b r) (k : b.grownBy c r) : a.grownBy c r :=
  ⟨k.os.trans h.os, k.tape.trans h.tape, k.output.trans h.output, Nat.le_trans h.size k.size, fun i hi hr => (k.block i (Nat.lt_of_lt_of_le hi h.size) hr).trans (h.block i hi hr)⟩
theorem grown_drew {a b : World} {r : Option Nat} (h : a.grownBy b r) : a.grownBy b.drew r := ⟨h.os, h.tape, h.output, h.size, h.block⟩
theorem grown_refl (a : World) (r : Option Nat) : a.grownBy a r := ⟨rfl, rfl, rfl, Nat.le_refl _, fun _ _ _ => rfl⟩
theorem grown_alloc {a b : World} {r : Option Nat} (h : a.grownBy b r) (o : Obj) : a.grownBy (b.alloc o) r :=
  ⟨h.os, h.tape, h.output, by rw [hp_alloc_size]; have := h.size; omega, fun i hi hr => by rw [hp_alloc_lt _ _ _ (Nat.lt_of_lt_of_le hi h.size)]; exact h.block i hi hr⟩
/-- Writes into a block that is new. -/
theorem grown_sets_new {a b : World} {r : Option Nat} (h : a.grownBy b r) (g o : Nat) (vs : List Value) (hg : a.heap.size ≤ g) : a.grownBy (b.setCells g o vs) r := by
  have k := sets_grown g vs o b
  exact ⟨k.os.trans h.os, k.tape.trans h.tape, k.output.trans h.output, Nat.le_trans h.size k.size, fun i hi hr => (hp_sets_ne g vs o b i (by omega)).trans (h.block i hi hr)⟩
/-- Shifting up by one element and laying in. -/
theorem shift_cells (cur : Array Value) (xs ys : List Value) (n i cap sz : Nat) (hxl : xs.length = n * sz) (hc : cur.size = cap * sz) (ht : cur.toList.take (n * sz) = xs) (hys : ys.length = sz) (hi : i < n) (hroom : n + 1 ≤ cap) :
    (putAt (putAt cur ((i + 1) * sz) (xs.drop (i * sz))) (i * sz) ys).toList.take ((n + 1) * sz) = xs.take (i * sz) ++ ys ++ xs.drop (i * sz) := by
  obtain ⟨l⟩ := cur
  have e1 : (n + 1) * sz = n * sz + sz := Nat.succ_mul _ _
  have e2 : (i + 1) * sz = i * sz + sz := Nat.succ_mul _ _
  have e3 : (i + 1) * sz ≤ n * sz := Nat.mul_le_mul_right _ hi
  have e4 : (n + 1) * sz ≤ cap * sz := Nat.mul_le_mul_right _ hroom
  simp at hc ht
  subst ht
  generalize n * sz = N at *
  generalize i * sz = I at *
  generalize cap * sz = C at *
  rw [e1, e2]
  have hNl : N + sz ≤ l.length := by omega
  have hIN : I + sz ≤ N := by omega
  have hx : (l.take N).length = N := by rw [List.length_take]; omega
  have hd : ((l.take N).drop I).length = N - I := by rw [List.length_drop, hx]
  show ((l.take (I + sz) ++ (l.take N).drop I ++ l.drop (I + sz + ((l.take N).drop I).length)).take I ++ ys ++ (l.take (I + sz) ++ (l.take N).drop I ++ l.drop (I + sz + ((l.take N).drop I).length)).drop (I + ys.length)).take (N + sz) = (l.take N).take I ++ ys ++ (l.take N).drop I
  have t1 : (l.take (I + sz)).length = I + sz := by rw [List.length_take]; omega
  generalize hR : l.drop (I + sz + ((l.take N).drop I).length) = R
  have q1 : (l.take (I + sz) ++ (l.take N).drop I ++ R).take I = l.take I := by
    rw [List.append_assoc, List.take_append_of_le_length (by omega), List.take_take, Nat.min_eq_left (by omega)]
  have q2 : (l.take (I + sz) ++ (l.take N).drop I ++ R).drop (I + ys.length) = (l.take N).drop I ++ R := by
    rw [hys, List.append_assoc, List.drop_left' t1]
  have q3 : (l.take N).take I = l.take I := by rw [List.take_take, Nat.min_eq_left (by omega)]
  rw [q1, q2, q3, ← List.append_assoc]
  have hlen : (l.take I ++ ys ++ (l.take N).drop I).length = N + sz := by
    simp only [List.length_append, hd, hys, List.length_take]; omega
  rw [List.take_append_of_le_length (by omega), List.take_of_length_le (by omega)]
/-- Laid into a new row. -/
theorem grow_cells (row : Array Value) (xs ys : List Value) (n i sz : Nat) (hxl : xs.length = n * sz) (hr : (n + 1) * sz ≤ row.size) (ht : row.toList.take (i * sz) = xs.take (i * sz)) (hys : ys.length = sz) (hi : i < n) :
    (putAt (putAt row (i * sz) ys) ((i + 1) * sz) (xs.drop (i * sz))).toList.take ((n + 1) * sz) = xs.take (i * sz) ++ ys ++ xs.drop (i * sz) := by
  obtain ⟨l⟩ := row
  have e1 : (n + 1) * sz = n * sz + sz := Nat.succ_mul _ _
  have e2 : (i + 1) * sz = i * sz + sz := Nat.succ_mul _ _
  have e3 : (i + 1) * sz ≤ n * sz := Nat.mul_le_mul_right _ hi
  simp at hr ht
  generalize n * sz = N at *
  generalize i * sz = I at *
  rw [e1, e2]
  have hd : (xs.drop I).length = N - I := by rw [List.length_drop, hxl]
  show (((l.take I ++ ys ++ l.drop (I + ys.length)).take (I + sz) ++ xs.drop I ++ (l.take I ++ ys ++ l.drop (I + ys.length)).drop (I + sz + (xs.drop I).length))).take (N + sz) = xs.take I ++ ys ++ xs.drop I
  have t1 : (l.take I ++ ys).length = I + sz := by rw [List.length_append, List.length_take, hys]; omega
  rw [List.take_left' t1, ht]
  have hlen : (xs.take I ++ ys ++ xs.drop I).length = N + sz := by
    simp only [List.length_append, hd, hys, List.length_take]; omega
  rw [List.take_append_of_le_length (by omega), List.take_of_length_le (by omega)]
/-- Closing the gap. -/
theorem close_cells (cur : Array Value) (xs zs : List Value) (n i j m cap sz : Nat) (hxl : xs.length = n * sz) (hc : cur.size = cap * sz) (ht : cur.toList.take (n * sz) = xs) (hi : i ≤ j) (hj : j ≤ n) (hn : n ≤ cap) (hm : m = i + (n - j)) :
    (putAt (putAt cur (i * sz) (xs.drop (j * sz))) (m * sz) zs).toList.take (m * sz) = xs.take (i * sz) ++ xs.drop (j * sz) := by
  obtain ⟨l⟩ := cur
  have e1 : j * sz ≤ n * sz := Nat.mul_le_mul_right _ hj
  have e2 : i * sz ≤ j * sz := Nat.mul_le_mul_right _ hi
  have e3 : n * sz ≤ cap * sz := Nat.mul_le_mul_right _ hn
  have e4 : m * sz = i * sz + (n * sz - j * sz) := by rw [hm, Nat.add_mul, Nat.sub_mul]
  simp at hc ht
  subst ht
  generalize n * sz = N at *
  generalize i * sz = I at *
  generalize j * sz = J at *
  generalize m * sz = M at *
  have hd : ((l.take N).drop J).length = N - J := by rw [List.length_drop, List.length_take]; omega
  have t1 : (l.take I ++ (l.take N).drop J).length = M := by rw [List.length_append, hd, List.length_take]; omega
  show (((l.take I ++ (l.take N).drop J ++ l.drop (I + ((l.take N).drop J).length)).take M ++ zs ++ (l.take I ++ (l.take N).drop J ++ l.drop (I + ((l.take N).drop J).length)).drop (M + zs.length))).take M = (l.take N).take I ++ (l.take N).drop J
  have q3 : (l.take N).take I = l.take I := by rw [List.take_take, Nat.min_eq_left (by omega)]
  rw [List.take_left' t1, q3, List.append_assoc, List.take_append_of_le_length (by omega), List.take_of_length_le (by omega)]
theorem zeroCells_one (z : Array Value) (k : Nat) (h : ∀ v ∈ z.toList, v.oneCell' = true) : ∀ v ∈ (Builtin.zeroCells z k).toList, v.oneCell' = true := by
  intro v hv
  simp only [Builtin.zeroCells, Array.toList_map, List.mem_map] at hv
  obtain ⟨t, ht, rfl⟩ := hv
  have hlt : t < k * z.size := by simpa using ht
  have hz : 0 < z.size := by
    rcases Nat.eq_zero_or_pos z.size with h | h
    · rw [h] at hlt; omega
    · exact h
  have hm : t % z.size < z.size := Nat.mod_lt _ hz
  rw [getElem!_pos z _ hm]
  exact h _ (Array.getElem_mem_toList hm)
theorem zeroCells_size (z : Array Value) (k : Nat) : (Builtin.zeroCells z k).size = k * z.size := by simp [Builtin.zeroCells]
/-- The elements of an owned row, cell by cell. -/
theorem take_cells {w : World} {g : Nat} {cur : Array Value} {e : TypeId} {m : Nat} {xs : List Value} (hg : w.heap[g]? = some (.cells cur e (0, 0))) (ht : cur.toList.take m = xs) : ∀ j u, xs[j]? = some u → w.cell? ⟨g, j, none⟩ = some u := fun j u hu => by
  rw [hp_cell hg]
  have hj : j < m := by
    rcases Nat.lt_or_ge j m with h | h
    · exact h
    · rw [← ht, List.getElem?_take_eq_none h] at hu; cases hu
  rw [take_get ht hj]; exact hu
end Go.Proofs.Ybulkckvy
