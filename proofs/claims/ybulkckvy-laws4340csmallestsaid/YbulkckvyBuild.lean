import Derived.Test.YbulkckvyLeft
import Derived.Test.YbulkckvyHeap
import Derived.Deep.DeepCutAuto
import Derived.Deep.RegionHeld3
import Derived.Deep.DrawnRows
import Derived.Deep.OwnRows
import Derived.Deep.RegionLaw
import Derived.Deep.Light
namespace Go.Proofs.Ybulkckvy
open Go.RowKit
attribute [local go_sem ↓] Go.wp_at_zero Go.wp_at_succ

def cnt : Nat → Nat
  | 0 => 0
  | d + 1 => 1 + 4 * cnt d

/-- Blocks from B on that were there are as they were. -/
def Keep (B : Nat) (w w' : World) : Prop := ∀ k, B ≤ k → k < w.heap.size → w'.heap[k]? = w.heap[k]?

structure St (H : Nat) (W w : World) (i : Nat) (p : Option Addr) : Prop where
  bel : Below H W w
  size : H + 2 ≤ w.heap.size
  ci : w.heap[H]? = some (.cells #[.int .i64 i] 3 (0, 0))
  cf : w.heap[H + 1]? = some (.cells #[.pointer p] 39 (0, 0))

def WidthAt (W : World) (H : Nat) (a : Option Addr) (len : Nat) : Prop :=
  len ≤ 1024 ∧ (0 < len → ∃ b off, a = some ⟨b, off, none⟩ ∧ b < H ∧ ∀ j, j < len → ∃ z : Nat, z ≤ 255 ∧ W.cell? ⟨b, off + j, none⟩ = some (.int .u8 z))

theorem St.alloc {H : Nat} {W w : World} {i : Nat} {p : Option Addr} (h : St H W w i p) (o : Obj) : St H W (w.alloc o) i p := by
  have := h.size
  exact ⟨h.bel.alloc (by omega) o, by rw [hp_alloc_size]; omega, by rw [hp_alloc_lt _ _ _ (by omega)]; exact h.ci, by rw [hp_alloc_lt _ _ _ (by omega)]; exact h.cf⟩
theorem St.set {H : Nat} {W w : World} {i : Nat} {p : Option Addr} (h : St H W w i p) (a : Addr) (u : Value) (ha : H + 2 ≤ a.block) : St H W (w.setCell a u) i p := by
  have := h.size
  exact ⟨h.bel.setCell (by omega) u, by rw [hp_set_size]; omega, by rw [hp_set_ne _ _ _ _ (by omega)]; exact h.ci, by rw [hp_set_ne _ _ _ _ (by omega)]; exact h.cf⟩
theorem St.drew {H : Nat} {W w : World} {i : Nat} {p : Option Addr} (h : St H W w i p) : St H W w.drew i p := ⟨h.bel.drew, h.size, h.ci, h.cf⟩

theorem Keep.refl (B : Nat) (w : World) : Keep B w w := fun _ _ _ => rfl
theorem Keep.alloc {B : Nat} {w w' : World} (h : Keep B w w') (o : Obj) (hs : w.heap.size ≤ w'.heap.size) : Keep B w (w'.alloc o) := fun k h1 h2 => by
  rw [hp_alloc_lt _ _ _ (by omega)]; exact h k h1 h2
theorem Keep.set {B : Nat} {w w' : World} (h : Keep B w w') (a : Addr) (u : Value) (ha : w.heap.size ≤ a.block ∨ a.block < B) : Keep B w (w'.setCell a u) := fun k h1 h2 => by
  rw [hp_set_ne _ _ _ _ (by omega)]; exact h k h1 h2
theorem Keep.trans {B : Nat} {w w' w'' : World} (h : Keep B w w') (h' : Keep B w' w'') (hs : w.heap.size ≤ w'.heap.size) : Keep B w w'' := fun k h1 h2 =>
  (h' k h1 (by omega)).trans (h k h1 h2)

theorem Left.carry {B : Nat} {w w' : World} (hk : ∀ k, B ≤ k → k < w.heap.size → w'.heap[k]? = w.heap[k]?) : ∀ (d b L : Nat), Left B d w b L → Left B d w' b L
  | 0, b, L, ⟨h1, h2, h3⟩ => ⟨h1, h2, by rw [hp_cell_eq (hk b h2 (hp_cell_lt h3))]; exact h3⟩
  | d + 1, b, L, ⟨g, n, cap, c, h1, h2, h3, h4, h5, h6⟩ =>
    ⟨g, n, cap, c, by rw [hp_cell_eq (hk b h4 (hp_cell_lt h1))]; exact h1, h2, by rw [hp_cell_eq (hk g h5 (hp_cell_lt h3))]; exact h3, h4, h5, Left.carry hk d c L h6⟩
theorem Left.mono {B B' : Nat} (hB : B' ≤ B) {w : World} : ∀ (d b L : Nat), Left B d w b L → Left B' d w b L
  | 0, b, L, ⟨h1, h2, h3⟩ => ⟨h1, by omega, h3⟩
  | d + 1, b, L, ⟨g, n, cap, c, h1, h2, h3, h4, h5, h6⟩ => ⟨g, n, cap, c, h1, h2, h3, by omega, by omega, Left.mono hB d c L h6⟩

def nodeZ : Array Value := #[.slice none 0 0, .pointer none, .pointer none, .slice none 0 0, .slice none 0 0]

/-- A leaf was made; 'first' was nil. -/
theorem fin_none {H : Nat} {W w : World} {i : Nat} (h : St H W w i none) :
    let w' := (w.alloc (.cells nodeZ 44)).setCell ⟨H + 1, 0, none⟩ (.pointer (some ⟨w.heap.size, 0, none⟩))
    St H W w' i (some ⟨w.heap.size, 0, none⟩) ∧ Keep (H + 2) w w' ∧ w.heap.size ≤ w'.heap.size ∧ Left w.heap.size 0 w' w.heap.size w.heap.size := by
  have hs := h.size
  refine ⟨⟨((h.bel.alloc (by omega) _).setCell (by simp) _), by rw [hp_set_size, hp_alloc_size]; omega, ?_, ?_⟩, ?_, by rw [hp_set_size, hp_alloc_size]; omega, rfl, Nat.le_refl _, ?_⟩
  · rw [hp_set_ne _ _ _ _ (by simp), hp_alloc_lt _ _ _ (by omega)]; exact h.ci
  · rw [hp_set_same _ _ _ _ #[.pointer none] 39 (0, 0) (by rw [hp_alloc_lt _ _ _ (by omega)]; exact h.cf)]; rfl
  · exact ((Keep.refl _ _).alloc _ (Nat.le_refl _)).set _ _ (.inr (by simp))
  · rw [hp_cell_eq (w := w.alloc (.cells nodeZ 44)) (by rw [hp_set_ne _ _ _ _ (by simp; omega)]), hp_cell (hp_alloc_new _ _)]; rfl
theorem fin_some {H : Nat} {W w : World} {i : Nat} {p : Option Addr} (h : St H W w i p) :
    let w' := w.alloc (.cells nodeZ 44)
    St H W w' i p ∧ Keep (H + 2) w w' ∧ w.heap.size ≤ w'.heap.size ∧ Left w.heap.size 0 w' w.heap.size w.heap.size := by
  have hs := h.size
  refine ⟨h.alloc _, (Keep.refl _ _).alloc _ (Nat.le_refl _), by rw [hp_alloc_size]; omega, rfl, Nat.le_refl _, ?_⟩
  rw [hp_cell (hp_alloc_new _ _)]; rfl

/-- What 'zzs4340cbuild' leaves: a tree of depth d whose leftmost leaf is L, all of it in new blocks; 'first' holds L if it was nil; of what was there from H + 2 on nothing has turned. -/
def BuildPost (H : Nat) (W w : World) (d i : Nat) (p : Option Addr) (e : Ending) (w' : World) : Prop :=
  ∃ r L i', e = .returned (.pointer (some ⟨r, 0, none⟩)) ∧ i ≤ i' ∧ i' ≤ i + cnt d ∧ St H W w' i' (some (p.getD ⟨L, 0, none⟩)) ∧ Keep (H + 2) w w' ∧ w.heap.size ≤ w'.heap.size ∧ Left w.heap.size d w' r L
theorem BuildPost.mk {H : Nat} {W w : World} {d i : Nat} {p : Option Addr} {w' : World} {v : Value} (r L i' : Nat) (hv : v = .pointer (some ⟨r, 0, none⟩)) (h : i ≤ i' ∧ i' ≤ i + cnt d)
    (h' : St H W w' i' (some (p.getD ⟨L, 0, none⟩)) ∧ Keep (H + 2) w w' ∧ w.heap.size ≤ w'.heap.size ∧ Left w.heap.size d w' r L) : BuildPost H W w d i p (.returned v) w' :=
  ⟨r, L, i', by rw [hv], h.1, h.2, h'⟩

theorem build_zero (H : Nat) (W : World) (a1 : Option Addr) (len1 cap1 : Nat) (w : World) (i : Nat) (p : Option Addr) (hst : St H W w i p) :
    Calls Yba.prog 24 #[.int .i64 (0 : Nat), .slice a1 len1 cap1, .pointer (some ⟨H, 0, none⟩), .pointer (some ⟨H + 1, 0, none⟩)] w (BuildPost H W w 0 i p) := by
  have hcf : w.cell? ⟨H + 1, 0, none⟩ = some (.pointer p) := by simp [World.cell?, hst.cf]
  have hff : w.frozen? ⟨H + 1, 0, none⟩ = false := by simp [World.frozen?, hst.cf]
  have hsz := hst.size
  have hca : ∀ o, (w.alloc o).cell? ⟨H + 1, 0, none⟩ = some (.pointer p) := fun o => by rw [World.cell?_alloc_lt _ _ _ (by simp; omega)]; exact hcf
  have hfa : ∀ o, (w.alloc o).frozen? ⟨H + 1, 0, none⟩ = false := fun o => by rw [World.frozen?_alloc_old _ _ _ (by simp; omega)]; exact hff
  cases p with
  | none =>
    have F := fin_none hst
    clear hst
    go_enter Yba.func24, Yba.ntmps24
    go_wp2_with fail
    go_ret
    exact BuildPost.mk _ _ i rfl ⟨Nat.le_refl _, by omega⟩ F
  | some q =>
    have F := fin_some hst
    clear hst
    go_enter Yba.func24, Yba.ntmps24
    go_wp2_with fail
    go_ret
    exact BuildPost.mk _ _ i rfl ⟨Nat.le_refl _, by omega⟩ F

/-! ### the inner node -/
/-- In the midst of the loop: the node in block r, its children's row in block g (k of m laid), its separators' row in block s (q laid). -/
structure Inv (H : Nat) (W w : World) (m d i0 : Nat) (p : Option Addr) (r g s k q : Nat) (wr : World) : Prop where
  keep : Keep (H + 2) w wr
  size : w.heap.size + 3 ≤ wr.heap.size
  hH : H + 2 ≤ w.heap.size
  lr : w.heap.size ≤ r ∧ r < w.heap.size + 3 ∧ w.heap.size ≤ g ∧ g < w.heap.size + 3 ∧ w.heap.size ≤ s ∧ s < w.heap.size + 3 ∧ r ≠ g ∧ r ≠ s ∧ g ≠ s
  cr : wr.heap[r]? = some (.cells #[.slice none 0 0, .pointer none, .pointer none, .slice (some ⟨g, 0, none⟩) k m, .slice (some ⟨s, 0, none⟩) q (m - 1)] 44 (0, 0))
  cg : ∃ cs, wr.heap[g]? = some (.cells cs 39 (0, 0)) ∧ cs.size = m ∧ ∃ i, i0 + 1 ≤ i ∧ i ≤ i0 + 1 + k * cnt d ∧
    ((k = 0 ∧ St H W wr i p) ∨ (0 < k ∧ ∃ c L, cs[0]? = some (.pointer (some ⟨c, 0, none⟩)) ∧ Left (w.heap.size + 3) d wr c L ∧ St H W wr i (some (p.getD ⟨L, 0, none⟩))))
  cs : ∃ cs, wr.heap[s]? = some (.cells cs 9 (0, 0)) ∧ cs.size = m - 1

theorem hp_drew (w : World) : w.drew.heap = w.heap := rfl
theorem Inv.drew {H : Nat} {W w : World} {m d i0 : Nat} {p : Option Addr} {r g s k q : Nat} {wr : World} (h : Inv H W w m d i0 p r g s k q wr) : Inv H W w m d i0 p r g s k q wr.drew := by
  obtain ⟨keep, size, hH, lr, cr, ⟨cs, cg1, cg2, i, hi1, hi2, hk⟩, ss⟩ := h
  refine ⟨keep, size, hH, lr, cr, ⟨cs, cg1, cg2, i, hi1, hi2, ?_⟩, ss⟩
  rcases hk with ⟨h0, hs⟩ | ⟨h0, c, L, h1, h2, hs⟩
  · exact .inl ⟨h0, hs.drew⟩
  · exact .inr ⟨h0, c, L, h1, Left.carry (w := wr) (w' := wr.drew) (fun _ _ _ => rfl) _ _ _ h2, hs.drew⟩
/-- The node's three blocks are laid. -/
theorem Inv.start {H : Nat} {W w : World} {m d i : Nat} {p : Option Addr} (hst : St H W w i p) (o1 o2 : Obj) (g s : Nat) (C1 C2 : Array Value) (hC1 : C1.size = m) (hC2 : C2.size = m - 1)
    (h : (o1 = .cells C1 39 ∧ o2 = .cells C2 9 ∧ g = w.heap.size ∧ s = w.heap.size + 1) ∨ (o1 = .cells C2 9 ∧ o2 = .cells C1 39 ∧ s = w.heap.size ∧ g = w.heap.size + 1)) :
    Inv H W w m d i p (w.heap.size + 1 + 1) g s 0 0
      ((((w.setCell ⟨H, 0, none⟩ (.int .i64 ((i : Int) + 1))).alloc o1).alloc o2).alloc
        (.cells #[.slice none 0 0, .pointer none, .pointer none, .slice (some ⟨g, 0, none⟩) 0 m, .slice (some ⟨s, 0, none⟩) 0 (m - 1)] 44)) := by
  have hs := hst.size
  have s1 := hp_set_size w ⟨H, 0, none⟩ (.int .i64 ((i : Int) + 1))
  have b1 : ∀ k, k ≠ H → (w.setCell ⟨H, 0, none⟩ (.int .i64 ((i : Int) + 1))).heap[k]? = w.heap[k]? := fun k hk => hp_set_ne _ _ _ _ (by simpa using hk)
  have b2 : (w.setCell ⟨H, 0, none⟩ (.int .i64 ((i : Int) + 1))).heap[H]? = some (.cells #[.int .i64 ((i : Int) + 1)] 3 (0, 0)) := by
    rw [hp_set_same _ _ _ _ _ _ _ hst.ci]; rfl
  have b3 : Below H W (w.setCell ⟨H, 0, none⟩ (.int .i64 ((i : Int) + 1))) := hst.bel.setCell (by simp) _
  generalize w.setCell ⟨H, 0, none⟩ (.int .i64 ((i : Int) + 1)) = w1 at *
  have s2 := hp_alloc_size w1 o1
  have s3 := hp_alloc_size (w1.alloc o1) o2
  generalize hn : (#[.slice none 0 0, .pointer none, .pointer none, .slice (some ⟨g, 0, none⟩) 0 m, .slice (some ⟨s, 0, none⟩) 0 (m - 1)] : Array Value) = nd at *
  have s4 := hp_alloc_size ((w1.alloc o1).alloc o2) (.cells nd 44)
  have e0 : ∀ k, k < w.heap.size → (((w1.alloc o1).alloc o2).alloc (.cells nd 44)).heap[k]? = w1.heap[k]? := fun k hk => by
    rw [hp_alloc_lt _ _ _ (by omega), hp_alloc_lt _ _ _ (by omega), hp_alloc_lt _ _ _ (by omega)]
  have e1 : (((w1.alloc o1).alloc o2).alloc (.cells nd 44)).heap[w.heap.size]? = some o1 := by
    rw [hp_alloc_lt _ _ _ (by omega), hp_alloc_lt _ _ _ (by omega), ← s1, hp_alloc_new]
  have e2 : (((w1.alloc o1).alloc o2).alloc (.cells nd 44)).heap[w.heap.size + 1]? = some o2 := by
    rw [hp_alloc_lt _ _ _ (by omega), ← s1, ← s2, hp_alloc_new]
  have e3 : (((w1.alloc o1).alloc o2).alloc (.cells nd 44)).heap[w.heap.size + 1 + 1]? = some (.cells nd 44) := by
    rw [← s1, ← s2, ← s3, hp_alloc_new]
  have st : St H W (((w1.alloc o1).alloc o2).alloc (.cells nd 44)) (i + 1) p :=
    ⟨((b3.alloc (by omega) _).alloc (by omega) _).alloc (by omega) _, by omega, by rw [e0 _ (by omega), b2]; simp, by rw [e0 _ (by omega), b1 _ (by omega)]; exact hst.cf⟩
  generalize ((w1.alloc o1).alloc o2).alloc (.cells nd 44) = w4 at *
  refine ⟨fun k h1 h2 => (e0 k h2).trans (b1 k (by omega)), by omega, hs, by omega, by rw [e3, hn], ?_, ?_⟩
  · refine ⟨C1, ?_, hC1, i + 1, Nat.le_refl _, by omega, .inl ⟨rfl, st⟩⟩
    rcases h with ⟨rfl, rfl, rfl, rfl⟩ | ⟨rfl, rfl, rfl, rfl⟩
    · exact e1
    · exact e2
  · refine ⟨C2, ?_, hC2⟩
    rcases h with ⟨rfl, rfl, rfl, rfl⟩ | ⟨rfl, rfl, rfl, rfl⟩
    · exact e2
    · exact e1

/-- The separator's append. -/
theorem Inv.sep {H : Nat} {W w : World} {m d i0 : Nat} {p : Option Addr} {r g s k q : Nat} {wr : World} (h : Inv H W w m d i0 p r g s k q wr) (o : Obj) (u : Value) :
    Inv H W w m d i0 p r g s k (q + 1) (((wr.alloc o).setCell ⟨s, q, none⟩ u).setCell ⟨r, 4, none⟩ (.slice (some ⟨s, 0, none⟩) (q + 1) (m - 1))) := by
  obtain ⟨keep, size, hH, lr, cr, ⟨cs, cg1, cg2, i, hi1, hi2, hk⟩, ⟨ss, cs1, cs2⟩⟩ := h
  have e : ∀ k, k < wr.heap.size → k ≠ s → k ≠ r → (((wr.alloc o).setCell ⟨s, q, none⟩ u).setCell ⟨r, 4, none⟩ (.slice (some ⟨s, 0, none⟩) (q + 1) (m - 1))).heap[k]? = wr.heap[k]? := fun k h1 h2 h3 => by
    rw [hp_set_ne _ _ _ _ (by simpa using h3), hp_set_ne _ _ _ _ (by simpa using h2), hp_alloc_lt _ _ _ h1]
  refine ⟨?_, by rw [hp_set_size, hp_set_size, hp_alloc_size]; omega, hH, lr, ?_, ⟨cs, by rw [e _ (by omega) (by omega) (by omega)]; exact cg1, cg2, i, hi1, hi2, ?_⟩, ?_⟩
  · exact ((keep.alloc _ (by omega)).set _ _ (.inl (by simp; omega))).set _ _ (.inl (by simp; omega))
  · rw [hp_set_same _ _ _ _ _ _ _ (by rw [hp_set_ne _ _ _ _ (by simp; omega), hp_alloc_lt _ _ _ (by omega)]; exact cr)]; rfl
  · rcases hk with ⟨h0, hs⟩ | ⟨h0, c, L, h1, h2, hs⟩
    · exact .inl ⟨h0, ((hs.alloc _).set _ _ (by simp; omega)).set _ _ (by simp; omega)⟩
    · exact .inr ⟨h0, c, L, h1, Left.carry (fun k h1 h2 => e k h2 (by omega) (by omega)) _ _ _ h2, ((hs.alloc _).set _ _ (by simp; omega)).set _ _ (by simp; omega)⟩
  · exact ⟨ss.setIfInBounds q u, by rw [hp_set_ne _ _ _ _ (by simp; omega), hp_set_same _ _ _ _ _ _ _ (by rw [hp_alloc_lt _ _ _ (by omega)]; exact cs1)], by simpa using cs2⟩

/-- The child's append, behind the call that made it. -/
theorem Inv.child {H : Nat} {W w : World} {m d i0 : Nat} {p : Option Addr} {r g s k q : Nat} {wr wc : World} (h : Inv H W w m d i0 p r g s k q wr) (hkm : k < m) (o : Obj)
    (i i' : Nat) (p1 : Option Addr) (c L : Nat) (hi1 : i0 + 1 ≤ i) (hi2 : i ≤ i0 + 1 + k * cnt d) (hii : i ≤ i') (hii2 : i' ≤ i + cnt d)
    (hp : (k = 0 ∧ p1 = p) ∨ (0 < k ∧ ∃ cs c' L', wr.heap[g]? = some (.cells cs 39 (0, 0)) ∧ cs[0]? = some (.pointer (some ⟨c', 0, none⟩)) ∧ Left (w.heap.size + 3) d wr c' L' ∧ p1 = some (p.getD ⟨L', 0, none⟩)))
    (hst : St H W wc i' (some (p1.getD ⟨L, 0, none⟩))) (hkp : Keep (H + 2) wr wc) (hsz : wr.heap.size ≤ wc.heap.size) (hl : Left wr.heap.size d wc c L) :
    Inv H W w m d i0 p r g s (k + 1) q (((wc.alloc o).setCell ⟨g, k, none⟩ (.pointer (some ⟨c, 0, none⟩))).setCell ⟨r, 3, none⟩ (.slice (some ⟨g, 0, none⟩) (k + 1) m)) := by
  obtain ⟨keep, size, hH, lr, cr, ⟨cs, cg1, cg2, _⟩, ⟨ss, cs1, cs2⟩⟩ := h
  have e : ∀ k', k' < wc.heap.size → k' ≠ g → k' ≠ r → (((wc.alloc o).setCell ⟨g, k, none⟩ (.pointer (some ⟨c, 0, none⟩))).setCell ⟨r, 3, none⟩ (.slice (some ⟨g, 0, none⟩) (k + 1) m)).heap[k']? = wc.heap[k']? := fun k' h1 h2 h3 => by
    rw [hp_set_ne _ _ _ _ (by simpa using h3), hp_set_ne _ _ _ _ (by simpa using h2), hp_alloc_lt _ _ _ h1]
  have hg : wc.heap[g]? = some (.cells cs 39 (0, 0)) := by rw [hkp g (by omega) (by omega)]; exact cg1
  have hmul : (k + 1) * cnt d = k * cnt d + cnt d := Nat.succ_mul _ _
  refine ⟨?_, by rw [hp_set_size, hp_set_size, hp_alloc_size]; omega, hH, lr, ?_, ⟨cs.setIfInBounds k (.pointer (some ⟨c, 0, none⟩)), ?_, by simpa using cg2, i', by omega, by omega, .inr ⟨by omega, ?_⟩⟩, ?_⟩
  · exact (((keep.trans hkp (by omega)).alloc _ (by omega)).set _ _ (.inl (by simp; omega))).set _ _ (.inl (by simp; omega))
  · rw [hp_set_same _ _ _ _ _ _ _ (by rw [hp_set_ne _ _ _ _ (by simp; omega), hp_alloc_lt _ _ _ (by omega), hkp r (by omega) (by omega)]; exact cr)]; rfl
  · rw [hp_set_ne _ _ _ _ (by simp; omega), hp_set_same _ _ _ _ _ _ _ (by rw [hp_alloc_lt _ _ _ (by omega)]; exact hg)]
  · have hst' := ((hst.alloc o).set ⟨g, k, none⟩ (.pointer (some ⟨c, 0, none⟩)) (by simp; omega)).set ⟨r, 3, none⟩ (.slice (some ⟨g, 0, none⟩) (k + 1) m) (by simp; omega)
    rcases hp with ⟨rfl, rfl⟩ | ⟨hk0, cs', c', L', h1, h2, h3, rfl⟩
    · refine ⟨c, L, by simp [cg2, hkm], ?_, hst'⟩
      exact Left.mono (by omega) _ _ _ (Left.carry (fun k' h1 h2 => e k' h2 (by omega) (by omega)) _ _ _ hl)
    · rw [cg1] at h1
      simp only [Option.some.injEq, Obj.cells.injEq, and_true] at h1
      subst h1
      refine ⟨c', L', by rw [Array.getElem?_setIfInBounds_ne (by omega)]; exact h2, ?_, hst'⟩
      exact Left.carry (fun k' h4 h5 => (e k' (by omega) (by omega) (by omega)).trans (hkp k' (by omega) h5)) _ _ _ h3
  · exact ⟨ss, by rw [e _ (by omega) (by omega) (by omega), hkp s (by omega) (by omega)]; exact cs1, cs2⟩
/-- What the call of itself wants, and what 'Inv.child' asks. -/
theorem Inv.ready {H : Nat} {W w : World} {m d i0 : Nat} {p : Option Addr} {r g s k q : Nat} {wr : World} (h : Inv H W w m d i0 p r g s k q wr) :
    ∃ i p1, St H W wr i p1 ∧ i0 + 1 ≤ i ∧ i ≤ i0 + 1 + k * cnt d ∧
      ((k = 0 ∧ p1 = p) ∨ (0 < k ∧ ∃ cs c' L', wr.heap[g]? = some (.cells cs 39 (0, 0)) ∧ cs[0]? = some (.pointer (some ⟨c', 0, none⟩)) ∧ Left (w.heap.size + 3) d wr c' L' ∧ p1 = some (p.getD ⟨L', 0, none⟩))) := by
  obtain ⟨keep, size, hH, lr, cr, ⟨cs, cg1, cg2, i, hi1, hi2, hk⟩, ss⟩ := h
  rcases hk with ⟨h0, hs⟩ | ⟨h0, c, L, h1, h2, hs⟩
  · exact ⟨i, p, hs, hi1, hi2, .inl ⟨h0, rfl⟩⟩
  · exact ⟨i, _, hs, hi1, hi2, .inr ⟨h0, cs, c, L, cg1, h1, h2, rfl⟩⟩
/-- The cells that the round reads and writes, behind whatever keeps the old blocks. -/
theorem Inv.cells {H : Nat} {W w : World} {m d i0 : Nat} {p : Option Addr} {r g s k q : Nat} {wr wc : World} (h : Inv H W w m d i0 p r g s k q wr) (hkm : k < m) (hkp : Keep (H + 2) wr wc) (hsz : wr.heap.size ≤ wc.heap.size) :
    wc.cell? ⟨r, 3, none⟩ = some (.slice (some ⟨g, 0, none⟩) k m) ∧ (∀ o, (wc.alloc o).cell? ⟨r, 3, none⟩ = some (.slice (some ⟨g, 0, none⟩) k m)) ∧ (∀ o, (wc.alloc o).frozen? ⟨r, 3, none⟩ = false) ∧
      ∀ o, ((wc.alloc o).cell? ⟨g, 0 + k, none⟩).isSome = true ∧ (wc.alloc o).frozen? ⟨g, 0 + k, none⟩ = false := by
  have hlr := h.lr
  have hs := h.size
  have hH := h.hH
  have hr : wc.heap[r]? = _ := (hkp r (by omega) (by omega)).trans h.cr
  obtain ⟨cs, cg1, cg2, _⟩ := h.cg
  have hg : wc.heap[g]? = _ := (hkp g (by omega) (by omega)).trans cg1
  have hr' : ∀ o, (wc.alloc o).heap[r]? = _ := fun o => (hp_alloc_lt wc o r (by omega)).trans hr
  have hg' : ∀ o, (wc.alloc o).heap[g]? = _ := fun o => (hp_alloc_lt wc o g (by omega)).trans hg
  refine ⟨by rw [hp_cell hr]; rfl, fun o => by rw [hp_cell (hr' o)]; rfl, fun o => hp_frozen (hr' o) _, fun o => ⟨?_, hp_frozen (hg' o) _⟩⟩
  rw [hp_cell (hg' o), Array.getElem?_eq_getElem (by omega)]
  rfl
theorem mul_bound {k m c : Nat} (h : k < m) (hm : m ≤ 4) : k * c + c ≤ 4 * c := by
  have := Nat.mul_le_mul_right c (show k + 1 ≤ 4 by omega)
  rw [Nat.succ_mul] at this
  exact this

theorem Inv.fin {H : Nat} {W w : World} {d i0 : Nat} {p : Option Addr} {r g s k q : Nat} {wr : World} (h : Inv H W w k d i0 p r g s k q wr) (hk : 2 ≤ k ∧ k ≤ 4) :
    ∃ L i', (i0 ≤ i' ∧ i' ≤ i0 + cnt (d + 1)) ∧ St H W wr i' (some (p.getD ⟨L, 0, none⟩)) ∧ Keep (H + 2) w wr ∧ w.heap.size ≤ wr.heap.size ∧ Left w.heap.size (d + 1) wr r L := by
  obtain ⟨keep, size, hH, lr, cr, ⟨cs, cg1, cg2, i, hi1, hi2, hk'⟩, ss⟩ := h
  have hc : cnt (d + 1) = 1 + 4 * cnt d := rfl
  have hm : k * cnt d ≤ 4 * cnt d := Nat.mul_le_mul_right _ (by omega)
  rcases hk' with ⟨h0, hs⟩ | ⟨h0, c, L, h1, h2, hs⟩
  · omega
  · refine ⟨L, i, by omega, hs, keep, by omega, g, k, k, c, by rw [hp_cell cr]; rfl, by omega, by rw [hp_cell cg1]; exact h1, by omega, by omega, Left.mono (by omega) _ _ _ h2⟩
end Go.Proofs.Ybulkckvy
