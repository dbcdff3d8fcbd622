import Derived.Test.YbulkckvyMend3
set_option linter.unusedVariables false
set_option linter.unusedSimpArgs false
namespace Go.Proofs.Ybulkckvy
open Go.RowKit
attribute [local go_sem ↓] Go.wp_at_zero Go.wp_at_succ

theorem map_same {A B : List Leaf} {c c' : Leaf} (h : c'.b = c.b) : (A ++ c :: B).map (·.b) = (A ++ c' :: B).map (·.b) := by simp [h]
/-- The leaf c has lost k. -/
theorem del_ev {w w2 w3 : World} {base r : Nat} {vc vs : Value} {A B : List Leaf} {c : Leaf} {ss : List ByteArray} {k : ByteArray} (h : InnerG w base r vc vs ((A ++ c :: B).map (·.b)) (A ++ c :: B) ss) (hx : Ext w w2) (hd : DelPost w2 base c (lastB A none) (nextB B none) k w3) :
    ∃ c' : Leaf, c'.ks = delK k c.ks ∧ c'.b = c.b ∧ Ev w (footI r vc vs (A ++ c :: B)) base r vc vs ((A ++ c' :: B).map (·.b)) (A ++ c' :: B) ss w3 := by
  obtain ⟨c', hk, hT⟩ := hd
  have := ((Ev.start h).ext hx).turn hT
  rw [map_same hT.1] at this
  exact ⟨c', hk, hT.1, this⟩
/-- No mending: the leaf keeps 32. -/
theorem del_fine {w w3 : World} {F : List Nat} {base r : Nat} {vc vs : Value} {A B : List Leaf} {c c' : Leaf} {ss : List ByteArray} {k : ByteArray} (hg : Good (kssOf (A ++ c :: B)) ss) (hA : A.length ≤ ss.length) (hk : c'.ks = delK k c.ks) (h32 : 32 ≤ c'.ks.length ∨ A.length + B.length = 0)
    (hE : Ev w F base r vc vs ((A ++ c' :: B).map (·.b)) (A ++ c' :: B) ss w3) : DelInn w F base r (keysOf A ++ delK k c.ks ++ keysOf B) w3 := by
  have hle := (delK_sub k c.ks).length_le
  refine ⟨vc, vs, A ++ c' :: B, ss, hE, ?_, by simp [keysOf, kssOf, hk]⟩
  have ho := hg.ordd
  rw [kssOf_append, ← List.take_append_drop A.length ss] at ho
  have ho2 := ho.sub (by rw [kss_len]; simp; omega) (delK_sub k c.ks)
  rw [List.take_append_drop, ← hk, ← kssOf_append] at ho2
  refine ho2.good (fun d hd => ?_)
  have hlo := hg.lo
  have hhi := hg.hi
  have hln : (kssOf (A ++ c' :: B)).length = (kssOf (A ++ c :: B)).length := by simp [kssOf]
  rw [hln]
  rw [kssOf_append] at hd
  rcases List.mem_append.1 hd with hd | hd
  · exact ⟨fun h2 => hlo h2 d (by rw [kssOf_append]; simp [hd]), hhi d (by rw [kssOf_append]; simp [hd])⟩
  · rcases List.mem_cons.1 hd with e | hd
    · refine ⟨fun h2 => ?_, ?_⟩
      · rcases h32 with h32 | h32
        · rw [e]; exact h32
        · simp [kssOf] at h2; omega
      · have := hhi c.ks (by rw [kssOf_append]; simp)
        rw [e, hk]; omega
    · exact ⟨fun h2 => hlo h2 d (by rw [kssOf_append]; simp [hd]), hhi d (by rw [kssOf_append]; simp [hd])⟩

set_option maxRecDepth 100000 in
set_option maxHeartbeats 2000000 in
theorem delInner_some (base r : Nat) (vc vs : Value) (A B : List Leaf) (c : Leaf) (ss : List ByteArray) (k : ByteArray) (w : World) (h : InnerG w base r vc vs ((A ++ c :: B).map (·.b)) (A ++ c :: B) ss) (hA : A.length = cidx k ss) (hg : Good (kssOf (A ++ c :: B)) ss)
    (h2 : 1 ≤ A.length + B.length) (hfew : A.length + B.length ≤ 100) (hrc : Rising c.ks) (hf : foundB k c.ks = true) (hbase : base ≤ w.heap.size) :
    Calls Yba.prog 31 #[.pointer (some ⟨r, 0, none⟩), .string k] w fun e w' => e = .returned (.bool true) ∧ DelInn w (footI r vc vs (A ++ c :: B)) base r (keysOf A ++ delK k c.ks ++ keysOf B) w' := by
  have hlen := hg.len
  simp only [kssOf_append, List.length_append, List.length_cons, kss_len] at hlen
  have hc64 : c.ks.length ≤ 64 := hg.hi c.ks (by rw [kssOf_append]; simp)
  have hc32 : 32 ≤ c.ks.length := hg.lo (by rw [kssOf_append]; simp [kss_len]; omega) c.ks (by rw [kssOf_append]; simp)
  obtain ⟨gc, cc, gs, cs, n, hn, hvc, hvs, hS⟩ := h.spot (by omega)
  have hdl := delK_length hf
  have c3 := hS.c3
  have HCH := Hid.intro (child_some base gs cs r ss k w hS.se hg.seps (by omega) hS.c4)
  have HX := Hid.intro (fun (W : World) (hx : Ext w W) => hS.ext hx)
  have HD := Hid.intro (fun (W : World) (hx : Ext w W) => delLeaf_some base c (lastB A none) (nextB B none) k W (hS.lc.ext hx) hrc hc64 hf)
  have HE := Hid.intro (fun (W W3 : World) (hx : Ext w W) (hd : DelPost W base c (lastB A none) (nextB B none) k W3) => del_ev h hx hd)
  have HG := Hid.intro hg
  have hbd : (cidx k ss : Int) < (n : Int) := by omega
  have hAl : A.length ≤ ss.length := by omega
  have hsp : 0 < ss.length := by omega
  rw [hA] at HX
  have HA := Hid.intro hA
  by_cases hm : 33 ≤ c.ks.length
  · have HU := Hid.intro (fun (W : World) (c' : Leaf) (hk : c'.ks = delK k c.ks) (hb : c'.b = c.b) (hE : Ev w (footI r vc vs (A ++ c :: B)) base r vc vs ((A ++ c' :: B).map (·.b)) (A ++ c' :: B) ss W) => (show W.cell? ⟨r, 3, none⟩ = some (.slice (some ⟨gc, 0, none⟩) n cc) ∧ W.cell? ⟨gc, cidx k ss, none⟩ = some (.pointer (some ⟨c.b, 0, none⟩)) ∧ (Calls Yba.prog 48 #[.pointer (some ⟨c.b, 0, none⟩)] W fun e w' => e = .returned (.bool false) ∧ w' = W) ∧ DelInn w (footI r vc vs (A ++ c :: B)) base r (keysOf A ++ delK k c.ks ++ keysOf B) W by
      obtain ⟨gc', cc', gs', cs', n', hn', hvc', hvs', hS'⟩ := hE.1.spot hsp
      rw [hvc] at hvc'
      injection hvc' with q1 q2 q3
      injection q1 with q1
      injection q1 with q1
      subst q1; subst q2; subst q3
      refine ⟨hS'.c3, by rw [← HA.out, ← hb]; exact hS'.pc, ?_, del_fine HG.out hAl hk (.inl (by rw [hk, hdl]; omega)) hE⟩
      have := underfull_leaf base c' _ _ W hS'.lc
      rw [decide_eq_false (by rw [hk, hdl]; omega), hb] at this
      exact this))
    clear h hS hg hlen hA hn hvc hvs hf hdl
    go_enter Yba.func31, Yba.ntmps31
    go_wp2_with (first | (go_at_call 26; refine (leaf_some _ _ _ _ _ c3).mono ?_; rintro e w1 ⟨rfl, h⟩; obtain rfl := h.symm) | (go_at_call 42; refine HCH.out.mono ?_; rintro e w2 ⟨rfl, hx⟩; have d3 := (HX.out w2 hx).c3; have dp := (HX.out w2 hx).pc; clear HCH) | (go_at_call 31; refine (HD.out _ hx).mono ?_; rintro e w3 ⟨rfl, hd3⟩; obtain ⟨c', hk', hb', hE3⟩ := HE.out _ _ hx hd3; have f3 := (HU.out w3 c' hk' hb' hE3).1; have fp := (HU.out w3 c' hk' hb' hE3).2.1; have HU3 := Hid.intro (HU.out w3 c' hk' hb' hE3).2.2; clear HD HE hE3 hd3 hk' hb' HU) | (go_at_call 48; refine HU3.out.1.mono ?_; rintro e w4 ⟨rfl, h⟩; obtain rfl := h.symm))
    go_ret
    exact ⟨rfl, HU3.out.2⟩
  · have HU := Hid.intro (fun (W : World) (c' : Leaf) (hk : c'.ks = delK k c.ks) (hb : c'.b = c.b) (hE : Ev w (footI r vc vs (A ++ c :: B)) base r vc vs ((A ++ c' :: B).map (·.b)) (A ++ c' :: B) ss W) => (show W.cell? ⟨r, 3, none⟩ = some (.slice (some ⟨gc, 0, none⟩) n cc) ∧ W.cell? ⟨gc, cidx k ss, none⟩ = some (.pointer (some ⟨c.b, 0, none⟩)) ∧ (Calls Yba.prog 48 #[.pointer (some ⟨c.b, 0, none⟩)] W fun e w' => e = .returned (.bool true) ∧ w' = W) ∧
        (Calls Yba.prog 49 #[.pointer (some ⟨r, 0, none⟩), .int .i64 (cidx k ss : Int)] W fun e w' => e = .returned (.tuple #[]) ∧ DelInn w (footI r vc vs (A ++ c :: B)) base r (keysOf A ++ delK k c.ks ++ keysOf B) w') by
      obtain ⟨gc', cc', gs', cs', n', hn', hvc', hvs', hS'⟩ := hE.1.spot hsp
      rw [hvc] at hvc'
      injection hvc' with q1 q2 q3
      injection q1 with q1
      injection q1 with q1
      subst q1; subst q2; subst q3
      refine ⟨hS'.c3, by rw [← HA.out, ← hb]; exact hS'.pc, ?_, ?_⟩
      · have := underfull_leaf base c' _ _ W hS'.lc
        rw [decide_eq_true (by rw [hk, hdl]; omega), hb] at this
        exact this
      · have ho := HG.out.ordd
        rw [kssOf_append, ← List.take_append_drop A.length ss] at ho
        have ho2 := ho.sub (by rw [kss_len]; simp; omega) (delK_sub k c.ks)
        rw [List.take_append_drop, ← hk, ← kssOf_append] at ho2
        have hlo := HG.out.lo (by rw [kssOf_append]; simp [kss_len]; omega)
        have hhi := HG.out.hi
        have := mend_any base r vc vs (footI r vc vs (A ++ c :: B)) A B c' ss w W hE ho2 (fun d hd => by
          have hm : d.ks ∈ kssOf (A ++ c :: B) := List.mem_map_of_mem (by rcases hd with hd | hd <;> simp [hd])
          exact ⟨hlo _ hm, hhi _ hm⟩) (by rw [hk, hdl]; omega) h2 hfew (by have := hE.2.1.size; omega)
        rw [HA.out, show keysOf (A ++ c' :: B) = keysOf A ++ delK k c.ks ++ keysOf B by simp [keysOf, kssOf, hk]] at this
        exact this))
    clear h hS hg hlen hA hn hvc hvs hf hdl
    go_enter Yba.func31, Yba.ntmps31
    go_wp2_with (first | (go_at_call 26; refine (leaf_some _ _ _ _ _ c3).mono ?_; rintro e w1 ⟨rfl, h⟩; obtain rfl := h.symm) | (go_at_call 42; refine HCH.out.mono ?_; rintro e w2 ⟨rfl, hx⟩; have d3 := (HX.out w2 hx).c3; have dp := (HX.out w2 hx).pc; clear HCH) | (go_at_call 31; refine (HD.out _ hx).mono ?_; rintro e w3 ⟨rfl, hd3⟩; obtain ⟨c', hk', hb', hE3⟩ := HE.out _ _ hx hd3; have f3 := (HU.out w3 c' hk' hb' hE3).1; have fp := (HU.out w3 c' hk' hb' hE3).2.1; have HU3 := Hid.intro (HU.out w3 c' hk' hb' hE3).2.2; clear HD HE hE3 hd3 hk' hb' HU) | (go_at_call 48; refine HU3.out.1.mono ?_; rintro e w4 ⟨rfl, h⟩; obtain rfl := h.symm) | (go_at_call 49; refine HU3.out.2.mono ?_; rintro e w5 ⟨rfl, R⟩; have HR := Hid.intro R; clear R))
    go_ret
    exact ⟨rfl, HR.out⟩
end Go.Proofs.Ybulkckvy
