import Derived.Test.YbulkckvyBkeys
set_option linter.unusedVariables false
set_option linter.unusedSimpArgs false
namespace Go.Proofs.Ybulkckvy
open Go.RowKit
attribute [local go_sem ↓] Go.wp_at_zero Go.wp_at_succ

theorem keysOf_cons' (l : Leaf) (r : List Leaf) : keysOf (l :: r) = l.ks ++ keysOf r := by simp [keysOf, kssOf]
theorem keysOf_append' (A B : List Leaf) : keysOf (A ++ B) = keysOf A ++ keysOf B := by simp [keysOf, kssOf]
theorem LeafAt.slice' {w : World} {base : Nat} {l : Leaf} {p n : Option Nat} (h : LeafAt w base l p n) : ∃ a cap, l.v = .slice a l.ks.length cap := by
  rcases h.ents.form with ⟨e1, e2⟩ | ⟨g, cap, cur, e, _⟩
  · rw [e1, e2]; exact ⟨none, 0, rfl⟩
  · exact ⟨_, cap, e⟩
theorem str_none (w : World) : Strs (w.alloc (.cells #[] 9)) w.heap.size (.slice (some ⟨w.heap.size, 0, none⟩) 0 0) [] := by
  refine ⟨rfl, .inr ⟨w.heap.size, 0, #[], rfl, Nat.le_refl _, hp_alloc_new w _, by simp, by unfold maxLen; omega, rfl, rfl⟩⟩
/-- What zzs4340bkeys answers. -/
def BKeys (w : World) (K : List ByteArray) (e : Ending) (w' : World) : Prop := ∃ v, e = .returned v ∧ Strs w' w.heap.size v K ∧ Ext w w'
set_option maxRecDepth 100000 in
set_option maxHeartbeats 600000 in
theorem bkeys_any (base xb root d : Nat) (l0 : Leaf) (r0 : List Leaf) (w : World) (h6 : w.cell? ⟨xb, 6, none⟩ = some (.pointer (some ⟨root, 0, none⟩))) (hl : Left 0 d w root l0.b) (hseg : Seg w base none (l0 :: r0) none) (hn : (keysOf (l0 :: r0)).length ≤ 1024) (hr : r0.length ≤ 1000) :
    Calls Yba.prog 20 #[.pointer (some ⟨xb, 0, none⟩)] w (BKeys w (keysOf (l0 :: r0))) := by
  have HSEG := Hid.intro hseg
  have HN := Hid.intro hn
  clear hseg hn
  go_enter Yba.func20, Yba.ntmps20
  go_wp2_with fail
  go_loopg [3] d (fun k p wr => ∃ b, p = .pointer (some ⟨b, 0, none⟩) ∧ wr = w ∧ Left 0 k w b l0.b)
  case atStart => exact ⟨root, rfl, rfl, hl⟩
  case round =>
    obtain ⟨b, rfl, rfl, hl⟩ := hrel
    cases gk with
    | succ k =>
      obtain ⟨g, n, cap, c, h3, hn, hg, _, _, hl⟩ := hl
      have HL : Hid (Left 0 k wr c l0.b) := hl
      clear hl
      have hn' : (0 : Int) < (n : Int) := by omega
      have hn2 : ((n : Int) == 0) = false := by simp; omega
      go_wp2_with (go_at_call 26; refine (leaf_some _ _ _ _ _ h3).mono ?_; rintro e w' ⟨rfl, rfl⟩)
      go_roundg k
      case measure => omega
      case rel => exact ⟨c, rfl, rfl, HL.out⟩
    | zero =>
      obtain ⟨rfl, _, hc⟩ := hl
      go_wp2_with (go_at_call 26; refine (leaf_nil _ _ hc).mono ?_; rintro e wz ⟨rfl, rfl⟩)
      clear hc h6
      go_loopg [4, 5] (r0.length + 1) (fun m v4 v5 w' => ∃ done rest p, l0 :: r0 = done ++ rest ∧ p = ((nextB rest none).map fun b => (⟨b, 0, none⟩ : Addr)) ∧ v5 = .pointer p ∧ Strs w' wz.heap.size v4 (keysOf done) ∧ rest.length = m ∧ Ext wz w')
      case atStart => exact ⟨[], l0 :: r0, _, rfl, rfl, rfl, str_none wz, rfl, (Ext.refl _).alloc _⟩
      case round =>
        obtain ⟨done, rest, p, hdr, hp, rfl, hS, hrm, hx⟩ := hrel
        cases rest with
        | nil =>
          simp only [nextB, Option.map_none] at hp
          subst hp
          have HDR := Hid.intro hdr
          have HS := Hid.intro hS
          clear hdr hS
          go_wp2_with fail
          go_ret
          refine ⟨_, rfl, ?_, hx⟩
          have := HDR.out
          rw [List.append_nil] at this
          rw [this]
          exact HS.out
        | cons l rest =>
          simp only [nextB, Option.map_some] at hp
          subst hp
          have hL : ∃ p, LeafAt wz base l p (nextB rest none) := by
            have := HSEG.out
            rw [hdr, seg_append] at this
            exact ⟨_, this.2.1⟩
          obtain ⟨p, hL⟩ := hL
          have d0 := (hL.ext hx).cell0
          obtain ⟨al, capl, hvl⟩ := hL.slice'
          rw [hvl] at d0
          have HLE := Hid.intro hL
          have HVL := Hid.intro hvl
          have hcnt := HN.out
          rw [hdr, keysOf_append', keysOf_cons', List.length_append, List.length_append] at hcnt
          have hkl : (keysOf done).length + l.ks.length ≤ 1024 := by omega
          have hdr2 : l0 :: r0 = (done ++ [l]) ++ rest := by rw [hdr]; simp
          have hkk : keysOf (done ++ [l]) = keysOf done ++ l.ks := by rw [keysOf_append', keysOf_cons']; simp [keysOf, kssOf]
          have HDR := Hid.intro hdr2
          have HRM := Hid.intro hrm
          have HKK := Hid.intro hkk
          clear hdr hdr2 hcnt hL hvl hrm hkk
          go_wp2_with fail
          go_loopg [4, 40] l.ks.length (fun m v4 v40 w' => ∃ i : Nat, v40 = .int .i64 (i : Int) ∧ i + m = l.ks.length ∧ Strs w' wz.heap.size v4 (keysOf done ++ l.ks.take i) ∧ Ext wz w')
          case atStart => exact ⟨0, rfl, by omega, by simpa using hS, hx⟩
          case round =>
            obtain ⟨i, rfl, him, hS, hx⟩ := hrel
            have HIM := Hid.intro him
            clear him
            by_cases hlt : i < l.ks.length
            · obtain ⟨g, rfl, hgv⟩ : ∃ g, al = some ⟨g, 0, none⟩ ∧ l.v = .slice (some ⟨g, 0, none⟩) l.ks.length capl := by
                rcases HLE.out.ents.form with ⟨e1, e2⟩ | ⟨g, cap, cur, e, _⟩
                · rw [e2] at hlt; simp at hlt
                · have e2 := HVL.out
                  rw [e] at e2
                  injection e2 with q1 q2 q3
                  exact ⟨g, q1.symm, by rw [e, q3]⟩
              obtain ⟨k0, k1, k2⟩ := ((HLE.out.ext hx).ents).cells hgv hlt
              obtain ⟨key, hkey⟩ : ∃ key, l.ks[i] = key := ⟨_, rfl⟩
              have htk : l.ks.take (i + 1) = l.ks.take i ++ [key] := by rw [← hkey, List.take_append_getElem]
              rw [hkey] at k0
              obtain ⟨v', w4, hrun, hS', hx'⟩ := app_str (hx.alloc (.cells #[.string key, .slice none 0 0, .bool false] 81)) 42 u4 (keysOf done ++ l.ks.take i) key (owns_ext hS ((Ext.refl wr).alloc _)) (by simp; omega)
              rw [List.append_assoc, ← htk] at hS'
              rw [hp_alloc_size] at hrun
              have HR := Hid.intro (And.intro hS' hx')
              clear hS' hx' htk hkey hgv hS
              have hi : (i : Int) < (l.ks.length : Int) := by omega
              have hi0 : (0 : Int) ≤ (i : Int) := by omega
              go_wp2_with (at_builtin; refine Lib.wpList_append_run _ rfl _ _ _ _ rfl _ _ rfl rfl _ _ hrun ?_)
              go_roundg (l.ks.length - (i + 1))
              case measure => have := HIM.out; omega
              case rel => exact ⟨i + 1, by go_num, by omega, HR.out.1, HR.out.2⟩
            · have d2 : wr.cell? ⟨l.b, 2, none⟩ = some (.pointer ((nextB rest none).map fun b => (⟨b, 0, none⟩ : Addr))) := (HLE.out.ext hx).cell2
              have hie : Hid (keysOf done ++ l.ks.take i = keysOf (done ++ [l])) := Hid.intro (by rw [HKK.out, List.take_of_length_le (by omega)])
              have HS := Hid.intro hS
              clear hS
              go_wp2_with fail
              go_roundg rest.length
              case measure => have := HRM.out; simp only [List.length_cons] at this; omega
              case rel => exact ⟨done ++ [l], rest, _, HDR.out, rfl, rfl, by have := HS.out; rw [hie.out] at this; exact this, rfl, hx⟩
end Go.Proofs.Ybulkckvy
