/-
  THE WALK of (*exactSum).cover where the sum holds no digit.
-/
import Derived.Test.Qxb6621626aPrefix
namespace Go.Proofs.Qxb6621626a
open Go.RowKit

theorem own_nil_shape {base : Nat} {w : World} {v : Value} (h : Own base w v []) : ∃ ao cap, v = .slice ao 0 cap := by
  obtain ⟨ao, cap, hv, _⟩ := h.shape
  exact ⟨ao, cap, hv⟩

set_option maxRecDepth 100000 in
set_option maxHeartbeats 2000000 in
theorem cover_nil (low f t : Int) (base sb : Nat) (v : Value) (w : World) (hB : Box w sb v (.int .i64 low)) (hO : Own base w v []) (hsb : base ≤ sb)
    (f1 : -1000000 ≤ f) (f2 : f ≤ 1000000) (t1 : -1000000 ≤ t) (t2 : t ≤ 1000000) :
    Calls Try.prog 35 #[.pointer (some ⟨sb, 0, none⟩), .int .i64 f, .int .i64 t] w fun e w' => e = .returned (.tuple #[]) ∧ CovInv base sb f (extN (t + 1 - f).toNat []) w w' := by
  obtain ⟨ao, cap, hv⟩ := own_nil_shape hO
  subst hv
  have c0 := hB.c0
  have c1 := hB.c1
  have fz := hB.f0
  have HI0 : Hid (CovInv base sb f [] w (w.setCell ⟨sb, 1, none⟩ (.int .i64 f))) := ⟨_, hB.set1 _, ownsRow_setCell_other hO (hB.ne hO) _, (Below.refl _ _).setCell hsb _⟩
  clear hB hO
  obtain ⟨i0, hi, hz0, hz1, hz2⟩ := info_parts info2
  obtain ⟨N, HN⟩ : ∃ N : Nat, Hid (N = (t + 1 - f).toNat) := ⟨_, rfl⟩
  go_enter Try.func35, Try.ntmps35
  go_wp2_with fail
  go_loopg [7] N (fun k _ wr => ∃ j : Nat, Hid (j + k = N) ∧ Hid (CovInv base sb f (extN j []) w wr))
  case atStart => exact ⟨0, Nat.zero_add _, HI0.out⟩
  case round =>
    obtain ⟨j, hj, v, HB, HO, HLL⟩ := hrel
    clear c0 c1 fz
    by_cases hj0 : j = 0
    · subst hj0
      obtain ⟨ao', cap', hv⟩ := own_nil_shape HO
      subst hv
      have c0 := HB.c0
      have c1 := HB.c1
      have hbsr : base ≤ wr.heap.size := by have := HB.lt; omega
      have HBO : Hid (Box wr sb (.slice ao' 0 cap') (.int .i64 f) ∧ Own base wr (.slice ao' 0 cap') [] ∧ Below base w wr) := ⟨HB, HO, HLL⟩
      clear HB HO HLL
      by_cases hlt : f ≤ t
      · go_wp2_with fail
        go_quiet (fail)
        go_wp2_with (at_builtin; refine wpList_append_own _ rfl (.tmp 113) (.tmp 114) 22 rfl base 2 i0 (.int .i64 0) 1 8 Try.underlying22 hi hz0 hz1 hz2 rfl (by decide) _ 0 [] rfl (by exact World.ownsRow.alloc HBO.out.2.1 _) _ 1 1 [.int .i64 0] rfl rfl (cell_one_new _ _ _) (by intro u hu; simp at hu; subst hu; rfl) (by unfold maxLen; omega) (by omega) (by simp; omega) ?_)
        intro v' w1 hown' hgrow _
        obtain ⟨g2, c2, rfl, hcc, hff, hinv⟩ := append_back (wx := (wr.drewN nq).alloc (.cells #[.int .i64 0] 2)) (v' := v') (z := 0) (ys := []) (m := 0) (lw := f) rfl (HBO.out.1.alloc (.cells #[.int .i64 0] 2)) (HBO.out.2.1.alloc (.cells #[.int .i64 0] 2)) ((below_drewN HBO.out.2.2 nq).alloc hbsr _) hsb (by simpa using hown') hgrow
        have HI : Hid _ := hinv
        clear hinv hown' hgrow
        go_wp2_with fail
        go_roundg (gk - 1)
        case measure => have := HN.out; have := hj.out; omega
        case rel =>
          refine ⟨1, ?_, ?_⟩
          · show 1 + (gk - 1) = N
            have := HN.out; have := hj.out; omega
          · exact HI.out
      · go_wp2_with fail
        go_quiet (fail)
        go_wp2_with fail
        go_end0
        refine ⟨rfl, ?_⟩
        have hjN : N = 0 := by have := HN.out; omega
        rw [← HN.out, hjN]
        show CovInv base sb f [] w _
        exact ⟨_, HBO.out.1, HBO.out.2.1, below_drewN HBO.out.2.2 _⟩
    · obtain ⟨ys, HY⟩ : ∃ ys, Hid (ys = extN j ([] : List Int)) := ⟨_, rfl⟩
      rw [← HY.out] at HO
      have hyl : ys.length = j := by rw [HY.out, extN_length]; simp
      have hyc : Carried ys := by rw [HY.out]; exact Carried.nil.extN j
      obtain ⟨m, hm⟩ : ∃ m, ys.length = m + 1 := ⟨j - 1, by omega⟩
      have hyn : ys ≠ [] := by rintro rfl; simp at hm
      obtain ⟨g', cap', hbg', hv, hR⟩ := HO.full hyn
      have hcell := hR m (by omega)
      rw [hm] at hv
      subst hv
      have hmb : (m : Int) ≤ 5000000 := by have := HN.out; have := hj.out; omega
      have hjm : (m : Int) + 1 = j := by omega
      have HJ : Hid ((m : Int) + 1 = j) := hjm
      clear hjm hyl hR
      have c0 := HB.c0
      have c1 := HB.c1
      have fz := HB.f0
      have zb := hyc m (by omega)
      have zb2 := zb.2 (by omega)
      clear zb
      have HE1 := ext_neg ys m hm
      have HE2 := ext_pos ys m hm
      generalize ys.getD m 0 = z at *
      have HE : Hid ((z < 0 → ext ys = ys.set m (z + 4294967296) ++ [-1]) ∧ (¬ z < 0 → ext ys = ys ++ [0])) := ⟨HE1, HE2⟩
      have HM : Hid (ys.length = m + 1) := hm
      have HBO : Hid (Box wr sb (.slice (some ⟨g', 0, none⟩) (m + 1) cap') (.int .i64 f) ∧ Own base wr (.slice (some ⟨g', 0, none⟩) (m + 1) cap') ys ∧ Below base w wr) := ⟨HB, HO, HLL⟩
      clear HE1 HE2 hm HB HO HLL hyc hyn hj0
      have hbsr : base ≤ wr.heap.size := by have := HBO.out.1.lt; omega
      have HOM : Hid (wr.ownsRow base 2 1 (.slice (some ⟨g', 0, none⟩) (m + 1) cap') (m + 1) (ys.map (Value.int .i64))) := by have := HBO.out.2.1; unfold Own at this; rw [HM.out] at this; exact this
      by_cases hlt : f + (m + 1) ≤ t
      · by_cases hz : z < 0
        · have hne : ¬ g' = sb := fun e => HBO.out.1.ne HBO.out.2.1 (by rw [e]; rfl)
          have hne' : ¬ sb = g' := fun e => hne e.symm
          have hfr := HOM.out.frozenAt m
          have hsl : (ys.set m (z + 4294967296)).length = m + 1 := by rw [List.length_set, HM.out]
          have HS0 : Own base (wr.setCell ⟨g', m, none⟩ (.int .i64 (z + 4294967296))) (.slice (some ⟨g', 0, none⟩) (m + 1) cap') (ys.set m (z + 4294967296)) := by
            have := HBO.out.2.1
            rw [← HM.out] at this ⊢
            exact this.store m _
          have HS : Hid (Own base (wr.setCell ⟨g', m, none⟩ (.int .i64 (z + 4294967296))) (.slice (some ⟨g', 0, none⟩) (m + 1) cap') (ys.set m (z + 4294967296)) ∧ Box (wr.setCell ⟨g', m, none⟩ (.int .i64 (z + 4294967296))) sb (.slice (some ⟨g', 0, none⟩) (m + 1) cap') (.int .i64 f) ∧ Below base w (wr.setCell ⟨g', m, none⟩ (.int .i64 (z + 4294967296)))
              ∧ (ys.set m (z + 4294967296)).length = m + 1 ∧ (wr.setCell ⟨g', m, none⟩ (.int .i64 (z + 4294967296))).ownsRow base 2 1 (.slice (some ⟨g', 0, none⟩) (m + 1) cap') (m + 1) ((ys.set m (z + 4294967296)).map (Value.int .i64))) :=
            ⟨HS0, HBO.out.1.other hne _, HBO.out.2.2.setCell hbg' _, hsl, by have := HS0; unfold Own at this; rw [hsl] at this; exact this⟩
          clear HS0 hsl
          go_wp2_with fail
          go_quiet (fail)
          go_wp2_with (at_builtin; refine wpList_append_own _ rfl (.tmp 104) (.tmp 105) 22 rfl base 2 i0 (.int .i64 0) 1 8 Try.underlying22 hi hz0 hz1 hz2 rfl (by decide) _ (m + 1) ((ys.set m (z + 4294967296)).map (Value.int .i64)) rfl (by exact HS.out.2.2.2.2.alloc _) _ 1 1 [.int .i64 (-1)] rfl rfl (cell_new_at _ _ _ _ (by simp)) (by intro u hu; simp at hu; subst hu; rfl) (by unfold maxLen; omega) (by omega) (by simp; omega) ?_)
          intro v' w1 hown' hgrow _
          obtain ⟨g2, c2, rfl, hcc, hff, hinv⟩ := append_back (wx := ((wr.drewN nq).setCell ⟨g', m, none⟩ (.int .i64 (z + 4294967296))).alloc (.cells #[.int .i64 (-1)] 2)) (v' := v') (z := -1) (lw := f) HS.out.2.2.2.1 (HS.out.2.1.alloc (.cells #[.int .i64 (-1)] 2)) (HS.out.1.alloc (.cells #[.int .i64 (-1)] 2)) (((below_drewN HBO.out.2.2 nq).setCell hbg' _).alloc (by simp; omega) _) hsb (by rw [List.map_set]; exact hown') hgrow
          have HI : Hid _ := hinv
          clear hinv hown' hgrow
          go_wp2_with fail
          go_roundg (gk - 1)
          case measure => have := HN.out; have := hj.out; have := HJ.out; omega
          case rel =>
            refine ⟨j + 1, ?_, ?_⟩
            · show j + 1 + (gk - 1) = N
              have := HN.out; have := hj.out; have := HJ.out; omega
            · show CovInv base sb f (extN (j + 1) ([] : List Int)) w _
              rw [extN, ← HY.out, HE.out.1 hz]
              exact HI.out
        · go_wp2_with fail
          go_quiet (fail)
          go_wp2_with (at_builtin; refine wpList_append_own _ rfl (.tmp 113) (.tmp 114) 22 rfl base 2 i0 (.int .i64 0) 1 8 Try.underlying22 hi hz0 hz1 hz2 rfl (by decide) _ (m + 1) (ys.map (Value.int .i64)) rfl (by exact HOM.out.alloc _) _ 1 1 [.int .i64 0] rfl rfl (cell_one_new _ _ _) (by intro u hu; simp at hu; subst hu; rfl) (by unfold maxLen; omega) (by omega) (by simp; omega) ?_)
          intro v' w1 hown' hgrow _
          obtain ⟨g2, c2, rfl, hcc, hff, hinv⟩ := append_back (wx := (wr.drewN nq).alloc (.cells #[.int .i64 0] 2)) (lw := f) HM.out (HBO.out.1.alloc (.cells #[.int .i64 0] 2)) (HBO.out.2.1.alloc (.cells #[.int .i64 0] 2)) ((below_drewN HBO.out.2.2 nq).alloc hbsr _) hsb hown' hgrow
          have HI : Hid _ := hinv
          clear hinv hown' hgrow
          go_wp2_with fail
          go_roundg (gk - 1)
          case measure => have := HN.out; have := hj.out; have := HJ.out; omega
          case rel =>
            refine ⟨j + 1, ?_, ?_⟩
            · show j + 1 + (gk - 1) = N
              have := HN.out; have := hj.out; have := HJ.out; omega
            · show CovInv base sb f (extN (j + 1) ([] : List Int)) w _
              rw [extN, ← HY.out, HE.out.2 hz]
              exact HI.out
      · go_wp2_with fail
        go_quiet (fail)
        go_wp2_with fail
        go_end0
        refine ⟨rfl, ?_⟩
        have hjN : j = N := by have := HN.out; have := hj.out; have := HJ.out; omega
        rw [← HN.out, ← hjN, ← HY.out]
        exact ⟨_, HBO.out.1, HBO.out.2.1, below_drewN HBO.out.2.2 _⟩

end Go.Proofs.Qxb6621626a
