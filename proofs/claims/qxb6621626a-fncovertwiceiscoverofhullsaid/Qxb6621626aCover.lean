/-
  THE WALK of (*exactSum).cover.
-/
import Derived.Test.Qxb6621626aParts
namespace Go.Proofs.Qxb6621626a
open Go.RowKit

set_option maxRecDepth 100000 in
set_option maxHeartbeats 2000000 in
theorem cover_plain (xs : List Int) (low f t : Int) (base sb : Nat) (v : Value) (w : World) (hx : xs ≠ []) (hle : low ≤ f) (hB : Box w sb v (.int .i64 low)) (hO : Own base w v xs) (hsb : base ≤ sb) (hca : Carried xs)
    (hn : xs.length ≤ 1000000) (l1 : -1000000 ≤ low) (l2 : low ≤ 1000000) (_f1 : -1000000 ≤ f) (_f2 : f ≤ 1000000) (t1 : -1000000 ≤ t) (t2 : t ≤ 1000000) :
    Calls Try.prog 35 #[.pointer (some ⟨sb, 0, none⟩), .int .i64 f, .int .i64 t] w fun e w' => e = .returned (.tuple #[]) ∧ CovInv base sb low (extN (t + 1 - (low + xs.length)).toNat xs) w w' := by
  obtain ⟨g, cap, hbg, hv, hR0⟩ := hO.full hx
  subst hv
  clear hR0
  have hp := List.length_pos_iff.2 hx
  have c0 := hB.c0
  have c1 := hB.c1
  have H : Hid (Box w sb (.slice (some ⟨g, 0, none⟩) xs.length cap) (.int .i64 low) ∧ Own base w (.slice (some ⟨g, 0, none⟩) xs.length cap) xs) := ⟨hB, hO⟩
  clear hB hO
  have e1 : ((xs.length : Int) == 0) = false := by rw [beq_eq_false_iff_ne]; omega
  obtain ⟨N, HN⟩ : ∃ N : Nat, Hid (N = (t + 1 - (low + xs.length)).toNat) := ⟨_, rfl⟩
  go_enter Try.func35, Try.ntmps35
  go_wp2_with fail
  go_loopg [7] N (fun k _ wr => ∃ j : Nat, Hid (j + k = N) ∧ Hid (CovInv base sb low (extN j xs) w wr))
  case atStart => exact ⟨0, Nat.zero_add _, _, H.out.1, H.out.2, Below.refl _ _⟩
  case round =>
    obtain ⟨j, hj, v, HB, HO, HL⟩ := hrel
    clear c0 c1 e1
    obtain ⟨ys, HY⟩ : ∃ ys, Hid (ys = extN j xs) := ⟨_, rfl⟩
    rw [← HY.out] at HO
    have hyl : ys.length = xs.length + j := by rw [HY.out, extN_length]
    have hyc : Carried ys := by rw [HY.out]; exact hca.extN j
    obtain ⟨m, hm⟩ : ∃ m, ys.length = m + 1 := ⟨xs.length + j - 1, by omega⟩
    have hyn : ys ≠ [] := by rintro rfl; simp at hm
    obtain ⟨g', cap', hbg', hv, hR⟩ := HO.full hyn
    have hcell := hR m (by omega)
    rw [hm] at hv
    subst hv
    have hmb : (m : Int) ≤ 5000000 := by have := HN.out; have := hj.out; omega
    have hjm : (m : Int) + 1 = xs.length + j := by omega
    have HJ : Hid ((m : Int) + 1 = xs.length + j) := hjm
    clear hjm hyl hR
    have c0 := HB.c0
    have c1 := HB.c1
    have fz := HB.f0
    have zb := hyc m (by omega)
    have zb2 := zb.2 (by omega)
    clear zb
    have HE1 := ext_neg ys m hm
    have HE2 := ext_pos ys m hm
    generalize ys.getD m 0 = z at *
    have HE : Hid ((z < 0 → ext ys = ys.set m (z + 4294967296) ++ [-1]) ∧ (¬ z < 0 → ext ys = ys ++ [0])) := ⟨HE1, HE2⟩
    have HM : Hid (ys.length = m + 1) := hm
    have HBO : Hid (Box wr sb (.slice (some ⟨g', 0, none⟩) (m + 1) cap') (.int .i64 low) ∧ Own base wr (.slice (some ⟨g', 0, none⟩) (m + 1) cap') ys ∧ Below base w wr) := ⟨HB, HO, HL⟩
    clear HE1 HE2 hm hx hp HB HO HL hyc hyn hca
    obtain ⟨i0, hi, hz0, hz1, hz2⟩ := info_parts info2
    have hbs : base ≤ wr.heap.size := by have := HBO.out.1.lt; omega
    have HOM : Hid (wr.ownsRow base 2 1 (.slice (some ⟨g', 0, none⟩) (m + 1) cap') (m + 1) (ys.map (Value.int .i64))) := by have := HBO.out.2.1; unfold Own at this; rw [HM.out] at this; exact this
    by_cases hlt : low + (m + 1) ≤ t
    · by_cases hz : z < 0
      · have hne : ¬ g' = sb := fun e => HBO.out.1.ne HBO.out.2.1 (by rw [e]; rfl)
        have hne' : ¬ sb = g' := fun e => hne e.symm
        have hfr := HOM.out.frozenAt m
        have hsl : (ys.set m (z + 4294967296)).length = m + 1 := by rw [List.length_set, HM.out]
        have HS0 : Own base (wr.setCell ⟨g', m, none⟩ (.int .i64 (z + 4294967296))) (.slice (some ⟨g', 0, none⟩) (m + 1) cap') (ys.set m (z + 4294967296)) := by
          have := HBO.out.2.1
          rw [← HM.out] at this ⊢
          exact this.store m _
        have HS : Hid (Own base (wr.setCell ⟨g', m, none⟩ (.int .i64 (z + 4294967296))) (.slice (some ⟨g', 0, none⟩) (m + 1) cap') (ys.set m (z + 4294967296)) ∧ Box (wr.setCell ⟨g', m, none⟩ (.int .i64 (z + 4294967296))) sb (.slice (some ⟨g', 0, none⟩) (m + 1) cap') (.int .i64 low) ∧ Below base w (wr.setCell ⟨g', m, none⟩ (.int .i64 (z + 4294967296)))
            ∧ (ys.set m (z + 4294967296)).length = m + 1 ∧ (wr.setCell ⟨g', m, none⟩ (.int .i64 (z + 4294967296))).ownsRow base 2 1 (.slice (some ⟨g', 0, none⟩) (m + 1) cap') (m + 1) ((ys.set m (z + 4294967296)).map (Value.int .i64))) :=
          ⟨HS0, HBO.out.1.other hne _, HBO.out.2.2.setCell hbg' _, hsl, by have := HS0; unfold Own at this; rw [hsl] at this; exact this⟩
        clear HS0 hsl
        go_wp2_with fail
        go_quiet (fail)
        go_wp2_with (at_builtin; refine wpList_append_own _ rfl (.tmp 104) (.tmp 105) 22 rfl base 2 i0 (.int .i64 0) 1 8 Try.underlying22 hi hz0 hz1 hz2 rfl (by decide) _ (m + 1) ((ys.set m (z + 4294967296)).map (Value.int .i64)) rfl (by exact HS.out.2.2.2.2.alloc _) _ 1 1 [.int .i64 (-1)] rfl rfl (cell_new_at _ _ _ _ (by simp)) (by intro u hu; simp at hu; subst hu; rfl) (by unfold maxLen; omega) (by omega) (by simp; omega) ?_)
        intro v' w1 hown' hgrow _
        obtain ⟨g2, c2, rfl, hcc, hff, hinv⟩ := append_back (wx := ((wr.drewN nq).setCell ⟨g', m, none⟩ (.int .i64 (z + 4294967296))).alloc (.cells #[.int .i64 (-1)] 2)) (v' := v') (z := -1) (lw := low) HS.out.2.2.2.1 (HS.out.2.1.alloc (.cells #[.int .i64 (-1)] 2)) (HS.out.1.alloc (.cells #[.int .i64 (-1)] 2)) (((below_drewN HBO.out.2.2 nq).setCell hbg' _).alloc (by simp; omega) _) hsb (by rw [List.map_set]; exact hown') hgrow
        have HI : Hid _ := hinv
        clear hinv hown' hgrow
        go_wp2_with fail
        go_roundg (gk - 1)
        case measure => have := HN.out; have := hj.out; have := HJ.out; omega
        case rel =>
          refine ⟨j + 1, ?_, ?_⟩
          · show j + 1 + (gk - 1) = N
            have := HN.out; have := hj.out; have := HJ.out; omega
          · show CovInv base sb low (extN (j + 1) xs) w _
            rw [extN, ← HY.out, HE.out.1 hz]
            exact HI.out
      · go_wp2_with fail
        go_quiet (fail)
        go_wp2_with (at_builtin; refine wpList_append_own _ rfl (.tmp 113) (.tmp 114) 22 rfl base 2 i0 (.int .i64 0) 1 8 Try.underlying22 hi hz0 hz1 hz2 rfl (by decide) _ (m + 1) (ys.map (Value.int .i64)) rfl (by exact HOM.out.alloc _) _ 1 1 [.int .i64 0] rfl rfl (cell_one_new _ _ _) (by intro u hu; simp at hu; subst hu; rfl) (by unfold maxLen; omega) (by omega) (by simp; omega) ?_)
        intro v' w1 hown' hgrow _
        obtain ⟨g2, c2, rfl, hcc, hff, hinv⟩ := append_back (wx := (wr.drewN nq).alloc (.cells #[.int .i64 0] 2)) (lw := low) HM.out (HBO.out.1.alloc (.cells #[.int .i64 0] 2)) (HBO.out.2.1.alloc (.cells #[.int .i64 0] 2)) ((below_drewN HBO.out.2.2 nq).alloc hbs _) hsb hown' hgrow
        have HI : Hid _ := hinv
        clear hinv hown' hgrow
        go_wp2_with fail
        go_roundg (gk - 1)
        case measure => have := HN.out; have := hj.out; have := HJ.out; omega
        case rel =>
          refine ⟨j + 1, ?_, ?_⟩
          · show j + 1 + (gk - 1) = N
            have := HN.out; have := hj.out; have := HJ.out; omega
          · show CovInv base sb low (extN (j + 1) xs) w _
            rw [extN, ← HY.out, HE.out.2 hz]
            exact HI.out
    · go_wp2_with fail
      go_quiet (fail)
      go_wp2_with fail
      go_end0
      refine ⟨rfl, ?_⟩
      have hjN : j = N := by have := HN.out; have := hj.out; have := HJ.out; omega
      rw [← HN.out, ← hjN, ← HY.out]
      exact ⟨_, HBO.out.1, HBO.out.2.1, below_drewN HBO.out.2.2 _⟩

end Go.Proofs.Qxb6621626a
