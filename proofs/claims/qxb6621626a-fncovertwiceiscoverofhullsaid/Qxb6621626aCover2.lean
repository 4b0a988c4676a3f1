/-
  THE WALK of (*exactSum).cover where digits are added below.
-/
import Derived.Test.Qxb6621626aPrefix
namespace Go.Proofs.Qxb6621626a
open Go.RowKit

theorem size2 : (Try.prog.info? 2).map (·.size) = some 1 := by kernel_rfl

set_option maxRecDepth 100000 in
set_option maxHeartbeats 2000000 in
theorem cover_below (xs : List Int) (f t : Int) (p : Nat) (base sb : Nat) (v : Value) (w : World) (hx : xs ≠ []) (hp : 0 < p) (hB : Box w sb v (.int .i64 (f + p))) (hO : Own base w v xs) (hsb : base ≤ sb) (hca : Carried xs)
    (hn : xs.length ≤ 1000000) (hpn : p ≤ 1000000) (f1 : -1000000 ≤ f) (f2 : f ≤ 1000000) (t1 : -1000000 ≤ t) (t2 : t ≤ 1000000) :
    Calls Try.prog 35 #[.pointer (some ⟨sb, 0, none⟩), .int .i64 f, .int .i64 t] w fun e w' => e = .returned (.tuple #[]) ∧ CovInv base sb f (extN (t + 1 - (f + p + xs.length)).toNat (List.replicate p 0 ++ xs)) w w' := by
  obtain ⟨g, cap, hbg, hv, hR0⟩ := hO.full hx
  subst hv
  clear hR0
  have hxl := List.length_pos_iff.2 hx
  have c0 := hB.c0
  have c1 := hB.c1
  have fz := hB.f0
  have hbs : base ≤ w.heap.size := by have := hB.lt; omega
  obtain ⟨i0, hi, hz0, hz1, hz2⟩ := info_parts info2
  obtain ⟨L, HL⟩ : ∃ L, Hid (L = xs.length) := ⟨_, rfl⟩
  obtain ⟨Xs, HXs⟩ : ∃ Xs, Hid (Xs = xs.map (Value.int .i64)) := ⟨_, rfl⟩
  have H : Hid (Box w sb (.slice (some ⟨g, 0, none⟩) L cap) (.int .i64 (f + p)) ∧ w.ownsRow base 2 1 (.slice (some ⟨g, 0, none⟩) L cap) L Xs) := by
    rw [HL.out, HXs.out]; exact ⟨hB, hO⟩
  rw [← HL.out] at c0 hn hxl
  have HNE : Hid (¬ g = sb) := fun e => hB.ne hO (by rw [e]; rfl)
  clear hB hO
  have e1 : ((L : Int) == 0) = false := by rw [beq_eq_false_iff_ne]; omega
  have hfp : f < f + (p : Int) := by omega
  have hfd : f + (p : Int) - f = p := by omega
  go_enter Try.func35, Try.ntmps35
  go_wp2_with (at_builtin; refine wpList_append_zeros_own _ rfl (.tmp 34) (.tmp 35) 22 3 rfl base 2 i0 (.int .i64 0) 8 .i64 .i64 Try.underlying22 Try.underlying3 hi hz0 hz1 hz2 rfl rfl g L cap Xs rfl (by exact H.out.2) p rfl hp (by unfold maxLen; omega) (by omega) (by omega) ?_)
  intro v' w1 hown' hgrow
  obtain ⟨g2, c2, cur, rfl, hb2, hcur, hle, hcm, hcs, htk⟩ : ∃ g2 c2 cur, v' = .slice (some ⟨g2, 0, none⟩) (L + p) c2 ∧ base ≤ g2 ∧ w1.heap[g2]? = some (.cells cur 2 (0, 0)) ∧ L + p ≤ c2 ∧ c2 ≤ maxLen ∧ cur.size = c2 * 1 ∧ cur.toList.take ((L + p) * 1) = Xs ++ List.replicate p (.int .i64 0) := by
    rcases hown'.2 with ⟨_, h⟩ | ⟨g2, c2, cur, h⟩
    · omega
    · exact ⟨g2, c2, cur, h⟩
  have hB1 : Box w1 sb (.slice (some ⟨g, 0, none⟩) L cap) (.int .i64 (f + p)) := H.out.1.grown hgrow (fun e => HNE.out (Option.some.inj e))
  have hne2 : ¬ g2 = sb := by
    intro e
    unfold Box at hB1
    rw [e, hB1] at hcur
    simp at hcur
  have hB2 : Box (w1.setCell ⟨sb, 0, none⟩ (.slice (some ⟨g2, 0, none⟩) (L + p) c2)) sb (.slice (some ⟨g2, 0, none⟩) (L + p) c2) (.int .i64 (f + p)) := hB1.set0 _
  have hcur2 : (w1.setCell ⟨sb, 0, none⟩ (.slice (some ⟨g2, 0, none⟩) (L + p) c2)).heap[g2]? = some (.cells cur 2 (0, 0)) := by rw [Below.heap_setCell _ _ _ _ (fun e => hne2 e)]; exact hcur
  have hbel2 : Below base w (w1.setCell ⟨sb, 0, none⟩ (.slice (some ⟨g2, 0, none⟩) (L + p) c2)) := ((Below.refl _ _).grown hgrow hbs (fun k hk => by obtain rfl := Option.some.inj hk; exact hbg)).setCell hsb _
  have d0 := hB1.c0
  have d1 := hB1.f0 0
  clear hown' hgrow hcur c0 c1 fz hB1
  go_wp2_with fail
  generalize w1.setCell ⟨sb, 0, none⟩ (.slice (some ⟨g2, 0, none⟩) (L + p) c2) = w2 at hB2 hcur2 hbel2 ⊢
  clear d0 d1
  have hXl : Xs.length = L := by have := H.out.2.1; omega
  have hX1 : ∀ u ∈ Xs, u.oneCell' = true := by rw [HXs.out]; exact ints_oneCell _ _
  have hsrc : ∀ j u, Xs[j]? = some u → w2.cell? ((⟨g2, 0, none⟩ : Addr).add j) = some u := by
    intro j u hu
    have hj : j < L := by rw [← hXl]; exact (List.getElem?_eq_some_iff.1 hu).1
    rw [Addr.add_lit, Nat.zero_add, cell_of_row w2 g2 j cur 2 (0, 0) hcur2]
    have e : cur.toList[j]? = (cur.toList.take ((L + p) * 1))[j]? := by rw [List.getElem?_take, if_pos (by omega)]
    rw [htk, List.getElem?_append, if_pos (by omega), hu] at e
    simpa using e
  have HX : Hid (Xs.length = L ∧ (∀ u ∈ Xs, u.oneCell' = true) ∧ (∀ j u, Xs[j]? = some u → w2.cell? ((⟨g2, 0, none⟩ : Addr).add j) = some u) ∧ cur.size = c2 ∧ Box w2 sb (.slice (some ⟨g2, 0, none⟩) (L + p) c2) (.int .i64 (f + p)) ∧ w2.heap[g2]? = some (.cells cur 2 (0, 0)) ∧ Below base w w2) := ⟨hXl, hX1, hsrc, by omega, hB2, hcur2, hbel2⟩
  have c0 := hB2.c0
  have c1 := hB2.c1
  have fz := hB2.f0
  have hcp : ¬ c2 = p := by omega
  have hpc : p ≤ c2 := by omega
  have hlp : (p : Int) ≤ (L : Int) + p := by omega
  unfold maxLen at hcm
  clear hXl hX1 hsrc hB2 hcur2 hbel2 hcs htk
  go_region_law (refine step_copy_row rfl (.tmp 44) (.tmp 48) 22 22 rfl 2 Try.underlying22 size2 g2 p L (c2 - p) ⟨g2, 0, none⟩ (L + p) c2 (by simp [Act.eval, Act.put]) (by simp [Act.eval, Act.put]) cur 2 (by exact HX.out.2.2.2.2.2.1) Xs (by have := HX.out.1; simp; omega) (by exact HX.out.2.2.1) (by have := HX.out.1; have := HX.out.2.2.2.1; omega) HX.out.2.1 ?_; intro w4 hp4)
  all_goals
    obtain ⟨R4, HR4⟩ : ∃ R4, Hid (R4 = List.take p cur.toList ++ (Xs ++ List.drop (p + Xs.length) cur.toList)) := ⟨_, rfl⟩
    rw [← HR4.out] at hp4
    have hB4 : Box w4 sb (.slice (some ⟨g2, 0, none⟩) (L + p) c2) (.int .i64 (f + p)) := hp4.box (w := w2.drew) HX.out.2.2.2.2.1 (fun e => hne2 e.symm)
    have HP4 : Hid (RowPut w2 w4 g2 2 R4 ∧ p ≤ R4.toArray.size) := ⟨hp4, by rw [HR4.out]; have := HX.out.2.2.2.1; simp; omega⟩
    have k0 := hB4.c0
    have k1 := hB4.c1
    have kf := hB4.f0
    have HB4 : Hid _ := hB4
    clear hp4 hB4 c0 c1 fz
    go_wp2_with (refine wpList_clear_put _ (.tmp 55) 22 rfl rfl 2 i0 (.int .i64 0) Try.underlying22 hi hz0 rfl rfl g2 p c2 rfl hp R4.toArray HP4.out.1.1 HP4.out.2 ?_)
    intro w5 hp5
    have P5 := prefix_own (w := w) (w2 := w2) (w4 := w4) (w5 := w5) (xs := xs) (lw := f + p) (cur := cur.toList) (cap := c2) (p := p) (g := g2) (sb := sb) (base := base) (by rw [← HL.out]; exact HX.out.2.2.2.2.1) HX.out.2.2.2.2.2.2 hb2 (fun e => hne2 e.symm) (by rw [← HL.out]; exact hle) (by unfold maxLen; exact hcm) (by have := HX.out.2.2.2.1; simpa using this) (by rw [← HXs.out, ← HR4.out]; exact HP4.out.1) (by rw [← HXs.out, ← HR4.out]; exact hp5)
    have q1 := P5.1.c1
    have qf := P5.1.f0 1
    have HI0 : Hid (CovInv base sb f (List.replicate p 0 ++ xs) w (w5.setCell ⟨sb, 1, none⟩ (.int .i64 f))) := ⟨_, P5.1.set1 _, ownsRow_setCell_other P5.2.1 (P5.1.ne P5.2.1) _, P5.2.2.setCell hsb _⟩
    obtain ⟨X, HXX⟩ : ∃ X : List Int, Hid (X = List.replicate p (0 : Int) ++ xs) := ⟨List.replicate p (0 : Int) ++ xs, Eq.refl (List.replicate p (0 : Int) ++ xs)⟩
    have hXn : (X.length : Int) ≤ 2000000 := by rw [HXX.out]; have := HL.out; simp; omega
    have hXp : 0 < X.length := by rw [HXX.out]; have := HL.out; simp; omega
    have hcX : Carried X := by rw [HXX.out]; exact hca.zeros p hx
    obtain ⟨N, HN⟩ : ∃ N : Nat, Hid (N = (t + 1 - (f + X.length)).toNat) := ⟨_, rfl⟩
    have HEND : Hid (extN (t + 1 - (f + p + xs.length)).toNat (List.replicate p 0 ++ xs) = extN N X) := by
      show extN (t + 1 - (f + p + xs.length)).toNat (List.replicate p 0 ++ xs) = extN N X
      rw [HN.out, HXX.out]; congr 1; simp; omega
    rw [← HXX.out] at HI0
    clear P5 hp5 HB4 k0 kf HX HP4 HR4 hcp hpc hlp hle hcm hne2 hb2 hfd hfp hpn hp hn hxl e1 hx hca
    go_wp2_with fail
    go_loopg [7] N (fun k _ wr => ∃ j : Nat, Hid (j + k = N) ∧ Hid (CovInv base sb f (extN j X) w wr))
    case atStart => exact ⟨0, Nat.zero_add _, HI0.out⟩
    case round =>
      obtain ⟨j, hj, v, HB, HO, HLL⟩ := hrel
      clear k1
      obtain ⟨ys, HY⟩ : ∃ ys, Hid (ys = extN j X) := ⟨_, rfl⟩
      rw [← HY.out] at HO
      have hyl : ys.length = X.length + j := by rw [HY.out, extN_length]
      have hyc : Carried ys := by rw [HY.out]; exact hcX.extN j
      obtain ⟨m, hm⟩ : ∃ m, ys.length = m + 1 := ⟨X.length + j - 1, by omega⟩
      have hyn : ys ≠ [] := by rintro rfl; simp at hm
      obtain ⟨g', cap', hbg', hv, hR⟩ := HO.full hyn
      have hcell := hR m (by omega)
      rw [hm] at hv
      subst hv
      have hmb : (m : Int) ≤ 5000000 := by have := HN.out; have := hj.out; omega
      have hjm : (m : Int) + 1 = X.length + j := by omega
      have HJ : Hid ((m : Int) + 1 = X.length + j) := hjm
      clear hjm hyl hR
      have c0 := HB.c0
      have c1 := HB.c1
      have fz := HB.f0
      have zb := hyc m (by omega)
      have zb2 := zb.2 (by omega)
      clear zb
      have HE1 := ext_neg ys m hm
      have HE2 := ext_pos ys m hm
      generalize ys.getD m 0 = z at *
      have HE : Hid ((z < 0 → ext ys = ys.set m (z + 4294967296) ++ [-1]) ∧ (¬ z < 0 → ext ys = ys ++ [0])) := ⟨HE1, HE2⟩
      have HM : Hid (ys.length = m + 1) := hm
      have HBO : Hid (Box wr sb (.slice (some ⟨g', 0, none⟩) (m + 1) cap') (.int .i64 f) ∧ Own base wr (.slice (some ⟨g', 0, none⟩) (m + 1) cap') ys ∧ Below base w wr) := ⟨HB, HO, HLL⟩
      clear HE1 HE2 hm HB HO HLL hyc hyn hcX hXp
      have hbsr : base ≤ wr.heap.size := by have := HBO.out.1.lt; omega
      have HOM : Hid (wr.ownsRow base 2 1 (.slice (some ⟨g', 0, none⟩) (m + 1) cap') (m + 1) (ys.map (Value.int .i64))) := by have := HBO.out.2.1; unfold Own at this; rw [HM.out] at this; exact this
      by_cases hlt : f + (m + 1) ≤ t
      · by_cases hz : z < 0
        · have hne : ¬ g' = sb := fun e => HBO.out.1.ne HBO.out.2.1 (by rw [e]; rfl)
          have hne' : ¬ sb = g' := fun e => hne e.symm
          have hfr := HOM.out.frozenAt m
          have hsl : (ys.set m (z + 4294967296)).length = m + 1 := by rw [List.length_set, HM.out]
          have HS0 : Own base (wr.setCell ⟨g', m, none⟩ (.int .i64 (z + 4294967296))) (.slice (some ⟨g', 0, none⟩) (m + 1) cap') (ys.set m (z + 4294967296)) := by
            have := HBO.out.2.1
            rw [← HM.out] at this ⊢
            exact this.store m _
          have HS : Hid (Own base (wr.setCell ⟨g', m, none⟩ (.int .i64 (z + 4294967296))) (.slice (some ⟨g', 0, none⟩) (m + 1) cap') (ys.set m (z + 4294967296)) ∧ Box (wr.setCell ⟨g', m, none⟩ (.int .i64 (z + 4294967296))) sb (.slice (some ⟨g', 0, none⟩) (m + 1) cap') (.int .i64 f) ∧ Below base w (wr.setCell ⟨g', m, none⟩ (.int .i64 (z + 4294967296)))
              ∧ (ys.set m (z + 4294967296)).length = m + 1 ∧ (wr.setCell ⟨g', m, none⟩ (.int .i64 (z + 4294967296))).ownsRow base 2 1 (.slice (some ⟨g', 0, none⟩) (m + 1) cap') (m + 1) ((ys.set m (z + 4294967296)).map (Value.int .i64))) :=
            ⟨HS0, HBO.out.1.other hne _, HBO.out.2.2.setCell hbg' _, hsl, by have := HS0; unfold Own at this; rw [hsl] at this; exact this⟩
          clear HS0 hsl
          go_wp2_with fail
          go_quiet (fail)
          go_wp2_with (at_builtin; refine wpList_append_own _ rfl (.tmp 104) (.tmp 105) 22 rfl base 2 i0 (.int .i64 0) 1 8 Try.underlying22 hi hz0 hz1 hz2 rfl (by decide) _ (m + 1) ((ys.set m (z + 4294967296)).map (Value.int .i64)) rfl (by exact HS.out.2.2.2.2.alloc _) _ 1 1 [.int .i64 (-1)] rfl rfl (cell_new_at _ _ _ _ (by simp)) (by intro u hu; simp at hu; subst hu; rfl) (by unfold maxLen; omega) (by omega) (by simp; omega) ?_)
          intro v' w1 hown' hgrow _
          obtain ⟨g2, c2, rfl, hcc, hff, hinv⟩ := append_back (wx := ((wr.drewN nq).setCell ⟨g', m, none⟩ (.int .i64 (z + 4294967296))).alloc (.cells #[.int .i64 (-1)] 2)) (v' := v') (z := -1) (lw := f) HS.out.2.2.2.1 (HS.out.2.1.alloc (.cells #[.int .i64 (-1)] 2)) (HS.out.1.alloc (.cells #[.int .i64 (-1)] 2)) (((below_drewN HBO.out.2.2 nq).setCell hbg' _).alloc (by simp; omega) _) hsb (by rw [List.map_set]; exact hown') hgrow
          have HI : Hid _ := hinv
          clear hinv hown' hgrow
          go_wp2_with fail
          go_roundg (gk - 1)
          case measure => have := HN.out; have := hj.out; have := HJ.out; omega
          case rel =>
            refine ⟨j + 1, ?_, ?_⟩
            · show j + 1 + (gk - 1) = N
              have := HN.out; have := hj.out; have := HJ.out; omega
            · show CovInv base sb f (extN (j + 1) X) w _
              rw [extN, ← HY.out, HE.out.1 hz]
              exact HI.out
        · go_wp2_with fail
          go_quiet (fail)
          go_wp2_with (at_builtin; refine wpList_append_own _ rfl (.tmp 113) (.tmp 114) 22 rfl base 2 i0 (.int .i64 0) 1 8 Try.underlying22 hi hz0 hz1 hz2 rfl (by decide) _ (m + 1) (ys.map (Value.int .i64)) rfl (by exact HOM.out.alloc _) _ 1 1 [.int .i64 0] rfl rfl (cell_one_new _ _ _) (by intro u hu; simp at hu; subst hu; rfl) (by unfold maxLen; omega) (by omega) (by simp; omega) ?_)
          intro v' w1 hown' hgrow _
          obtain ⟨g2, c2, rfl, hcc, hff, hinv⟩ := append_back (wx := (wr.drewN nq).alloc (.cells #[.int .i64 0] 2)) (lw := f) HM.out (HBO.out.1.alloc (.cells #[.int .i64 0] 2)) (HBO.out.2.1.alloc (.cells #[.int .i64 0] 2)) ((below_drewN HBO.out.2.2 nq).alloc hbsr _) hsb hown' hgrow
          have HI : Hid _ := hinv
          clear hinv hown' hgrow
          go_wp2_with fail
          go_roundg (gk - 1)
          case measure => have := HN.out; have := hj.out; have := HJ.out; omega
          case rel =>
            refine ⟨j + 1, ?_, ?_⟩
            · show j + 1 + (gk - 1) = N
              have := HN.out; have := hj.out; have := HJ.out; omega
            · show CovInv base sb f (extN (j + 1) X) w _
              rw [extN, ← HY.out, HE.out.2 hz]
              exact HI.out
      · go_wp2_with fail
        go_quiet (fail)
        go_wp2_with fail
        go_end0
        refine ⟨rfl, ?_⟩
        have hjN : j = N := by have := HN.out; have := hj.out; have := HJ.out; omega
        rw [HEND.out, ← hjN, ← HY.out]
        exact ⟨_, HBO.out.1, HBO.out.2.1, below_drewN HBO.out.2.2 _⟩


end Go.Proofs.Qxb6621626a
