/-
  THE WALK of (*keySet).add.
-/
import Derived.Test.Qxb6621677aParts
namespace Go.Proofs.Qxb6621677a
open Go.RowKit

/-- The model's '1 << i', or'ed in. -/
theorem bits_or_wrap (x : Int) (i : Nat) (h : Wd x) (hi : i < 64) : bits .or .u64 x (IntKind.u64.wrap (2 ^ i)) = orb x i := by
  have e : IntKind.u64.wrap ((2 : Int) ^ i) = ((2 ^ i : Nat) : Int) := by
    have hp := two_pow_lt i hi
    have e1 : ((2 : Int) ^ i) = ((2 ^ i : Nat) : Int) := by simp
    rw [e1]
    generalize 2 ^ i = m at hp
    rw [IntKind.wrap_u64]
    omega
  rw [e]
  exact bits_or x i h hi

set_option maxHeartbeats 1000000 in
/-- A place below 64. -/
theorem add_low (f : Int) (ms : List Int) (i : Nat) (base sb : Nat) (v : Value) (w : World) (hB : Box w sb (.int .u64 f) v) (hO : Own base w v ms) (hsb : base ≤ sb) (hf : Wd f) (hi : i < 64) :
    Calls Try.prog 17 #[.pointer (some ⟨sb, 0, none⟩), .int .i64 i] w fun e w' => e = .returned (.tuple #[]) ∧ AddInv base sb (orb f i) ms w w' := by
  have c0 := hB.c0
  have fz := hB.f0
  have hii : (i : Int) < 64 := by omega
  have H : Hid (Box w sb (.int .u64 f) v ∧ Own base w v ms ∧ Wd f) := ⟨hB, hO, hf⟩
  clear hB hO hf
  go_enter Try.func17, Try.ntmps17
  go_wp2_with fail
  go_region
  all_goals
    go_wp2_with fail
    refine bodyPost_ret (results_none rfl _ _ _) rfl ?_
    refine ⟨rfl, ?_⟩
    rw [bits_or_wrap f i H.out.2.2 hi]
    exact ⟨v, H.out.1.set0 _, ownsRow_setCell_other H.out.2.1 (H.out.1.ne H.out.2.1) _, ((Below.refl _ _).setCell hsb _).drew⟩

set_option maxRecDepth 100000 in
set_option maxHeartbeats 2000000 in
/-- A place from 64 on. -/
theorem add_high (f : Int) (ms : List Int) (i q : Nat) (base sb : Nat) (v : Value) (w : World) (hB : Box w sb (.int .u64 f) v) (hO : Own base w v ms) (hsb : base ≤ sb) (hw : WdL ms) (hi : 64 ≤ i) (hib : i ≤ 1000000) (hq : i / 64 = q + 1) (hn : ms.length ≤ 1000000) :
    Calls Try.prog 17 #[.pointer (some ⟨sb, 0, none⟩), .int .i64 i] w fun e w' => e = .returned (.tuple #[]) ∧ AddInv base sb f ((pad ms (q + 1)).set q (orb ((pad ms (q + 1)).getD q 0) (i % 64))) w w' := by
  have c1 := hB.c1
  have hii : ¬ (i : Int) < 64 := by omega
  have hqi : (i : Int) / 64 - 1 = q := by omega
  obtain ⟨r, HRR⟩ : ∃ r, Hid (r = i % 64) := ⟨_, rfl⟩
  have hri : (i : Int) % 64 = r := by have := HRR.out; omega
  have hr64 : r < 64 := by have := HRR.out; omega
  have hqb : (q : Int) ≤ 1000000 := by omega
  have H : Hid (Box w sb (.int .u64 f) v ∧ Own base w v ms ∧ WdL ms ∧ i / 64 = q + 1) := ⟨hB, hO, hw, hq⟩
  clear hB hO hw hq
  obtain ⟨N, HN⟩ : ∃ N : Nat, Hid (N = q + 1 - ms.length) := ⟨_, rfl⟩
  have HI0 : Hid (AddInv base sb f ms w w) := ⟨v, H.out.1, H.out.2.1, Below.refl _ _⟩
  obtain ⟨i0, hin, hz0, hz1, hz2⟩ := info_parts info25
  go_enter Try.func17, Try.ntmps17
  go_wp2_with fail
  go_loopg [25] N (fun k _ wr => ∃ j : Nat, Hid (j + k = N) ∧ Hid (AddInv base sb f (ms ++ List.replicate j 0) w wr))
  case atStart => exact ⟨0, Nat.zero_add _, by rw [List.replicate_zero, List.append_nil]; exact HI0.out⟩
  case round =>
    clear c1 HI0
    obtain ⟨j, hj, v, HB, HO, HL⟩ := hrel
    obtain ⟨ys, HY⟩ : ∃ ys : List Int, Hid (ys = ms ++ List.replicate j (0 : Int)) := ⟨ms ++ List.replicate j (0 : Int), Eq.refl (ms ++ List.replicate j (0 : Int))⟩
    rw [← HY.out] at HO
    have hyl : ys.length = ms.length + j := by rw [HY.out]; simp
    obtain ⟨L, HLL⟩ : ∃ L : Nat, Hid (ys.length = L) := ⟨_, rfl⟩
    have hLb : (L : Int) ≤ 2000000 := by have := HN.out; have := hj.out; have := HLL.out; omega
    have hbsr : base ≤ wr.heap.size := by have := HB.lt; omega
    have HLJ : Hid (L = ms.length + j) := by show L = ms.length + j; have := HLL.out; omega
    by_cases hlt : L ≤ q
    · obtain ⟨ao, cap, hv⟩ : ∃ ao cap, v = .slice ao L cap := by
        obtain ⟨ao, cap, hv, _⟩ := HO.shape
        exact ⟨ao, cap, by rw [← HLL.out]; exact hv⟩
      subst hv
      have c1 := HB.c1
      have HBO : Hid (Box wr sb (.int .u64 f) (.slice ao L cap) ∧ Own base wr (.slice ao L cap) ys ∧ Below base w wr) := ⟨HB, HO, HL⟩
      have HOM : Hid (wr.ownsRow base 25 1 (.slice ao L cap) L (ys.map (Value.int .u64))) := by have := HO; unfold Own at this; rw [HLL.out] at this; exact this
      clear HB HO HL hyl
      go_wp2_with (at_builtin; refine wpList_append_own _ rfl (.tmp 30) (.tmp 31) 26 rfl base 25 i0 (.int .u64 0) 1 8 Try.underlying26 hin hz0 hz1 hz2 rfl (by decide) _ L (ys.map (Value.int .u64)) rfl (by exact HOM.out.alloc _) _ 1 1 [.int .u64 0] rfl rfl (cell_one_new _ _ _) (by intro u hu; simp at hu; subst hu; rfl) (by unfold maxLen; omega) (by omega) (by simp; omega) ?_)
      intro v' w1 hown' hgrow _
      obtain ⟨g2, c2, rfl, hcc, hff, hinv⟩ := append_back (wx := wr.alloc (.cells #[.int .u64 0] 25)) (f := f) HLL.out (HBO.out.1.alloc (.cells #[.int .u64 0] 25)) (HBO.out.2.1.alloc (.cells #[.int .u64 0] 25)) (HBO.out.2.2.alloc hbsr _) hsb hown' hgrow
      have HI : Hid _ := hinv
      clear hinv hown' hgrow
      go_wp2_with fail
      go_roundg (gk - 1)
      case measure => have := HN.out; have := hj.out; have := HLJ.out; omega
      case rel =>
        refine ⟨j + 1, ?_, ?_⟩
        · show j + 1 + (gk - 1) = N
          have := HN.out; have := hj.out; have := HLJ.out; omega
        · show AddInv base sb f (ms ++ List.replicate (j + 1) 0) w _
          rw [List.replicate_succ', ← List.append_assoc, ← HY.out]
          exact HI.out
    · have hyp : pad ms (q + 1) = ys := by
        rw [HY.out, pad]
        congr 2
        have := HN.out; have := hj.out; have := HLJ.out; omega
      have hyn : ys ≠ [] := by rintro rfl; have := HLL.out; simp at this; omega
      obtain ⟨g, cap, hbg, hv, hR⟩ := HO.full hyn
      have hcell := hR q (by have := HLL.out; omega)
      rw [HLL.out] at hv
      subst hv
      have c1 := HB.c1
      have hne : ¬ g = sb := fun e => HB.ne HO (by rw [e]; rfl)
      have hwz : Wd (ys.getD q 0) := by rw [← hyp]; exact H.out.2.2.1.pad (q + 1) q
      have hfr : wr.frozen? ⟨g, q, none⟩ = false := by have := HO; unfold Own at this; rw [HLL.out] at this; exact this.frozenAt q
      have HST := fun z' => (show Own base wr (.slice (some ⟨g, 0, none⟩) ys.length cap) ys by rw [HLL.out]; exact HO).store q z'
      have HF : Hid (AddInv base sb f (ys.set q (orb (ys.getD q 0) r)) w (wr.setCell ⟨g, q, none⟩ (.int .u64 (orb (ys.getD q 0) r)))) :=
        ⟨.slice (some ⟨g, 0, none⟩) L cap, HB.other hne _, by have := HST (orb (ys.getD q 0) r); rw [HLL.out] at this; exact this, HL.setCell hbg _⟩
      have HOR : Hid (bits .or .u64 (ys.getD q 0) (IntKind.u64.wrap (2 ^ r)) = orb (ys.getD q 0) r) := bits_or_wrap _ r hwz hr64
      have HGOAL : Hid ((pad ms (q + 1)).set q (orb ((pad ms (q + 1)).getD q 0) (i % 64)) = ys.set q (orb (ys.getD q 0) r)) := by
        show (pad ms (q + 1)).set q (orb ((pad ms (q + 1)).getD q 0) (i % 64)) = ys.set q (orb (ys.getD q 0) r)
        rw [hyp, HRR.out]
      generalize ys.getD q 0 = z at hcell hwz HF HOR HGOAL
      have hlq : (q : Int) < L := by omega
      clear hyp hyn hR HB HO HL HST hwz hyl
      go_wp2_with fail
      go_region
      all_goals
        go_wp2_with fail
        go_end0
        refine ⟨rfl, ?_⟩
        rw [HOR.out, HGOAL.out]
        obtain ⟨v, a1, a2, a3⟩ := HF.out
        exact ⟨v, a1, a2, a3.drew⟩

end Go.Proofs.Qxb6621677a
