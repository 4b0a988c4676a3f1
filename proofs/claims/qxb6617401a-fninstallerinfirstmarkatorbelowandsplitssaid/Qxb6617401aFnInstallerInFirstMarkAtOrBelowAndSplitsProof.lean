/-
  THE PROOF OF 'Rows.FnInstallerInFirstMarkAtOrBelowAndSplitsSaid': the frame, after the guide's own way for a law.
-/
import Derived.Test.Qxb6617401aRows
import Derived.WalkKit
import Derived.ProofKit
import Derived.OpenShut
import Derived.ShutString
import Derived.ChangeOld
import Derived.Below
import Derived.Test.Qxb6617401aLaw2
import Derived.Test.Qxb6617401aOpen
namespace Go.Proofs.Qxb6617401a.fnInstallerInFirstMarkAtOrBelowAndSplits
open Go.ChangeShapes Go.WideShapes Go.ChangeAt Go.RowKit

theorem own : ownKnob Try.prog.godebug = none := by kernel_rfl
theorem laidOut : laidOutB Try.prog = true := by kernel_rfl

/-! ### STEP 1: THE WALK -/
theorem walk (vid id kk : Int) (am al asb : Option Addr) (cm cl cs : Nat) (ms : List Mb) (ls : List Mk) (ss : List Nat) (w : World) (hm : RowM w am ms) (hl : RowL w al ls) (hs : RowS w asb ss) (zm : am = none → ms = []) (zl : al = none → ls = []) (nm : ms.length ≤ maxLen) (nl : ls.length ≤ maxLen) (ns : ss.length ≤ maxLen) :
    Calls Try.prog 3 #[.int .u64 vid, .slice am ms.length cm, .slice al ls.length cl, .slice asb ss.length cs, .int .u64 id, .int .i64 kk] w fun e w' => e = .returned (.bool true) ∧ Below w.heap.size w w' := by
  by_cases h : kk < 0 ∨ (ls.length : Int) < kk
  · exact law_out vid id kk am al asb cm cl cs ms ls ss w hm hl hs nm nl ns h
  · obtain ⟨k, rfl⟩ : ∃ k : Nat, kk = k := ⟨kk.toNat, by omega⟩
    exact law_in vid id k am al asb cm cl cs ms ls ss w hm hl hs zm zl nm nl ns (by omega)

/-! ### THE ROW's STEP -/
set_option maxRecDepth 100000 in
theorem lifted (os : Os) (started : os.Started) (H : Type) (enc : TypeId × Value → H) :
    ReturnsInHanded {} Try.checked os 3 .any (Rows.fnInstallerInFirstMarkAtOrBelowAndSplitsSpec.pre6 enc Try.prog Try.f3 Rows.fnInstallerInFirstMarkAtOrBelowAndSplitsRow.domain false) (Rows.fnInstallerInFirstMarkAtOrBelowAndSplitsSpec.post enc Try.prog Try.f3 false true false false) := by
  refine returnsInHanded_of_change (C := Try.checked) own started (by kernel_rfl) Try.func3
    (ChangeSpec.witness6 (enc := enc) (C := Try.checked) false ⟨#[], #[.int .u64 0, .slice none 0 0, .slice none 0 0, .slice none 0 0, .int .u64 0, .int .i64 0], []⟩ 8 (by kernel_rfl) (by kernel_rfl) (by kernel_rfl) (by kernel_rfl)) ?_
  intro W base args ds gs before hval0 hW hcnd _
  have hval : ∀ (j : Nat) t v, Try.f3.params[j]? = some t → args[j]? = some v → Value.okWide Try.prog W .any base t v := hval0
  have hW' := hW
  obtain ⟨p, q, hA0, hV, rfl, hfz, hnd⟩ := hW
  have hA : DataW.TrodAll enc Try.prog W 0 (fun _ => true) true Try.f3.params.toList args.toList ds p := hA0
  rw [Try.params3] at hA hval
  obtain ⟨v0, vs0, d0, ds0, p0, q0, hargs, rfl, rfl, h0, r0⟩ := trodAll_cons hA
  obtain ⟨v1, vs1, d1, ds1, p1, q1, rfl, rfl, rfl, h1, r1⟩ := trodAll_cons r0
  obtain ⟨v2, vs2, d2, ds2, p2, q2, rfl, rfl, rfl, h2, r2⟩ := trodAll_cons r1
  obtain ⟨v3, vs3, d3, ds3, p3, q3, rfl, rfl, rfl, h3, r3⟩ := trodAll_cons r2
  obtain ⟨v4, vs4, d4, ds4, p4, q4, rfl, rfl, rfl, h4, r4⟩ := trodAll_cons r3
  obtain ⟨v5, vs5, d5, ds5, p5, q5, rfl, rfl, rfl, h5, r5⟩ := trodAll_cons r4
  obtain ⟨rfl, rfl, rfl⟩ := trodAll_nil r5
  obtain rfl : args = #[v0, v1, v2, v3, v4, v5] := by cases args; simp_all
  obtain ⟨rfl, rfl⟩ := trodVars_none hV
  obtain ⟨vid, rfl, rfl, rfl, w0⟩ := open_int Try.underlying22 (hval 0 22 v0 rfl rfl) h0
  obtain ⟨id, rfl, rfl, rfl, w4⟩ := open_int Try.underlying22 (hval 4 22 v4 rfl rfl) h4
  obtain ⟨kk, rfl, rfl, rfl, w5⟩ := open_int Try.underlying3 (hval 5 3 v5 rfl rfl) h5
  obtain ⟨a1, len1, cap1, rfl⟩ := okWide_slice Try.underlying23 (hval 1 23 v1 rfl rfl)
  obtain ⟨a2, len2, cap2, rfl⟩ := okWide_slice Try.underlying24 (hval 2 24 v2 rfl rfl)
  obtain ⟨a3, len3, cap3, rfl⟩ := okWide_slice Try.underlying25 (hval 3 25 v3 rfl rfl)
  have lt1 : ∀ x ∈ p1, x.block < W.heap.size := by obtain ⟨m, hm⟩ := h1; exact DataW.trod_lt m _ _ _ hm
  have lt2 : ∀ x ∈ p2, x.block < W.heap.size := by obtain ⟨m, hm⟩ := h2; exact DataW.trod_lt m _ _ _ hm
  have lt3 : ∀ x ∈ p3, x.block < W.heap.size := by obtain ⟨m, hm⟩ := h3; exact DataW.trod_lt m _ _ _ hm
  have o1 : ∃ ms : List Mb, len1 = ms.length ∧ RowM W a1 ms ∧ (a1 = none → ms = []) ∧ ms.length ≤ maxLen := by
    obtain ⟨fuel, hf⟩ := h1
    obtain ⟨a, c, ms, e, hr, hz, hn⟩ := open_members hf
    simp [Value.cells] at e
    obtain ⟨rfl, rfl, rfl⟩ := e
    exact ⟨ms, rfl, hr, hz, hn⟩
  have o2 : ∃ ls : List Mk, len2 = ls.length ∧ RowL W a2 ls ∧ (a2 = none → ls = []) ∧ ls.length ≤ maxLen := by
    obtain ⟨fuel, hf⟩ := h2
    obtain ⟨a, c, ms, e, hr, hz, hn⟩ := open_line hf
    simp [Value.cells] at e
    obtain ⟨rfl, rfl, rfl⟩ := e
    exact ⟨ms, rfl, hr, hz, hn⟩
  have o3 : ∃ ss : List Nat, len3 = ss.length ∧ RowS W a3 ss ∧ ss.length ≤ maxLen := by
    obtain ⟨fuel, hf⟩ := h3
    obtain ⟨a, c, ms, e, hr, _, hn⟩ := open_subs hf
    simp [Value.cells] at e
    obtain ⟨rfl, rfl, rfl⟩ := e
    exact ⟨ms, rfl, hr, hn⟩
  obtain ⟨ms, rfl, hm, zm, nm⟩ := o1
  obtain ⟨ls, rfl, hl, zl, nl⟩ := o2
  obtain ⟨ss, rfl, hs, ns⟩ := o3
  clear hA0 hval0
  refine (walk vid id kk a1 a2 a3 cap1 cap2 cap3 ms ls ss W hm hl hs zm zl nm nl ns).mono fun e W' ⟨he, bel⟩ => ?_
  subst he
  exact ⟨_, rfl, _, _, _, [], _, [], hW', trodAll_mk1 (shut_bool Try.underlying4 _), (trodAll_cons_mk (shut_int Try.underlying22 w0) (trodAll_cons_mk (Below.trod laidOut (by kernel_rfl) (of_decide_eq_true (by kernel_rfl)) h1 bel lt1) (trodAll_cons_mk (Below.trod laidOut (by kernel_rfl) (of_decide_eq_true (by kernel_rfl)) h2 bel lt2) (trodAll_cons_mk (Below.trod laidOut (by kernel_rfl) (of_decide_eq_true (by kernel_rfl)) h3 bel lt3) (trodAll_cons_mk (shut_int Try.underlying22 w4) (trodAll_cons_mk (shut_int Try.underlying3 w5) trodAll_mk0)))))), rfl, bel.frame _, fun h => by cases h⟩

theorem over : Rows.fnInstallerInFirstMarkAtOrBelowAndSplitsRow.holds Try.pinned (OpenSpec.ofChange Rows.fnInstallerInFirstMarkAtOrBelowAndSplitsSpec) :=
  OpenClaim.holds_of_wide 3 Try.f3 rfl rfl rfl rfl rfl rfl rfl ⟨rfl, rfl, rfl, rfl, rfl⟩ rfl rfl rfl rfl rfl (by kernel_rfl) Try.func3 (by kernel_rfl)
    (of_decide_eq_true (by kernel_rfl)) (by unfold Func.isWrapper; first | (rw [if_pos (by decide +kernel)]; kernel_rfl) | (rw [if_neg (by decide +kernel)]; exact ⟨rfl, rfl⟩))
    (fun os started H enc _ => lifted os started H enc)

/-- ████ THE STATEMENT ████ -/
theorem proved : Rows.FnInstallerInFirstMarkAtOrBelowAndSplitsSaid := over
#print axioms proved
end Go.Proofs.Qxb6617401a.fnInstallerInFirstMarkAtOrBelowAndSplits
