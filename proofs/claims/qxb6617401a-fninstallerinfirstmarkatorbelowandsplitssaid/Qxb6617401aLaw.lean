/-
  THE WALK of FnInstallerInFirstMarkAtOrBelowAndSplits, out of the contracts.
-/
import Derived.Test.Qxb6617401aGuard
import Derived.Test.Qxb6617401aWire
namespace Go.Proofs.Qxb6617401a
open Go.RowKit

/-- THE PLAIN LAW: over the whole line what it answers over the first marks where those find, else what it answers over the rest. -/
theorem fnd_split (ls : List Mk) (id : Int) (k : Nat) : fnd ls id = (fnd (ls.take k) id).or (fnd (ls.drop k) id) := by
  conv => lhs; rw [← List.take_append_drop k ls]
  unfold fnd
  rw [List.find?_append]
  cases (List.take k ls).find? (fun m => decide (m.1 ≤ id)) <;> simp

theorem fnd_hit (ls : List Mk) (id : Int) (m : Mb) (h : fnd ls id = some m) : ∃ j, j < ls.length ∧ (ls.getD j mk0).1 ≤ id ∧ (ls.getD j mk0).2 = m := by
  unfold fnd at h
  rw [Option.map_eq_some_iff] at h
  obtain ⟨x, hx, rfl⟩ := h
  have hm := List.mem_of_find?_eq_some hx
  have hp := List.find?_some hx
  obtain ⟨j, hj, rfl⟩ := List.getElem_of_mem hm
  refine ⟨j, hj, ?_, ?_⟩ <;> simp [List.getD_eq_getElem?_getD, hj]
  simpa using hp

theorem fnd_miss (ls : List Mk) (id : Int) (h : fnd ls id = none) : ∀ j, j < ls.length → ¬ (ls.getD j mk0).1 ≤ id := by
  intro j hj
  unfold fnd at h
  rw [Option.map_eq_none_iff, List.find?_eq_none] at h
  have := h ls[j] (List.getElem_mem hj)
  simpa [List.getD_eq_getElem?_getD, hj] using this

theorem RowL.take {w : World} {ao : Option Addr} {ls : List Mk} (h : RowL w ao ls) (k : Nat) : RowL w ao (ls.take k) := by
  intro i hi
  rw [List.length_take] at hi
  have hik : i < k := by omega
  have e : (ls.take k).getD i mk0 = ls.getD i mk0 := by rw [List.getD_eq_getElem?_getD, List.getD_eq_getElem?_getD, List.getElem?_take, if_pos hik]
  rw [e]
  exact h i (by omega)

theorem RowL.drop {w : World} {g : Nat} {ls : List Mk} (h : RowL w (some ⟨g, 0, none⟩) ls) (k : Nat) : RowL w (some ⟨g, k * 4, none⟩) (ls.drop k) := by
  intro i hi
  simp at hi
  have e : (ls.drop k).getD i mk0 = ls.getD (k + i) mk0 := by simp [List.getD_eq_getElem?_getD, List.getElem?_drop]
  rw [e]
  obtain ⟨b, off, ee, h0, h1, h2, h3, hl⟩ := h (k + i) (by omega)
  have e2 := Option.some.inj ee
  simp only [Addr.mk.injEq, and_true] at e2
  obtain ⟨rfl, rfl⟩ := e2
  refine ⟨g, k * 4, rfl, ?_, ?_, ?_, ?_, hl⟩
  · rw [show k * 4 + i * 4 = 0 + (k + i) * 4 by omega]; exact h0
  · rw [show k * 4 + i * 4 + 1 = 0 + (k + i) * 4 + 1 by omega]; exact h1
  · rw [show k * 4 + i * 4 + 1 + 1 = 0 + (k + i) * 4 + 1 + 1 by omega]; exact h2
  · rw [show k * 4 + i * 4 + 1 + 1 + 1 = 0 + (k + i) * 4 + 1 + 1 + 1 by omega]; exact h3

set_option maxRecDepth 100000 in
set_option maxHeartbeats 4000000 in
/-- A cut outside the line. -/
theorem law_out (vid id kk : Int) (am al asb : Option Addr) (cm cl cs : Nat) (ms : List Mb) (ls : List Mk) (ss : List Nat) (w : World) (hm : RowM w am ms) (hl : RowL w al ls) (hs : RowS w asb ss) (nm : ms.length ≤ maxLen) (nl : ls.length ≤ maxLen) (ns : ss.length ≤ maxLen) (hk : kk < 0 ∨ (ls.length : Int) < kk) :
    Calls Try.prog 3 #[.int .u64 vid, .slice am ms.length cm, .slice al ls.length cl, .slice asb ss.length cs, .int .u64 id, .int .i64 kk] w fun e w' => e = .returned (.bool true) ∧ Below w.heap.size w w' := by
  have HR : Hid (RowM w am ms ∧ RowL w al ls ∧ RowS w asb ss) := ⟨hm, hl, hs⟩
  clear hm hl hs
  have nm' := nm
  have nl' := nl
  have ns' := ns
  unfold maxLen at nm' nl' ns'
  by_cases hk0 : kk < 0
  · clear hk
    go_enter Try.func3, Try.ntmps3
    go_wp2_with fail
    refine (guard_any vid id kk am al asb cm cl cs ms ls ss _ HR.out.1 HR.out.2.1 HR.out.2.2 nm nl ns).mono ?_
    rintro e w' ⟨⟨g, rfl, hg⟩, rfl⟩
    cases g
    · clear hg
      go_wp2_with fail
      go_ret
      exact ⟨rfl, Below.refl _ _⟩
    have hgb := hg rfl
    clear hg
    go_wp2_with fail
    refine (viewBytes_any am al asb cm cl cs ms ls ss _ HR.out.1 HR.out.2.1 HR.out.2.2 hgb.1 hgb.2.1 hgb.2.2).mono ?_
    rintro e w1 ⟨⟨r, rfl, hr0, hr1⟩, hb1⟩
    have HB1 : Hid (Below w.heap.size w w1) := hb1
    clear hb1
    by_cases hrb : 1048576 < r
    · go_wp2_with fail
      go_ret
      exact ⟨rfl, HB1.out⟩
    · go_wp2_with fail
      go_ret
      exact ⟨rfl, HB1.out⟩
  · have hk1 : (ls.length : Int) < kk := by omega
    clear hk
    go_enter Try.func3, Try.ntmps3
    go_wp2_with fail
    refine (guard_any vid id kk am al asb cm cl cs ms ls ss _ HR.out.1 HR.out.2.1 HR.out.2.2 nm nl ns).mono ?_
    rintro e w' ⟨⟨g, rfl, hg⟩, rfl⟩
    cases g
    · clear hg
      go_wp2_with fail
      go_ret
      exact ⟨rfl, Below.refl _ _⟩
    have hgb := hg rfl
    clear hg
    go_wp2_with fail
    refine (viewBytes_any am al asb cm cl cs ms ls ss _ HR.out.1 HR.out.2.1 HR.out.2.2 hgb.1 hgb.2.1 hgb.2.2).mono ?_
    rintro e w1 ⟨⟨r, rfl, hr0, hr1⟩, hb1⟩
    have HB1 : Hid (Below w.heap.size w w1) := hb1
    clear hb1
    by_cases hrb : 1048576 < r
    · go_wp2_with fail
      go_ret
      exact ⟨rfl, HB1.out⟩
    · go_wp2_with fail
      go_ret
      exact ⟨rfl, HB1.out⟩

end Go.Proofs.Qxb6617401a
