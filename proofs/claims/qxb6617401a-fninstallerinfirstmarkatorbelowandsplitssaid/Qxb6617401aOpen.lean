/-
  THE THREE ROWS THAT CAME IN, OPENED: a member is three cells, a mark four, a subgroup one.
-/
import Derived.Test.Qxb6617401aView
import Derived.Deep.Slices
import Derived.Deep.Strs
import Derived.ChangeSame
import Derived.Lib.SmallJoins
namespace Go.Proofs.Qxb6617401a
open Go.RowKit

theorem cells22 : Try.prog.cellsOf 22 = 1 := by kernel_rfl
theorem cells9 : Try.prog.cellsOf 9 = 1 := by kernel_rfl
theorem cells39 : Try.prog.cellsOf 39 = 3 := by kernel_rfl
theorem cells41 : Try.prog.cellsOf 41 = 4 := by kernel_rfl
theorem cells44 : Try.prog.cellsOf 44 = 1 := by kernel_rfl

theorem cell_lt {w : World} {a : Addr} {v : Value} (h : w.cell? a = some v) : a.block < w.heap.size := by
  rcases Nat.lt_or_ge a.block w.heap.size with h1 | h1
  · exact h1
  · unfold World.cell? at h
    rw [Array.getElem?_eq_none h1] at h
    simp at h

theorem getD_map_range {α : Type} (F : Nat → α) (d : α) (n i : Nat) (h : i < n) : ((List.range n).map F).getD i d = F i := by
  simp [List.getD_eq_getElem?_getD, h]

section
variable {H : Type} {enc : TypeId × Value → H} {w : World} {base : Nat} {spare : Nat → Bool} {held : Bool} {fuel : Nat} {cs : List Value} {x : DataW H × List MemPlace}

/-- One member. -/
theorem open_member (h : DataW.trod enc Try.prog w base spare held fuel 39 cs = some x) : ∃ z : Mb, cs = [.string z.1, .string z.2.1, .int .u64 z.2.2] := by
  obtain ⟨y0, y1, y2, n, _, hl, h0, h1, h2⟩ := Go.Deep.trod_struct3 Try.underlying39 h
  rw [cells39] at hl
  obtain ⟨c0, c1, c2, rfl⟩ : ∃ c0 c1 c2, cs = [c0, c1, c2] := by
    match cs, hl with
    | [c0, c1, c2], _ => exact ⟨_, _, _, rfl⟩
  simp only [cells9, cells22, List.drop_zero, List.take_succ_cons, List.take_zero, List.drop_succ_cons] at h0 h1 h2
  obtain ⟨s0, e0, _⟩ := DataW.trod_string Try.underlying9 h0
  obtain ⟨s1, e1, _⟩ := DataW.trod_string Try.underlying9 h1
  obtain ⟨s2, e2, _⟩ := DataW.trod_int Try.underlying22 h2
  simp only [List.cons.injEq, and_true] at e0 e1 e2
  subst e0 e1 e2
  exact ⟨(s0, s1, s2), rfl⟩

/-- One mark. -/
theorem open_mark (h : DataW.trod enc Try.prog w base spare held fuel 41 cs = some x) : ∃ z : Mk, cs = [.int .u64 z.1, .string z.2.1, .string z.2.2.1, .int .u64 z.2.2.2] := by
  obtain ⟨y0, y1, n, _, hl, h0, h1⟩ := Go.ChangeShapes.trod_struct2 Try.underlying41 h
  rw [cells41] at hl
  obtain ⟨c0, c1, c2, c3, rfl⟩ : ∃ c0 c1 c2 c3, cs = [c0, c1, c2, c3] := by
    match cs, hl with
    | [c0, c1, c2, c3], _ => exact ⟨_, _, _, _, rfl⟩
  simp only [cells39, cells22, List.drop_zero, List.take_succ_cons, List.take_zero, List.drop_succ_cons] at h0 h1
  obtain ⟨s0, e0, _⟩ := DataW.trod_int Try.underlying22 h0
  obtain ⟨z, e1⟩ := open_member h1
  simp only [List.cons.injEq, and_true] at e0 e1
  obtain ⟨rfl, rfl, rfl⟩ := e1
  subst e0
  exact ⟨(s0, z), rfl⟩

theorem open_members (h : DataW.trod enc Try.prog w base spare held fuel 23 cs = some x) : ∃ (a : Option Addr) (c : Nat) (ms : List Mb), cs = [.slice a ms.length c] ∧ RowM w a ms ∧ (a = none → ms = []) ∧ ms.length ≤ maxLen := by
  rcases Go.Deep.open_slice Try.underlying23 h with ⟨rfl, _⟩ | ⟨a, len, cap, m, n, D, Pl, rfl, _, hl, hm, hmm, _, hx⟩
  · exact ⟨none, 0, [], rfl, fun i hi => by simp at hi, fun _ => rfl, Nat.zero_le _⟩
  · have hle : len ≤ m := by rw [hmm]; split <;> omega
    obtain ⟨b, off, spot⟩ := a
    by_cases hz : len = 0
    · subst hz
      exact ⟨some ⟨b, off, spot⟩, cap, [], rfl, fun i hi => by simp at hi, fun _ => rfl, Nat.zero_le _⟩
    have hs : spot = none := by
      obtain ⟨cs', h1, h2⟩ := hx 0 (by omega)
      rw [cells39] at h1
      obtain ⟨z, rfl⟩ := open_member h2
      have hc := (World.cells?_some h1).2.2 0 (by omega)
      simpa [Addr.add] using World.cell?_spot hc
    subst hs
    obtain ⟨F, hF⟩ := Go.Deep.choose_lt (α := Mb) (n := len) (p := fun i z => w.cell? ⟨b, off + i * 3, none⟩ = some (.string z.1) ∧ w.cell? ⟨b, off + i * 3 + 1, none⟩ = some (.string z.2.1) ∧ w.cell? ⟨b, off + i * 3 + 1 + 1, none⟩ = some (.int .u64 z.2.2)) (fun i hi => by
      obtain ⟨cs', h1, h2⟩ := hx i (by omega)
      rw [cells39] at h1
      obtain ⟨z, rfl⟩ := open_member h2
      have hc := (World.cells?_some h1).2.2
      simp only [Addr.add_lit] at hc
      exact ⟨z, hc 0 (by omega), hc 1 (by omega), hc 2 (by omega)⟩)
    refine ⟨some ⟨b, off, none⟩, cap, (List.range len).map F, by simp, ?_, (fun e => by cases e), by simp; omega⟩
    intro i hi
    simp only [List.length_map, List.length_range] at hi
    have h := hF i hi
    rw [getD_map_range F mb0 len i hi]
    exact ⟨b, off, rfl, h.1, h.2.1, h.2.2, cell_lt h.1⟩

theorem open_line (h : DataW.trod enc Try.prog w base spare held fuel 24 cs = some x) : ∃ (a : Option Addr) (c : Nat) (ls : List Mk), cs = [.slice a ls.length c] ∧ RowL w a ls ∧ (a = none → ls = []) ∧ ls.length ≤ maxLen := by
  rcases Go.Deep.open_slice Try.underlying24 h with ⟨rfl, _⟩ | ⟨a, len, cap, m, n, D, Pl, rfl, _, hl, hm, hmm, _, hx⟩
  · exact ⟨none, 0, [], rfl, fun i hi => by simp at hi, fun _ => rfl, Nat.zero_le _⟩
  · have hle : len ≤ m := by rw [hmm]; split <;> omega
    obtain ⟨b, off, spot⟩ := a
    by_cases hz : len = 0
    · subst hz
      exact ⟨some ⟨b, off, spot⟩, cap, [], rfl, fun i hi => by simp at hi, fun _ => rfl, Nat.zero_le _⟩
    have hs : spot = none := by
      obtain ⟨cs', h1, h2⟩ := hx 0 (by omega)
      rw [cells41] at h1
      obtain ⟨z, rfl⟩ := open_mark h2
      have hc := (World.cells?_some h1).2.2 0 (by omega)
      simpa [Addr.add] using World.cell?_spot hc
    subst hs
    obtain ⟨F, hF⟩ := Go.Deep.choose_lt (α := Mk) (n := len) (p := fun i z => w.cell? ⟨b, off + i * 4, none⟩ = some (.int .u64 z.1) ∧ w.cell? ⟨b, off + i * 4 + 1, none⟩ = some (.string z.2.1) ∧ w.cell? ⟨b, off + i * 4 + 1 + 1, none⟩ = some (.string z.2.2.1) ∧ w.cell? ⟨b, off + i * 4 + 1 + 1 + 1, none⟩ = some (.int .u64 z.2.2.2)) (fun i hi => by
      obtain ⟨cs', h1, h2⟩ := hx i (by omega)
      rw [cells41] at h1
      obtain ⟨z, rfl⟩ := open_mark h2
      have hc := (World.cells?_some h1).2.2
      simp only [Addr.add_lit] at hc
      exact ⟨z, hc 0 (by omega), hc 1 (by omega), hc 2 (by omega), hc 3 (by omega)⟩)
    refine ⟨some ⟨b, off, none⟩, cap, (List.range len).map F, by simp, ?_, (fun e => by cases e), by simp; omega⟩
    intro i hi
    simp only [List.length_map, List.length_range] at hi
    have h := hF i hi
    rw [getD_map_range F mk0 len i hi]
    exact ⟨b, off, rfl, h.1, h.2.1, h.2.2.1, h.2.2.2, cell_lt h.1⟩

theorem open_subs (h : DataW.trod enc Try.prog w base spare held fuel 25 cs = some x) : ∃ (a : Option Addr) (c : Nat) (ss : List Nat), cs = [.slice a ss.length c] ∧ RowS w a ss ∧ (a = none → ss = []) ∧ ss.length ≤ maxLen := by
  rcases Go.Deep.open_slice1 Try.underlying25 cells44 h with ⟨rfl, _⟩ | ⟨a, len, cap, m, n, V, D, Pl, rfl, _, hl, hm, hmm, _, hx⟩
  · exact ⟨none, 0, [], rfl, fun i hi => by simp at hi, fun _ => rfl, Nat.zero_le _⟩
  · have hle : len ≤ m := by rw [hmm]; split <;> omega
    obtain ⟨b, off, spot⟩ := a
    by_cases hz : len = 0
    · subst hz
      exact ⟨some ⟨b, off, spot⟩, cap, [], rfl, fun i hi => by simp at hi, fun _ => rfl, Nat.zero_le _⟩
    have hs : spot = none := by simpa [Addr.add] using World.cell?_spot (hx 0 (by omega)).1
    subst hs
    refine ⟨some ⟨b, off, none⟩, cap, List.replicate len 0, by simp, ?_, (fun e => by cases e), by simp; omega⟩
    intro i hi
    simp only [List.length_replicate] at hi
    obtain ⟨h0, h1⟩ := hx i (by omega)
    obtain ⟨sa, sl, sc, e⟩ := Go.Joins.slice_form Try.underlying44 h1
    simp only [List.cons.injEq, and_true] at e
    rw [e, Addr.add_lit] at h0
    exact ⟨b, off, sa, sl, sc, rfl, h0, cell_lt h0⟩

end
end Go.Proofs.Qxb6617401a
