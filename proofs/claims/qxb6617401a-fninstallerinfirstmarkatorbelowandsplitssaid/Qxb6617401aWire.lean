/-
  THE WALKS of toWireMembers and toWireLine: rows of the call's own.
-/
import Derived.Test.Qxb6617401aView
import Derived.Lib.SliceRun
import Derived.RegionTactic
namespace Go.Proofs.Qxb6617401a
open Go.RowKit

/-- Block g is a row of m cells, none frozen. -/
def Blk (w : World) (g : Nat) (t : TypeId) (cur : Array Value) : Prop := w.heap[g]? = some (.cells cur t (0, 0))
theorem Blk.cell {w : World} {g : Nat} {t : TypeId} {cur : Array Value} (h : Blk w g t cur) (j : Nat) (hj : j < cur.size) : ∃ x, w.cell? ⟨g, j, none⟩ = some x := by
  rw [cell_of_row w g j cur t (0, 0) h, Array.getElem?_eq_getElem hj]
  exact ⟨_, rfl⟩
theorem Blk.frozen {w : World} {g : Nat} {t : TypeId} {cur : Array Value} (h : Blk w g t cur) (j : Nat) : w.frozen? ⟨g, j, none⟩ = false := frozen_of_row w g j cur t h
theorem Blk.set {w : World} {g : Nat} {t : TypeId} {cur : Array Value} (h : Blk w g t cur) (j : Nat) (u : Value) : Blk (w.setCell ⟨g, j, none⟩ u) g t (cur.setIfInBounds j u) := heap_setCell_same w g j cur t u h
theorem Blk.lt {w : World} {g : Nat} {t : TypeId} {cur : Array Value} (h : Blk w g t cur) : g < w.heap.size := lt_of_block h
theorem Blk.alloc {w : World} {g : Nat} {t : TypeId} {cur : Array Value} (h : Blk w g t cur) (o : Obj) : Blk (w.alloc o) g t cur := by
  unfold Blk at h ⊢
  rw [Below.heap_alloc _ _ _ (lt_of_block h)]
  exact h

theorem info35 : (Try.prog.info? 35).map (fun i => (i.zero, i.size, i.bytes)) = some (some (.agg #[.string ⟨#[]⟩, .string ⟨#[]⟩, .int .u64 0]), 3, 40) := by kernel_rfl
theorem info49 : (Try.prog.info? 49).map (fun i => (i.zero, i.size, i.bytes)) = some (some (.agg #[.int .u64 0, .string ⟨#[]⟩, .string ⟨#[]⟩, .int .u64 0]), 4, 48) := by kernel_rfl

/-- What toWireMembers says: some slice. -/
def SliceSays (w : World) (e : Ending) (w' : World) : Prop := ∃ a n c, e = .returned (.slice a n c) ∧ Below w.heap.size w w'

set_option maxHeartbeats 1000000 in
theorem toWireMembers_any (ms : List Mb) (ao : Option Addr) (c : Nat) (w : World) (hrow : RowM w ao ms) (hnil : ao = none → ms = []) (hn : ms.length ≤ 1048576) :
    Calls Try.prog 6 #[.slice ao ms.length c] w fun e w' => SliceSays w e w' := by
  have hq := fun (w : World) (a : Option Addr) (n c : Nat) => Lib.run_eql_slice_nil (P := Try.prog) w 23 39 a n c 0 0 Try.underlying23
  cases ao with
  | none =>
    obtain rfl := hnil rfl
    go_enter Try.func6, Try.ntmps6
    go_wp2
    go_ret
    exact ⟨_, _, _, rfl, Below.refl _ _⟩
  | some a =>
    clear hnil
    obtain ⟨i0, hi, hz0, hz1, hz2⟩ := info_parts info35
    go_enter Try.func6, Try.ntmps6
    go_wp2_with (at_make; refine wpList_make_full _ rfl _ _ 28 rfl w.heap.size 35 i0 (.agg #[.string ⟨#[]⟩, .string ⟨#[]⟩, .int .u64 0]) 3 Try.underlying28 hi hz0 hz1 .i64 .i64 _ _ ms.length rfl rfl (by simp) (by simp) (by rw [hz2]; omega) (by unfold maxLen; omega) (Nat.le_refl _) ?_)
    intro w1 hown hgrow
    clear hi hz0 hz1 hz2
    obtain ⟨cur, hcur, hcs⟩ : ∃ cur, Blk w1 w.heap.size 35 cur ∧ cur.size = ms.length * 3 := by
      rcases hown.2 with ⟨h, _⟩ | ⟨g', cap', cur, h, _, hg, _, _, hcs, _⟩
      · simp at h
      · simp only [Value.slice.injEq, Option.some.injEq, Addr.mk.injEq, and_true, true_and] at h
        obtain ⟨rfl, rfl⟩ := h
        exact ⟨cur, hg, hcs⟩
    have hbel : Below w.heap.size w w1 := (Below.refl _ _).grown hgrow (Nat.le_refl _) (fun k h => by cases h)
    have HI0 : Hid (Below w.heap.size w w1 ∧ ∃ cur, Blk w1 w.heap.size 35 cur ∧ cur.size = ms.length * 3) := ⟨hbel, cur, hcur, hcs⟩
    have HRW : Hid (RowM w (some a) ms) := hrow
    clear hown hgrow hcur hcs hbel hrow
    generalize hg : w.heap.size = g at *
    have HG : Hid (w.heap.size = g) := hg
    clear hg
    go_wp2_with fail
    go_loopg [4] ms.length (fun n i wr => ∃ k : Nat, Hid (k + n = ms.length) ∧ i = .int .i64 k ∧ Hid (Below g w wr ∧ ∃ cur, Blk wr g 35 cur ∧ cur.size = ms.length * 3))
    case atStart => exact ⟨0, Nat.zero_add _, rfl, HI0.out⟩
    case round =>
      obtain ⟨k, hk, rfl, ho⟩ := hrel
      clear HI0
      obtain ⟨hb, cur, hblk, hcs⟩ := ho.out
      by_cases hlt : k < ms.length
      · obtain ⟨b, off, ea, h0, h1, h2, hl⟩ := HRW.out.kept (by rw [HG.out]; exact hb) k hlt
        obtain rfl := Option.some.inj ea
        generalize ms.getD k mb0 = z at h0 h1 h2
        obtain ⟨z1, z2, z3⟩ := z
        simp only at h0 h1 h2
        obtain ⟨x0, e0⟩ := hblk.cell (k * 3) (by omega)
        obtain ⟨x1, e1⟩ := hblk.cell (k * 3 + 1) (by omega)
        obtain ⟨x2, e2⟩ := hblk.cell (k * 3 + 1 + 1) (by omega)
        have ef := hblk.frozen
        have hgl := hblk.lt
        have HBB : Hid (Below g w wr ∧ Blk wr g 35 cur ∧ cur.size = ms.length * 3) := ⟨hb, hblk, hcs⟩
        clear hb hblk hcs ho
        go_wp2_with fail
        refine (toWire_any z1 z2 z3 _).mono ?_
        rintro e w' ⟨rfl, rfl⟩
        go_wp2_with fail
        go_roundg (gk - 1)
        case measure => have := hk.out; omega
        case rel =>
          refine ⟨k + 1, (by have := hk.out; show k + 1 + (gk - 1) = ms.length; omega), by go_num, ?_, _, ((((HBB.out.2.1.set _ _).set _ _).set _ _).alloc _).alloc _, by simp; exact HBB.out.2.2⟩
          exact ((((HBB.out.1.setCell (Nat.le_refl _) _).setCell (Nat.le_refl _) _).setCell (Nat.le_refl _) _).alloc (by have := HBB.out.2.1.lt; simp; omega) _).alloc (by have := HBB.out.2.1.lt; simp; omega) _
      · have HBB : Hid (Below w.heap.size w wr) := by rw [HG.out]; exact hb
        clear hb hblk hcs ho
        go_wp2_with fail
        go_ret
        exact ⟨_, _, _, rfl, HBB.out⟩

/-- The first k marks lie in the row. -/
def Filled (cur : Array Value) (ls : List Mk) (k : Nat) : Prop :=
  cur.size = ls.length * 4 ∧ ∀ i, i < k → cur[i * 4]? = some (.int .u64 (ls.getD i mk0).1) ∧ cur[i * 4 + 1]? = some (.string (ls.getD i mk0).2.1) ∧ cur[i * 4 + 2]? = some (.string (ls.getD i mk0).2.2.1) ∧ cur[i * 4 + 3]? = some (.int .u64 (ls.getD i mk0).2.2.2)

theorem Filled.step {cur : Array Value} {ls : List Mk} {k : Nat} (h : Filled cur ls k) (hk : k < ls.length) (z1 : Int) (z2 z3 : ByteArray) (z4 : Int) (hz : ls.getD k mk0 = (z1, z2, z3, z4)) :
    Filled ((((cur.setIfInBounds (k * 4) (.int .u64 z1)).setIfInBounds (k * 4 + 1) (.string z2)).setIfInBounds (k * 4 + 2) (.string z3)).setIfInBounds (k * 4 + 3) (.int .u64 z4)) ls (k + 1) := by
  refine ⟨by simp; exact h.1, fun i hi => ?_⟩
  have hs := h.1
  simp only [Array.getElem?_setIfInBounds, Array.size_setIfInBounds]
  by_cases e : i = k
  · subst e
    rw [hz]
    refine ⟨?_, ?_, ?_, ?_⟩
    · rw [if_neg (by omega), if_neg (by omega), if_neg (by omega), if_pos rfl, if_pos (by omega)]
    · rw [if_neg (by omega), if_neg (by omega), if_pos rfl, if_pos (by omega)]
    · rw [if_neg (by omega), if_pos rfl, if_pos (by omega)]
    · rw [if_pos rfl, if_pos (by omega)]
  · obtain ⟨a, b, c, d⟩ := h.2 i (by omega)
    refine ⟨?_, ?_, ?_, ?_⟩
    · rw [if_neg (by omega), if_neg (by omega), if_neg (by omega), if_neg (by omega)]; exact a
    · rw [if_neg (by omega), if_neg (by omega), if_neg (by omega), if_neg (by omega)]; exact b
    · rw [if_neg (by omega), if_neg (by omega), if_neg (by omega), if_neg (by omega)]; exact c
    · rw [if_neg (by omega), if_neg (by omega), if_neg (by omega), if_neg (by omega)]; exact d

theorem Filled.row {w : World} {g : Nat} {t : TypeId} {cur : Array Value} {ls : List Mk} (h : Filled cur ls ls.length) (hb : Blk w g t cur) : RowL w (some ⟨g, 0, none⟩) ls := by
  intro i hi
  obtain ⟨a, b, c, d⟩ := h.2 i hi
  refine ⟨g, 0, rfl, ?_, ?_, ?_, ?_, hb.lt⟩
  all_goals rw [Nat.zero_add, cell_of_row w g _ cur t (0, 0) hb]
  · exact a
  · exact b
  · exact c
  · exact d

/-- What toWireLine says. -/
def LineSays (ls : List Mk) (w : World) (e : Ending) (w' : World) : Prop := ∃ a, e = .returned (.slice a ls.length ls.length) ∧ RowL w' a ls ∧ ((a = none ∧ ls = []) ∨ ∃ g, a = some ⟨g, 0, none⟩) ∧ Below w.heap.size w w'

set_option maxHeartbeats 4000000 in
theorem toWireLine_any (ls : List Mk) (ao : Option Addr) (c : Nat) (w : World) (hrow : RowL w ao ls) (hnil : ao = none → ls = []) (hn : ls.length ≤ 1048576) :
    Calls Try.prog 7 #[.slice ao ls.length c] w fun e w' => LineSays ls w e w' := by
  have hq := fun (w : World) (a : Option Addr) (n c : Nat) => Lib.run_eql_slice_nil (P := Try.prog) w 24 41 a n c 0 0 Try.underlying24
  cases ao with
  | none =>
    obtain rfl := hnil rfl
    go_enter Try.func7, Try.ntmps7
    go_wp2
    go_ret
    exact ⟨none, rfl, (fun i hi => by simp at hi), .inl ⟨rfl, rfl⟩, Below.refl _ _⟩
  | some a =>
    clear hnil
    obtain ⟨i0, hi, hz0, hz1, hz2⟩ := info_parts info49
    go_enter Try.func7, Try.ntmps7
    go_wp2_with (at_make; refine wpList_make_full _ rfl _ _ 30 rfl w.heap.size 49 i0 (.agg #[.int .u64 0, .string ⟨#[]⟩, .string ⟨#[]⟩, .int .u64 0]) 4 Try.underlying30 hi hz0 hz1 .i64 .i64 _ _ ls.length rfl rfl (by simp) (by simp) (by rw [hz2]; omega) (by unfold maxLen; omega) (Nat.le_refl _) ?_)
    intro w1 hown hgrow
    clear hi hz0 hz1 hz2
    obtain ⟨cur, hcur, hcs⟩ : ∃ cur, Blk w1 w.heap.size 49 cur ∧ cur.size = ls.length * 4 := by
      rcases hown.2 with ⟨h, _⟩ | ⟨g', cap', cur, h, _, hg, _, _, hcs, _⟩
      · simp at h
      · simp only [Value.slice.injEq, Option.some.injEq, Addr.mk.injEq, and_true, true_and] at h
        obtain ⟨rfl, rfl⟩ := h
        exact ⟨cur, hg, hcs⟩
    have hbel : Below w.heap.size w w1 := (Below.refl _ _).grown hgrow (Nat.le_refl _) (fun k h => by cases h)
    have HI0 : Hid (Below w.heap.size w w1 ∧ ∃ cur, Blk w1 w.heap.size 49 cur ∧ Filled cur ls 0) := ⟨hbel, cur, hcur, hcs, fun i hi => absurd hi (by omega)⟩
    have HRW : Hid (RowL w (some a) ls) := hrow
    clear hown hgrow hcur hcs hbel hrow
    generalize hg : w.heap.size = g at *
    have HG : Hid (w.heap.size = g) := hg
    clear hg
    go_wp2_with fail
    go_loopg [4] ls.length (fun n i wr => ∃ k : Nat, Hid (k + n = ls.length) ∧ i = .int .i64 k ∧ Hid (Below g w wr ∧ ∃ cur, Blk wr g 49 cur ∧ Filled cur ls k))
    case atStart => exact ⟨0, Nat.zero_add _, rfl, HI0.out⟩
    case round =>
      obtain ⟨k, hk, rfl, ho⟩ := hrel
      clear HI0
      obtain ⟨hb, cur, hblk, hfil⟩ := ho.out
      by_cases hlt : k < ls.length
      · obtain ⟨b, off, ea, h0, h1, h2, h3, hl⟩ := HRW.out.kept (by rw [HG.out]; exact hb) k hlt
        obtain rfl := Option.some.inj ea
        have hst := hfil.step hlt
        generalize ls.getD k mk0 = z at h0 h1 h2 h3 hst
        obtain ⟨z1, z2, z3, z4⟩ := z
        simp only at h0 h1 h2 h3
        have hcs := hfil.1
        obtain ⟨x0, e0⟩ := hblk.cell (k * 4) (by omega)
        obtain ⟨x1, e1⟩ := hblk.cell (k * 4 + 1) (by omega)
        obtain ⟨x2, e2⟩ := hblk.cell (k * 4 + 1 + 1) (by omega)
        obtain ⟨x3, e3⟩ := hblk.cell (k * 4 + 1 + 1 + 1) (by omega)
        have ef := hblk.frozen
        have hgl := hblk.lt
        have hgl2 : g < wr.heap.size + 1 := by omega
        have hgl3 : g < wr.heap.size + 1 + 1 := by omega
        have hl2 : b < wr.heap.size + 1 := by omega
        have hl3 : b < wr.heap.size + 1 + 1 := by omega
        have hki : (k : Int) < (ls.length : Int) := by omega
        have HBB : Hid (Below g w wr ∧ Blk wr g 49 cur) := ⟨hb, hblk⟩
        have HST : Hid _ := hst z1 z2 z3 z4 rfl
        clear hb hblk hcs ho hfil hst
        go_wp2_with fail
        go_region_with (go_at_call 14; refine (toWire_any z2 z3 z4 _).mono ?_; rintro e w' ⟨rfl, rfl⟩)
        all_goals
          go_wp2_with fail
          go_roundg (gk - 1)
          case measure => have := hk.out; omega
          case rel =>
            refine ⟨k + 1, (by have := hk.out; show k + 1 + (gk - 1) = ls.length; omega), by go_num, ?_, _, (((((HBB.out.2.set _ _).set _ _).set _ _).set _ _).alloc _).alloc _, HST.out⟩
            exact ((((((HBB.out.1.setCell (Nat.le_refl _) _).setCell (Nat.le_refl _) _).setCell (Nat.le_refl _) _).setCell (Nat.le_refl _) _).alloc (by have := HBB.out.2.lt; simp; omega) _).alloc (by have := HBB.out.2.lt; simp; omega) _).drew
      · have HBB : Hid (Below w.heap.size w wr ∧ RowL wr (some ⟨g, 0, none⟩) ls) := by
          refine ⟨by rw [HG.out]; exact hb, ?_⟩
          have e : k = ls.length := by have := hk.out; omega
          rw [e] at hfil
          exact hfil.row hblk
        clear hb hblk hfil ho
        go_wp2_with fail
        go_ret
        exact ⟨some ⟨g, 0, none⟩, rfl, HBB.out.2, .inr ⟨g, rfl⟩, HBB.out.1⟩

end Go.Proofs.Qxb6617401a
