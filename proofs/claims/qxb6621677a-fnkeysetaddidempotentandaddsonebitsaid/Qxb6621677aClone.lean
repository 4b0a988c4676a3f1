/-
  THE WALK of b1CloneWords: a row of the call's own with the same numbers.
-/
import Derived.Test.Qxb6621677aReads
import Derived.Lib.SliceRun
namespace Go.Proofs.Qxb6621677a
open Go.RowKit

theorem info25 : (Try.prog.info? 25).map (fun i => (i.zero, i.size, i.bytes)) = some (some (.int .u64 0), 1, 8) := by kernel_rfl

/-- v is a slice of the call's own (blocks from base on) that holds the numbers xs. -/
def Own (base : Nat) (w : World) (v : Value) (xs : List Int) : Prop := w.ownsRow base 25 1 v xs.length (xs.map (Value.int .u64))

/-- What a clone says. -/
def CloneSays (xs : List Int) (w : World) (e : Ending) (w' : World) : Prop := ∃ v, e = .returned v ∧ Own w.heap.size w' v xs ∧ Below w.heap.size w w'

/-- The first k numbers laid over zeros. -/
def fill (xs : List Int) (k : Nat) : List Int := xs.take k ++ List.replicate (xs.length - k) 0
theorem fill_length (xs : List Int) (k : Nat) (h : k ≤ xs.length) : (fill xs k).length = xs.length := by simp [fill]; omega
theorem fill_zero (xs : List Int) : fill xs 0 = List.replicate xs.length 0 := by simp [fill]
theorem fill_all (xs : List Int) : fill xs xs.length = xs := by simp [fill]
theorem fill_set (xs : List Int) (k : Nat) (h : k < xs.length) : (fill xs k).set k (xs.getD k 0) = fill xs (k + 1) := by
  have e : xs.getD k 0 = xs[k] := by simp [List.getD_eq_getElem?_getD, h]
  obtain ⟨m, hm⟩ : ∃ m, xs.length - k = m + 1 := ⟨xs.length - k - 1, by omega⟩
  have hm' : xs.length - (k + 1) = m := by omega
  have hl : (xs.take k).length = k := by simp; omega
  unfold fill
  rw [hm, hm', List.set_append_right _ _ (by omega), hl, Nat.sub_self, List.replicate_succ, List.set_cons_zero, List.take_succ_eq_append_getElem h, e, List.append_assoc]
  rfl

/-- One round of the copy. -/
theorem fill_step {base g n : Nat} {xs : List Int} {k : Nat} {wr : World} (hk : k < xs.length) (hn : n = xs.length) (h : wr.ownsRow base 25 1 (.slice (some ⟨g, 0, none⟩) n n) n ((fill xs k).map (Value.int .u64))) :
    (wr.cell? ⟨g, k, none⟩).isSome = true ∧ wr.frozen? ⟨g, k, none⟩ = false ∧ (wr.setCell ⟨g, k, none⟩ (.int .u64 (xs.getD k 0))).ownsRow base 25 1 (.slice (some ⟨g, 0, none⟩) n n) n ((fill xs (k + 1)).map (Value.int .u64)) := by
  subst hn
  refine ⟨?_, h.frozenAt k, ?_⟩
  · rw [h.cellAt k (by omega)]
    rw [List.getElem?_eq_getElem (by rw [List.length_map, fill_length _ _ (by omega)]; exact hk)]
    rfl
  · have := (h.stored k (.int .u64 (xs.getD k 0))).1
    rw [← fill_set xs k hk, List.map_set]
    exact this

set_option maxHeartbeats 1000000 in
theorem clone_any (xs : List Int) (ao : Option Addr) (c : Nat) (w : World) (hrow : Row .u64 w ao xs) (hnil : ao = none → xs = []) (hn : xs.length ≤ 10000000) :
    Calls Try.prog 10 #[.slice ao xs.length c] w fun e w' => CloneSays xs w e w' := by
  have hq := fun (w : World) (a : Option Addr) (n c : Nat) => Lib.run_eql_slice_nil (P := Try.prog) w 26 25 a n c 0 0 Try.underlying26
  cases ao with
  | none =>
    obtain rfl := hnil rfl
    go_enter Try.func10, Try.ntmps10
    go_wp2
    go_ret
    exact ⟨_, rfl, World.ownsRow_nil _ _ _ _, Below.refl _ _⟩
  | some a =>
    clear hnil
    obtain ⟨i0, hi, hz0, hz1, hz2⟩ := info_parts info25
    go_enter Try.func10, Try.ntmps10
    go_wp2_with (at_make; refine wpList_make_full _ rfl _ _ 26 rfl w.heap.size 25 i0 (.int .u64 0) 1 Try.underlying26 hi hz0 hz1 .i64 .i64 _ _ xs.length rfl rfl (by simp) (by simp) (by rw [hz2]; omega) (by unfold maxLen; omega) (Nat.le_refl _) ?_)
    intro w1 hown hgrow
    clear hi hz0 hz1 hz2
    have hown1 : w1.ownsRow w.heap.size 25 1 (.slice (some ⟨w.heap.size, 0, none⟩) xs.length xs.length) xs.length ((fill xs 0).map (Value.int .u64)) := by
      rw [fill_zero, List.map_replicate]
      rw [← toList_madeCells_one]; exact hown
    have hbel : Below w.heap.size w w1 := (Below.refl _ _).grown hgrow (Nat.le_refl _) (fun k h => by cases h)
    clear hown hgrow
    generalize hg : w.heap.size = g at *
    go_wp2_with fail
    go_loopw [4] (fun i wr => ∃ k : Nat, k ≤ xs.length ∧ i = .int .i64 k ∧ wr.ownsRow g 25 1 (.slice (some ⟨g, 0, none⟩) xs.length xs.length) xs.length ((fill xs k).map (Value.int .u64)) ∧ Below g w wr) (fun i _ => xs.length - (intOf i).toNat)
    case atStart => exact ⟨0, Nat.zero_le _, rfl, hown1, hbel⟩
    case round =>
      obtain ⟨k, hk, rfl, ho, hb⟩ := hrel
      clear hown1 hbel
      by_cases hlt : k < xs.length
      · obtain ⟨b, off, ea, hc⟩ := hrow k hlt
        obtain rfl := Option.some.inj ea
        have hc' : wr.cell? ⟨b, off + k, none⟩ = some (.int .u64 (xs.getD k 0)) := (hb.cell (p := ⟨b, off + k, none⟩) (by rw [← hg]; exact World.block_lt_of_cell? w _ hc)).trans hc
        obtain ⟨s1, s2, s3⟩ := fill_step hlt rfl ho
        generalize xs.getD k 0 = z at *
        obtain ⟨old, hold⟩ := Option.isSome_iff_exists.1 s1
        have R : Hid ((wr.setCell ⟨g, k, none⟩ (.int .u64 z)).ownsRow g 25 1 (.slice (some ⟨g, 0, none⟩) xs.length xs.length) xs.length ((fill xs (k + 1)).map (Value.int .u64)) ∧ Below g w (wr.setCell ⟨g, k, none⟩ (.int .u64 z))) := ⟨s3, hb.setCell (Nat.le_refl _) _⟩
        clear s1 s3 ho hb hc hrow
        go_wp2_with fail
        go_roundw
        case rel => exact ⟨k + 1, by omega, by go_num, R.out.1, R.out.2⟩
        case measure => simp [intOf]; omega
      · obtain rfl : k = xs.length := by omega
        have R : Hid (CloneSays xs w (.returned (.slice (some ⟨g, 0, none⟩) xs.length xs.length)) wr) := ⟨_, rfl, by rw [fill_all] at ho; rw [hg]; exact ho, by rw [hg]; exact hb⟩
        clear ho hb
        go_wp2_with fail
        go_ret
        exact R.out

end Go.Proofs.Qxb6621677a
