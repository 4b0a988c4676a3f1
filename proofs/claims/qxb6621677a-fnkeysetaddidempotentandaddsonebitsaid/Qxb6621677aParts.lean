/-
  keySet.add's MEMORY, OUTSIDE THE WALK: the struct behind the pointer ('Box'), the row that its field leads to ('Own'), what each step does to them.
-/
import Derived.Test.Qxb6621677aClone
import Derived.Deep.LoopGhost
import Derived.OneCell
import Derived.RegionTactic
import Derived.ChangeAlike
namespace Go.Proofs.Qxb6621677a
open Go.RowKit

/-- The struct: first, more. -/
def Box (w : World) (sb : Nat) (v u : Value) : Prop := w.heap[sb]? = some (.cells #[v, u] 35 (0, 0))

theorem Box.c0 {w : World} {sb : Nat} {v u : Value} (h : Box w sb v u) : w.cell? ⟨sb, 0, none⟩ = some v := by unfold Box at h; simp [World.cell?, h]
theorem Box.c1 {w : World} {sb : Nat} {v u : Value} (h : Box w sb v u) : w.cell? ⟨sb, 1, none⟩ = some u := by unfold Box at h; simp [World.cell?, h]
theorem Box.f0 {w : World} {sb : Nat} {v u : Value} (h : Box w sb v u) (o : Nat) : w.frozen? ⟨sb, o, none⟩ = false := by unfold Box at h; simp [World.frozen?, h]
theorem Box.lt {w : World} {sb : Nat} {v u : Value} (h : Box w sb v u) : sb < w.heap.size := lt_of_block h
theorem Box.set0 {w : World} {sb : Nat} {v u : Value} (h : Box w sb v u) (x : Value) : Box (w.setCell ⟨sb, 0, none⟩ x) sb x u := by
  unfold Box at h ⊢
  have hlt := lt_of_block h
  have h' : w.heap[sb] = .cells #[v, u] 35 (0, 0) := by simpa [Array.getElem?_eq_getElem hlt] using h
  show (w.heap.modify sb _)[sb]? = _
  rw [Array.getElem?_eq_getElem (by simpa using hlt), Array.getElem_modify_self, h']
  rfl
theorem Box.set1 {w : World} {sb : Nat} {v u : Value} (h : Box w sb v u) (x : Value) : Box (w.setCell ⟨sb, 1, none⟩ x) sb v x := by
  unfold Box at h ⊢
  have hlt := lt_of_block h
  have h' : w.heap[sb] = .cells #[v, u] 35 (0, 0) := by simpa [Array.getElem?_eq_getElem hlt] using h
  show (w.heap.modify sb _)[sb]? = _
  rw [Array.getElem?_eq_getElem (by simpa using hlt), Array.getElem_modify_self, h']
  rfl
theorem Box.kept {w w' : World} {sb : Nat} {v u : Value} (h : Box w sb v u) (hb : w'.heap[sb]? = w.heap[sb]?) : Box w' sb v u := by unfold Box at h ⊢; rw [hb]; exact h
theorem Box.alloc {w : World} {sb : Nat} {v u : Value} (h : Box w sb v u) (o : Obj) : Box (w.alloc o) sb v u := h.kept (Below.heap_alloc _ _ _ h.lt)
theorem Box.other {w : World} {sb : Nat} {v u : Value} (h : Box w sb v u) {a : Addr} (ha : a.block ≠ sb) (x : Value) : Box (w.setCell a x) sb v u := h.kept (Below.heap_setCell _ _ _ _ (fun e => ha e.symm))
theorem Box.grown {w w' : World} {sb : Nat} {v u : Value} {row : Option Nat} (h : Box w sb v u) (hg : w.grownBy w' row) (hr : row ≠ some sb) : Box w' sb v u := h.kept (hg.block sb h.lt (fun e => hr e.symm))

/-- The row is no struct. -/
theorem Box.ne {w : World} {sb base : Nat} {v u x : Value} {xs : List Int} (h : Box w sb v u) (ho : Own base w x xs) : x.ownBlock ≠ some sb := by
  intro e
  rcases ho.2 with ⟨rfl, _⟩ | ⟨g, cap, cur, rfl, _, hg, _⟩
  · cases e
  · obtain rfl : g = sb := by simpa [Value.ownBlock] using e
    unfold Box at h
    rw [h] at hg
    simp at hg

theorem Own.alloc {base : Nat} {w : World} {v : Value} {xs : List Int} (h : Own base w v xs) (o : Obj) : Own base (w.alloc o) v xs := World.ownsRow.alloc h o
theorem Own.shape {base : Nat} {w : World} {v : Value} {xs : List Int} (h : Own base w v xs) : ∃ ao cap, v = .slice ao xs.length cap ∧ (ao = none → xs = []) ∧ Row .u64 w ao xs ∧ (xs ≠ [] → ∃ g, base ≤ g ∧ ao = some ⟨g, 0, none⟩) := by
  have h0 := h
  rcases h.2 with ⟨rfl, hn⟩ | ⟨g, cap, cur, rfl, hg, _⟩
  · obtain rfl : xs = [] := List.eq_nil_of_length_eq_zero hn
    exact ⟨none, 0, rfl, fun _ => rfl, fun i hi => by simp at hi, fun h => absurd rfl h⟩
  · refine ⟨_, cap, rfl, fun h => by simp at h, fun i hi => ⟨g, 0, rfl, ?_⟩, fun _ => ⟨g, hg, rfl⟩⟩
    have := World.ownsRow.cellAt h0 i (by omega)
    simp only [Nat.zero_add]
    rw [this]
    simp [hi]

theorem Own.full {base : Nat} {w : World} {v : Value} {xs : List Int} (h : Own base w v xs) (hx : xs ≠ []) : ∃ g cap, base ≤ g ∧ v = .slice (some ⟨g, 0, none⟩) xs.length cap ∧ ∀ i, i < xs.length → w.cell? ⟨g, i, none⟩ = some (.int .u64 (xs.getD i 0)) := by
  obtain ⟨ao, cap, hv, _, hR, hg⟩ := h.shape
  obtain ⟨g, hb, rfl⟩ := hg hx
  refine ⟨g, cap, hb, hv, fun i hi => ?_⟩
  obtain ⟨b, o, e, hc⟩ := hR i hi
  have e2 := Option.some.inj e
  simp only [Addr.mk.injEq, and_true] at e2
  obtain ⟨rfl, rfl⟩ := e2
  rwa [Nat.zero_add] at hc

/-- One digit stored. -/
theorem Own.store {base g cap : Nat} {w : World} {xs : List Int} (h : Own base w (.slice (some ⟨g, 0, none⟩) xs.length cap) xs) (j : Nat) (z : Int) :
    Own base (w.setCell ⟨g, j, none⟩ (.int .u64 z)) (.slice (some ⟨g, 0, none⟩) xs.length cap) (xs.set j z) := by
  have := (World.ownsRow.stored h j (.int .u64 z)).1
  unfold Own
  rw [List.map_set, List.length_set]
  exact this

theorem cell_new_at (w : World) (x : Value) (t : TypeId) (n : Nat) (hn : n = w.heap.size) : ∀ j u, [x][j]? = some u → (w.alloc (.cells #[x] t)).cell? ((⟨n, 0, none⟩ : Addr).add j) = some u := by
  subst hn
  exact cell_one_new _ _ _

/-- What add's loop keeps: the struct, its row, old memory. -/
def AddInv (base sb : Nat) (f : Int) (ys : List Int) (w wr : World) : Prop := ∃ v, Box wr sb (.int .u64 f) v ∧ Own base wr v ys ∧ Below base w wr

/-- What append leaves, stored back into the struct's second field: the new value written out, the struct's cell in the world behind the append. -/
theorem append_back {base sb m : Nat} {w wx w1 : World} {v v' : Value} {f : Int} {ys : List Int} {z : Int} (hm : ys.length = m) (hB : Box wx sb (.int .u64 f) v) (hO : Own base wx v ys) (hb : Below base w wx) (hsb : base ≤ sb)
    (h1 : w1.ownsRow base 25 1 v' (m + 1) (ys.map (Value.int .u64) ++ [.int .u64 z])) (hg : wx.grownBy w1 v.ownBlock) :
    ∃ g2 c2, v' = .slice (some ⟨g2, 0, none⟩) (m + 1) c2 ∧ w1.cell? ⟨sb, 1, none⟩ = some v ∧ w1.frozen? ⟨sb, 1, none⟩ = false ∧ AddInv base sb f (ys ++ [z]) w (w1.setCell ⟨sb, 1, none⟩ v') := by
  subst hm
  have hne := hB.ne hO
  have hB1 : Box w1 sb (.int .u64 f) v := hB.grown hg hne
  have h1' : Own base w1 v' (ys ++ [z]) := by unfold Own; simpa using h1
  have hne1 := hB1.ne h1'
  have hbel : Below base w (w1.setCell ⟨sb, 1, none⟩ v') := (hb.grown hg (by have := hB.lt; omega) (fun k hk => (hO.lt k hk).1)).setCell hsb _
  rcases h1.2 with ⟨_, h⟩ | ⟨g, cap, cur, rfl, _⟩
  · omega
  · exact ⟨g, cap, rfl, hB1.c1, hB1.f0 1, _, hB1.set1 _, ownsRow_setCell_other h1' hne1 _, hbel⟩

end Go.Proofs.Qxb6621677a
