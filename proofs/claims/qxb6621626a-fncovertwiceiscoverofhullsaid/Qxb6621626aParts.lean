/-
  cover's MEMORY, OUTSIDE THE WALK: the struct behind the pointer ('Box'), the row that its field leads to ('Own'), what each step does to them; two laws on builtins: append(s, make([]T, m)...) on a row of the call's own, clear on the head of one.
-/
import Derived.Test.Qxb6621626aClone
import Derived.Lib.AppendZerosOnto
import Derived.Laws.CopyOwn
import Derived.Deep.RegionLaw
import Derived.Deep.LoopGhost
import Derived.OneCell
namespace Go.Proofs.Qxb6621626a
open Go.RowKit

/-- The struct: digits, low. -/
def Box (w : World) (sb : Nat) (v u : Value) : Prop := w.heap[sb]? = some (.cells #[v, u] 70 (0, 0))

theorem Box.c0 {w : World} {sb : Nat} {v u : Value} (h : Box w sb v u) : w.cell? ⟨sb, 0, none⟩ = some v := by unfold Box at h; simp [World.cell?, h]
theorem Box.c1 {w : World} {sb : Nat} {v u : Value} (h : Box w sb v u) : w.cell? ⟨sb, 1, none⟩ = some u := by unfold Box at h; simp [World.cell?, h]
theorem Box.f0 {w : World} {sb : Nat} {v u : Value} (h : Box w sb v u) (o : Nat) : w.frozen? ⟨sb, o, none⟩ = false := by unfold Box at h; simp [World.frozen?, h]
theorem Box.lt {w : World} {sb : Nat} {v u : Value} (h : Box w sb v u) : sb < w.heap.size := lt_of_block h
theorem Box.set0 {w : World} {sb : Nat} {v u : Value} (h : Box w sb v u) (x : Value) : Box (w.setCell ⟨sb, 0, none⟩ x) sb x u := by
  unfold Box at h ⊢
  have hlt := lt_of_block h
  have h' : w.heap[sb] = .cells #[v, u] 70 (0, 0) := by simpa [Array.getElem?_eq_getElem hlt] using h
  show (w.heap.modify sb _)[sb]? = _
  rw [Array.getElem?_eq_getElem (by simpa using hlt), Array.getElem_modify_self, h']
  rfl
theorem Box.set1 {w : World} {sb : Nat} {v u : Value} (h : Box w sb v u) (x : Value) : Box (w.setCell ⟨sb, 1, none⟩ x) sb v x := by
  unfold Box at h ⊢
  have hlt := lt_of_block h
  have h' : w.heap[sb] = .cells #[v, u] 70 (0, 0) := by simpa [Array.getElem?_eq_getElem hlt] using h
  show (w.heap.modify sb _)[sb]? = _
  rw [Array.getElem?_eq_getElem (by simpa using hlt), Array.getElem_modify_self, h']
  rfl
theorem Box.kept {w w' : World} {sb : Nat} {v u : Value} (h : Box w sb v u) (hb : w'.heap[sb]? = w.heap[sb]?) : Box w' sb v u := by unfold Box at h ⊢; rw [hb]; exact h
theorem Box.alloc {w : World} {sb : Nat} {v u : Value} (h : Box w sb v u) (o : Obj) : Box (w.alloc o) sb v u := h.kept (Below.heap_alloc _ _ _ h.lt)
theorem Box.other {w : World} {sb : Nat} {v u : Value} (h : Box w sb v u) {a : Addr} (ha : a.block ≠ sb) (x : Value) : Box (w.setCell a x) sb v u := h.kept (Below.heap_setCell _ _ _ _ (fun e => ha e.symm))
theorem Box.grown {w w' : World} {sb : Nat} {v u : Value} {row : Option Nat} (h : Box w sb v u) (hg : w.grownBy w' row) (hr : row ≠ some sb) : Box w' sb v u := h.kept (hg.block sb h.lt (fun e => hr e.symm))

/-- The row is no struct. -/
theorem Box.ne {w : World} {sb base : Nat} {v u x : Value} {xs : List Int} (h : Box w sb v u) (ho : Own base w x xs) : x.ownBlock ≠ some sb := by
  intro e
  rcases ho.2 with ⟨rfl, _⟩ | ⟨g, cap, cur, rfl, _, hg, _⟩
  · cases e
  · obtain rfl : g = sb := by simpa [Value.ownBlock] using e
    unfold Box at h
    rw [h] at hg
    simp at hg

theorem Own.alloc {base : Nat} {w : World} {v : Value} {xs : List Int} (h : Own base w v xs) (o : Obj) : Own base (w.alloc o) v xs := World.ownsRow.alloc h o
theorem Own.shape {base : Nat} {w : World} {v : Value} {xs : List Int} (h : Own base w v xs) : ∃ ao cap, v = .slice ao xs.length cap ∧ (ao = none → xs = []) ∧ Row .i64 w ao xs ∧ (xs ≠ [] → ∃ g, base ≤ g ∧ ao = some ⟨g, 0, none⟩) := by
  have h0 := h
  rcases h.2 with ⟨rfl, hn⟩ | ⟨g, cap, cur, rfl, hg, _⟩
  · obtain rfl : xs = [] := List.eq_nil_of_length_eq_zero hn
    exact ⟨none, 0, rfl, fun _ => rfl, fun i hi => by simp at hi, fun h => absurd rfl h⟩
  · refine ⟨_, cap, rfl, fun h => by simp at h, fun i hi => ⟨g, 0, rfl, ?_⟩, fun _ => ⟨g, hg, rfl⟩⟩
    have := World.ownsRow.cellAt h0 i (by omega)
    simp only [Nat.zero_add]
    rw [this]
    simp [hi]

theorem Own.full {base : Nat} {w : World} {v : Value} {xs : List Int} (h : Own base w v xs) (hx : xs ≠ []) : ∃ g cap, base ≤ g ∧ v = .slice (some ⟨g, 0, none⟩) xs.length cap ∧ ∀ i, i < xs.length → w.cell? ⟨g, i, none⟩ = some (.int .i64 (xs.getD i 0)) := by
  obtain ⟨ao, cap, hv, _, hR, hg⟩ := h.shape
  obtain ⟨g, hb, rfl⟩ := hg hx
  refine ⟨g, cap, hb, hv, fun i hi => ?_⟩
  obtain ⟨b, o, e, hc⟩ := hR i hi
  have e2 := Option.some.inj e
  simp only [Addr.mk.injEq, and_true] at e2
  obtain ⟨rfl, rfl⟩ := e2
  rwa [Nat.zero_add] at hc

/-- One digit stored. -/
theorem Own.store {base g cap : Nat} {w : World} {xs : List Int} (h : Own base w (.slice (some ⟨g, 0, none⟩) xs.length cap) xs) (j : Nat) (z : Int) :
    Own base (w.setCell ⟨g, j, none⟩ (.int .i64 z)) (.slice (some ⟨g, 0, none⟩) xs.length cap) (xs.set j z) := by
  have := (World.ownsRow.stored h j (.int .i64 z)).1
  unfold Own
  rw [List.map_set, List.length_set]
  exact this

theorem getLastD_ne (xs : List Int) (h : xs ≠ []) : xs = xs.dropLast ++ [xs.getLastD 0] := by
  rw [List.getLastD_eq_getLast?, List.getLast?_eq_some_getLast h]
  exact (List.dropLast_concat_getLast h).symm

theorem ext_neg (ys : List Int) (m : Nat) (hm : ys.length = m + 1) (h : ys.getD m 0 < 0) : ext ys = ys.set m (ys.getD m 0 + 4294967296) ++ [-1] := by
  have hne : ys ≠ [] := by rintro rfl; simp at hm
  have hl : ys.getD m 0 = ys.getLastD 0 := by rw [← getD_last ys hne]; congr 1; omega
  rw [hl] at h ⊢
  unfold ext
  rw [if_pos h]
  have e : ys.set m (ys.getLastD 0 + 4294967296) = ys.dropLast ++ [ys.getLastD 0 + 4294967296] := by
    conv => lhs; rw [getLastD_ne ys hne]
    rw [List.set_append_right _ _ (by simp; omega)]
    have : m - ys.dropLast.length = 0 := by simp; omega
    rw [this]
    simp [List.getLastD_eq_getLast?]
  rw [e]
  simp

theorem ext_pos (ys : List Int) (m : Nat) (hm : ys.length = m + 1) (h : ¬ ys.getD m 0 < 0) : ext ys = ys ++ [0] := by
  have hne : ys ≠ [] := by rintro rfl; simp at hm
  have hl : ys.getD m 0 = ys.getLastD 0 := by rw [← getD_last ys hne]; congr 1; omega
  rw [hl] at h
  unfold ext
  rw [if_neg h]

/-- What append leaves, stored back into the struct. -/
theorem own_appended {base sb : Nat} {w wx w1 : World} {v v' u : Value} {ys : List Int} {z : Int} (hB : Box wx sb v u) (hO : Own base wx v ys) (hb : Below base w wx) (hbase : base ≤ wx.heap.size) (hsb : base ≤ sb)
    (h1 : w1.ownsRow base 2 1 v' (ys.length + 1) (ys.map (Value.int .i64) ++ [.int .i64 z])) (hg : wx.grownBy w1 v.ownBlock) :
    Box (w1.setCell ⟨sb, 0, none⟩ v') sb v' u ∧ Own base (w1.setCell ⟨sb, 0, none⟩ v') v' (ys ++ [z]) ∧ Below base w (w1.setCell ⟨sb, 0, none⟩ v') := by
  have hne := hB.ne hO
  have hB1 : Box w1 sb v u := hB.grown hg hne
  have h1' : Own base w1 v' (ys ++ [z]) := by unfold Own; simpa using h1
  have hne1 := hB1.ne h1'
  refine ⟨hB1.set0 v', ownsRow_setCell_other h1' hne1 v', ?_⟩
  exact (hb.grown hg hbase (fun k hk => (hO.lt k hk).1)).setCell hsb _

theorem cell_new_at (w : World) (x : Value) (t : TypeId) (n : Nat) (hn : n = w.heap.size) : ∀ j u, [x][j]? = some u → (w.alloc (.cells #[x] t)).cell? ((⟨n, 0, none⟩ : Addr).add j) = some u := by
  subst hn
  exact cell_one_new _ _ _

/-- What cover's loop keeps: the struct, its row, old memory. -/
def CovInv (base sb : Nat) (lw : Int) (ys : List Int) (w wr : World) : Prop := ∃ v, Box wr sb v (.int .i64 lw) ∧ Own base wr v ys ∧ Below base w wr

/-- The same, ready for the walk: the new value written out, the struct's cell in the world behind the append. -/
theorem append_back {base sb m : Nat} {w wx w1 : World} {v v' : Value} {lw : Int} {ys : List Int} {z : Int} (hm : ys.length = m) (hB : Box wx sb v (.int .i64 lw)) (hO : Own base wx v ys) (hb : Below base w wx) (hsb : base ≤ sb)
    (h1 : w1.ownsRow base 2 1 v' (m + 1) (ys.map (Value.int .i64) ++ [.int .i64 z])) (hg : wx.grownBy w1 v.ownBlock) :
    ∃ g2 c2, v' = .slice (some ⟨g2, 0, none⟩) (m + 1) c2 ∧ w1.cell? ⟨sb, 0, none⟩ = some v ∧ w1.frozen? ⟨sb, 0, none⟩ = false ∧ CovInv base sb lw (ys ++ [z]) w (w1.setCell ⟨sb, 0, none⟩ v') := by
  subst hm
  have hne := hB.ne hO
  have hB1 : Box w1 sb v (.int .i64 lw) := hB.grown hg hne
  have S := own_appended hB hO hb (by have := hB.lt; omega) hsb h1 hg
  rcases h1.2 with ⟨_, h⟩ | ⟨g, cap, cur, rfl, _⟩
  · omega
  · exact ⟨g, cap, rfl, hB1.c0, hB1.f0 0, _, S⟩

section
variable {P : Program} (w : World)

theorem zeroCells_one (z : Value) (hz : z.cells = #[z]) (n : Nat) : (Builtin.zeroCells z.cells n).toList = List.replicate n z := by
  rw [hz]
  simp [Builtin.zeroCells]
  apply List.ext_getElem
  · simp
  · intro i h1 h2
    simp [Nat.mod_one]

/-- append(s, make([]T, m)...), s a row of the call's own, m at least one. -/
theorem run_append_zeros_own (base : Nat) (t tn ty e : TypeId) (i : TypeInfo) (z : Value) (bytes : Nat) (kq kn : IntKind) (ht : P.underlying t = some (.slice e)) (htn : P.underlying tn = some (.int kn)) (hi : P.info? e = some i) (hz : i.zero = some z)
    (hsize : i.size = 1) (hby : i.bytes = bytes) (hzc : z.cells = #[z]) (hz1 : z.oneCell' = true)
    (g n cap : Nat) (xs : List Value) (hown : w.ownsRow base e 1 (.slice (some ⟨g, 0, none⟩) n cap) n xs) (m : Nat) (hm : 0 < m)
    (h63 : n + m ≤ maxLen) (hbytes : (n + m) * bytes ≤ 140737488355328) (hbase : base ≤ w.heap.size) :
    ∃ v' w', (Builtin.append_ #[t, tn] ty #[.slice (some ⟨g, 0, none⟩) n cap, .int kq m]).run P w = .ok v' w' ∧ w'.ownsRow base e 1 v' (n + m) (xs ++ List.replicate m z) ∧ w.grownBy w' (some g) := by
  subst hby
  have h63i : n + m ≤ 9223372036854775807 := by simp only [maxLen] at h63; omega
  have hmb : m * i.bytes ≤ 140737488355328 := Nat.le_trans (Nat.mul_le_mul_right _ (by omega)) hbytes
  have hlen : (xs ++ List.replicate m z).length = (n + m) * 1 := by rw [List.length_append, hown.1, List.length_replicate]; omega
  have hxs : xs.length = n := by have := hown.1; omega
  rcases hown.2 with ⟨h, _⟩ | ⟨g', cap', cur, h, hbg, hg, hnc, hcm, hcs, htake⟩
  · simp at h
  simp only [Value.slice.injEq, Option.some.injEq, Addr.mk.injEq, and_true, true_and] at h
  obtain ⟨rfl, rfl⟩ := h
  by_cases hroom : n + m ≤ cap
  · have hst := run_storeCells_at P g n e (List.replicate m z) 0 cur w hg (by simp; omega) (by intro v hv; rw [List.eq_of_mem_replicate hv]; exact hz1)
    simp only [Nat.add_zero, List.length_replicate] at hst
    have hw : IntKind.i64.wrap (m : Int) = m := by rw [IntKind.wrap_i64]; omega
    have hneg : ¬ ((m : Int) < 0) := by omega
    have h48i : ¬ (281474976710656 < (m : Int) * (i.bytes : Int)) := by rw [← Int.natCast_mul]; omega
    have hns : ¬ (m = 0) := by omega
    refine ⟨.slice (some ⟨g, 0, none⟩) (n + m) cap, w.setRow g (cur.toList.take n ++ List.replicate m z ++ cur.toList.drop (n + m)).toArray, ?_, ⟨hlen, .inr ⟨g, cap, _, rfl, hbg, setRow_heap w g cur _ e _ hg, hroom, hcm, ?_, ?_⟩⟩, ⟨rfl, rfl, rfl, by simp, fun k _ hk => setRow_other w g k _ (fun e => hk (by simp [e]))⟩⟩
    · simp [Builtin.append_, run_underlying ht, run_underlying htn, sizeOf, typeInfo, zeroValue, hi, hz, hsize, asInt, asIntOf, hw, hneg, h48i, hns, hroom, Addr.add_lit, zeroCells_one z hzc, hst]
    · simp; omega
    · have e1 : cur.toList.take n = xs := by rw [← htake]; simp
      rw [e1]
      have : (xs ++ List.replicate m z ++ cur.toList.drop (n + m)).take ((xs ++ List.replicate m z).length) = xs ++ List.replicate m z := List.take_left
      rw [hlen] at this
      simpa using this
  · have holds : ∀ j u, xs[j]? = some u → w.drew.cell? ((⟨g, 0, none⟩ : Addr).add j) = some u := fun j u h => by simpa using hown.cells (g := g) rfl j u h
    have hold := run_firstCells_some (P := P) w.drew i.size n ⟨g, 0, none⟩ n cap xs (by rw [hsize]; exact hown.1) holds
    have hr := Lib.run_append_grow_zeros (P := P) w t tn ty e i z kq kn ht htn hi hz (some ⟨g, 0, none⟩) n cap xs hold m hm (by omega) (by omega) (by omega) (by omega) (growslice_fits (by omega) hbytes)
    have hge := grownCap_ge w (n + m) cap e
    have hcm' : grownCap w (n + m) cap e ≤ maxLen := grownCap_le_maxLen w (n + m) cap e h63
    refine ⟨_, _, hr, ⟨hlen, .inr ⟨w.heap.size, _, _, rfl, hbase, heap_alloc_new w.drew _, hge, hcm', ?_, ?_⟩⟩, ⟨rfl, rfl, rfl, by simp, fun k hk _ => Below.heap_alloc w.drew _ k hk⟩⟩
    · simp only [Array.size_append, List.size_toArray, size_zeroCells, hzc, hxs]
      simp
      omega
    · simp only [Array.toList_append, zeroCells_one z hzc]
      have : (xs ++ List.replicate m z ++ List.replicate (grownCap w (n + m) cap e - (n + m)) z).take ((xs ++ List.replicate m z).length) = xs ++ List.replicate m z := List.take_left
      rw [hlen] at this
      simpa using this

theorem wpList_append_zeros_own {ops : Array Oper} {rest : List Oper} {o : Oper} {a : Act} {Q : Exit → Act → World → Prop} (hgd : o.guard = none) (s x : Operand) (t tn : TypeId)
    (ho : o.op = .call { callee := .builtin .append, args := #[s, x], argTypes := #[t, tn] })
    (base : Nat) (e : TypeId) (i : TypeInfo) (z : Value) (bytes : Nat) (kq kn : IntKind) (ht : P.underlying t = some (.slice e)) (htn : P.underlying tn = some (.int kn)) (hi : P.info? e = some i) (hz : i.zero = some z)
    (hsize : i.size = 1) (hby : i.bytes = bytes) (hzc : z.cells = #[z]) (hz1 : z.oneCell' = true)
    (g n cap : Nat) (xs : List Value) (hs : a.eval s = .slice (some ⟨g, 0, none⟩) n cap) (hown : w.ownsRow base e 1 (.slice (some ⟨g, 0, none⟩) n cap) n xs) (m : Nat) (hx : a.eval x = .int kq m) (hm : 0 < m)
    (h63 : n + m ≤ maxLen) (hbytes : (n + m) * bytes ≤ 140737488355328) (hbase : base ≤ w.heap.size)
    (h : ∀ v' w', w'.ownsRow base e 1 v' (n + m) (xs ++ List.replicate m z) → w.grownBy w' (some g) → wpList P ops Q rest (a.put o.dst v') w') : wpList P ops Q (o :: rest) a w := by
  obtain ⟨v', w', hr, h2, h3⟩ := run_append_zeros_own (P := P) w base t tn o.type e i z bytes kq kn ht htn hi hz hsize hby hzc hz1 g n cap xs hown m hm h63 hbytes hbase
  exact Lib.wpList_append_run w hgd s x t tn ho _ _ hs hx v' w' hr (h v' w' h2 h3)

/-- clear(s[:n]) at the head of a row that is known whole. -/
theorem run_clear_row (t ty e : TypeId) (i : TypeInfo) (z : Value) (ht : P.underlying t = some (.slice e)) (hi : P.info? e = some i) (hz : i.zero = some z) (hzc : z.cells = #[z]) (hz1 : z.oneCell' = true)
    (g n c : Nat) (hn : 0 < n) (cur : Array Value) (hg : w.heap[g]? = some (.cells cur e (0, 0))) (hfit : n ≤ cur.size) :
    (Builtin.clear_ #[t] ty #[.slice (some ⟨g, 0, none⟩) n c]).run P w = .ok (.tuple #[]) (w.setRow g (List.replicate n z ++ cur.toList.drop n).toArray) := by
  have hst := run_storeCells_at P g 0 e (List.replicate n z) 0 cur w hg (by simp; omega) (by intro v hv; rw [List.eq_of_mem_replicate hv]; exact hz1)
  simp only [Nat.add_zero, Nat.zero_add, List.take_zero, List.nil_append, List.length_replicate] at hst
  obtain ⟨m, rfl⟩ : ∃ m, n = m + 1 := ⟨n - 1, by omega⟩
  simp [Builtin.clear_, run_underlying ht, zeroValue, typeInfo, hi, hz, zeroCells_one z hzc, hst]

theorem wpList_clear_row {ops : Array Oper} {rest : List Oper} {o : Oper} {a : Act} {Q : Exit → Act → World → Prop} (s : Operand) (t : TypeId)
    (ho : o.op = .call { callee := .builtin .clear, args := #[s], argTypes := #[t] }) (hgd : o.guard = none)
    (e : TypeId) (i : TypeInfo) (z : Value) (ht : P.underlying t = some (.slice e)) (hi : P.info? e = some i) (hz : i.zero = some z) (hzc : z.cells = #[z]) (hz1 : z.oneCell' = true)
    (g n c : Nat) (hs : a.eval s = .slice (some ⟨g, 0, none⟩) n c) (hn : 0 < n) (cur : Array Value) (hg : w.heap[g]? = some (.cells cur e (0, 0))) (hfit : n ≤ cur.size)
    (h : wpList P ops Q rest (a.put o.dst (.tuple #[])) (w.setRow g (List.replicate n z ++ cur.toList.drop n).toArray)) : wpList P ops Q (o :: rest) a w := by
  refine wpList_plain hgd fun K hK => ?_
  have hrun := run_clear_row (P := P) w t o.type e i z ht hi hz hzc hz1 g n c hn cur hg hfit
  unfold Oper.wp
  simp [execOp, ho, resolve, invoke, builtin, hs, hrun, Result.andThen]
  exact hK _ _ h

end
end Go.Proofs.Qxb6621626a
