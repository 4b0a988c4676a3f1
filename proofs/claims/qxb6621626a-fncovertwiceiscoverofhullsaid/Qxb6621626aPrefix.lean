/-
  cover's PREFIX, OUTSIDE THE WALK: append of zeros, copy up, clear below: what each leaves, and what they come to.
-/
import Derived.Test.Qxb6621626aParts
namespace Go.Proofs.Qxb6621626a
open Go.RowKit

/-- One row has been laid anew; nothing else has turned. -/
def RowPut (w w' : World) (g : Nat) (t : TypeId) (new : List Value) : Prop :=
  w'.heap[g]? = some (.cells new.toArray t (0, 0)) ∧ (∀ k, k ≠ g → w'.heap[k]? = w.heap[k]?) ∧ w'.os = w.os ∧ w'.tape = w.tape ∧ w'.output = w.output ∧ w'.heap.size = w.heap.size

theorem rowPut_setRow {w : World} {g : Nat} {t : TypeId} {cur : Array Value} (hg : w.heap[g]? = some (.cells cur t (0, 0))) (new : List Value) : RowPut w (w.setRow g new.toArray) g t new :=
  ⟨setRow_heap w g cur _ t _ hg, fun k hk => setRow_other w g k _ hk, rfl, rfl, rfl, by simp⟩

theorem RowPut.below {B g : Nat} {w0 w w' : World} {t : TypeId} {new : List Value} (h : RowPut w w' g t new) (hb : Below B w0 w) (hg : B ≤ g) : Below B w0 w' :=
  hb.trans ⟨h.2.2.1, h.2.2.2.1, h.2.2.2.2.1, Nat.le_of_eq h.2.2.2.2.2.symm, fun k hk => h.2.1 k (by omega)⟩
theorem RowPut.box {g sb : Nat} {w w' : World} {t : TypeId} {new : List Value} {v u : Value} (h : RowPut w w' g t new) (hB : Box w sb v u) (hne : sb ≠ g) : Box w' sb v u := hB.kept (h.2.1 sb hne)

/-- copy within one row, as one step of a region that draws: the cells are read first. -/
theorem step_copy_row {P : Program} {ops : Array Oper} {o : Oper} {a : Act} {w : World} {K : Act → World → Prop} {Q : Exit → Act → World → Prop} {E : Prop} (hgd : o.guard = none) (d s : Operand) (dT sT : TypeId)
    (ho : o.op = .call { callee := .builtin .copy, args := #[d, s], argTypes := #[dT, sT] }) (elem : TypeId) (hu : P.underlying dT = some (.slice elem)) (hsz : (P.info? elem).map (·.size) = some 1)
    (g off dLen dCap : Nat) (ad : Addr) (sLen sCap : Nat) (hd : a.eval d = .slice (some ⟨g, off, none⟩) dLen dCap) (hs : a.eval s = .slice (some ad) sLen sCap)
    (cur : Array Value) (t : TypeId) (hg : w.heap[g]? = some (.cells cur t (0, 0))) (cs : List Value) (hn : cs.length = Nat.min sLen dLen)
    (hsrc : ∀ j v, cs[j]? = some v → w.cell? (ad.add j) = some v) (hfit : off + cs.length ≤ cur.size) (h1 : ∀ v ∈ cs, v.oneCell' = true)
    (h : ∀ w', RowPut w w' g t (cur.toList.take off ++ (cs ++ cur.toList.drop (off + cs.length))) → K (a.put o.dst (goInt cs.length)) w') :
    if Region.wanted o (yielded ops a.tmps) = true then Oper.wp P o a w K Q else E := by
  have hw : Region.wanted o (yielded ops a.tmps) = true := by simp [Region.wanted, hgd]
  rw [if_pos hw]
  have hrun := run_copy_row (P := P) w dT sT o.type elem g off dLen dCap ad sLen sCap cur t cs hu hsz hg hn hsrc hfit h1
  unfold Oper.wp
  simp [execOp, ho, resolve, invoke, builtin, hd, hs, hrun, Result.andThen]
  exact h _ (rowPut_setRow hg _)

theorem wpList_clear_put {P : Program} (w : World) {ops : Array Oper} {rest : List Oper} {o : Oper} {a : Act} {Q : Exit → Act → World → Prop} (s : Operand) (t : TypeId)
    (ho : o.op = .call { callee := .builtin .clear, args := #[s], argTypes := #[t] }) (hgd : o.guard = none)
    (e : TypeId) (i : TypeInfo) (z : Value) (ht : P.underlying t = some (.slice e)) (hi : P.info? e = some i) (hz : i.zero = some z) (hzc : z.cells = #[z]) (hz1 : z.oneCell' = true)
    (g n c : Nat) (hs : a.eval s = .slice (some ⟨g, 0, none⟩) n c) (hn : 0 < n) (cur : Array Value) (hg : w.heap[g]? = some (.cells cur e (0, 0))) (hfit : n ≤ cur.size)
    (h : ∀ w', RowPut w w' g e (List.replicate n z ++ cur.toList.drop n) → wpList P ops Q rest (a.put o.dst (.tuple #[])) w') : wpList P ops Q (o :: rest) a w :=
  wpList_clear_row w s t ho hgd e i z ht hi hz hzc hz1 g n c hs hn cur hg hfit (h _ (rowPut_setRow hg _))

/-- The numbers up, zeros below. -/
theorem prefix_own {base sb g p cap : Nat} {w w2 w4 w5 : World} {xs : List Int} {lw : Int} {cur : List Value} (hB : Box w2 sb (.slice (some ⟨g, 0, none⟩) (xs.length + p) cap) (.int .i64 lw)) (hb : Below base w w2) (hbg : base ≤ g) (hne : sb ≠ g)
    (hle : xs.length + p ≤ cap) (hcm : cap ≤ maxLen) (hcs : cur.length = cap)
    (h4 : RowPut w2 w4 g 2 (cur.take p ++ (xs.map (Value.int .i64) ++ cur.drop (p + (xs.map (Value.int .i64)).length))))
    (h5 : RowPut w4 w5 g 2 (List.replicate p (Value.int .i64 0) ++ (cur.take p ++ (xs.map (Value.int .i64) ++ cur.drop (p + (xs.map (Value.int .i64)).length))).drop p)) :
    Box w5 sb (.slice (some ⟨g, 0, none⟩) (xs.length + p) cap) (.int .i64 lw) ∧ Own base w5 (.slice (some ⟨g, 0, none⟩) (xs.length + p) cap) (List.replicate p 0 ++ xs) ∧ Below base w w5 := by
  have e1 : (cur.take p ++ (xs.map (Value.int .i64) ++ cur.drop (p + (xs.map (Value.int .i64)).length))).drop p = xs.map (Value.int .i64) ++ cur.drop (p + (xs.map (Value.int .i64)).length) := by
    have hl : (cur.take p).length = p := by simp; omega
    rw [List.drop_append, hl, Nat.sub_self, List.drop_of_length_le (by omega)]
    rfl
  rw [e1] at h5
  refine ⟨h5.box (h4.box hB hne) hne, ⟨?_, .inr ⟨g, cap, _, by simp [Nat.add_comm], hbg, h5.1, by simp; omega, hcm, ?_, ?_⟩⟩, h5.below (h4.below hb hbg) hbg⟩
  · simp
  · simp; omega
  · have e2 : List.replicate p (Value.int .i64 0) ++ (xs.map (Value.int .i64) ++ cur.drop (p + (xs.map (Value.int .i64)).length)) = (List.replicate p 0 ++ xs).map (Value.int .i64) ++ cur.drop (p + (xs.map (Value.int .i64)).length) := by simp
    rw [e2]
    have e3 : (List.replicate p (0 : Int) ++ xs).length * 1 = ((List.replicate p 0 ++ xs).map (Value.int .i64)).length := by simp
    rw [e3]
    exact List.take_left

end Go.Proofs.Qxb6621626a
