/-
  THE WALKS of the two laws, out of the contracts of Qxb6621616aFmtWalks.
-/
import Derived.Test.Qxb6621616aFmtWalks
namespace Go.Proofs.Qxb6621616aFmt
open Go.RowKit Go.Extern.Stop Go.Stop Go.Extern

theorem zzOptional_nil (s : ByteArray) (d m : Int) (w : World) :
    Calls Tryf.prog 6 #[.string s, .pointer none, .int .i64 d, .int .i64 m] w fun e w' => e = .returned (.tuple #[.int .i64 d, .nilIface]) ∧ w' = w := by
  go_enter Tryf.func6, Tryf.ntmps6
  go_wp2_with fail
  refine (optional_nil _ _ _ _).mono ?_
  rintro e w' ⟨rfl, rfl⟩
  go_wp2_with fail
  go_ret2
  exact ⟨rfl, rfl⟩

set_option maxHeartbeats 400000 in
theorem zzOptional_low (F : Interp) (s : ByteArray) (b : Nat) (v d m : Int) (w : World) (hF : F.answers w.tape) (hc : w.cell? ⟨b, 0, none⟩ = some (.int .i64 v)) (hv : v < 1) :
    Calls Tryf.prog 6 #[.string s, .pointer (some ⟨b, 0, none⟩), .int .i64 d, .int .i64 m] w fun e w' => (∃ a, e = .returned (.tuple #[.int .i64 0, .iface 37 (.pointer (some a))])) ∧ Below w.heap.size w w' := by
  go_enter Tryf.func6, Tryf.ntmps6
  go_wp2_with fail
  refine (optional_low F s _ v d m _ (by exact hF) (by go_simp) hv).mono ?_
  rintro e w' ⟨⟨a, rfl⟩, hb⟩
  go_wp2_with fail
  go_ret2
  exact ⟨⟨_, rfl⟩, ((Below.refl _ _).alloc (Nat.le_refl _) _).trans (hb.mono (by simp))⟩

set_option maxHeartbeats 400000 in
theorem zzOptional_ok (s : ByteArray) (b : Nat) (v d m : Int) (w : World) (hc : w.cell? ⟨b, 0, none⟩ = some (.int .i64 v)) (hv : 1 ≤ v) (hm : v ≤ m) :
    Calls Tryf.prog 6 #[.string s, .pointer (some ⟨b, 0, none⟩), .int .i64 d, .int .i64 m] w fun e w' => e = .returned (.tuple #[.int .i64 v, .nilIface]) ∧ Below w.heap.size w w' := by
  go_enter Tryf.func6, Tryf.ntmps6
  go_wp2_with fail
  refine (optional_ok s _ v d m _ (by go_simp) hv hm).mono ?_
  rintro e w' ⟨rfl, hb⟩
  go_wp2_with fail
  go_ret2
  exact ⟨rfl, ((Below.refl _ _).alloc (Nat.le_refl _) _).trans (hb.mono (by simp))⟩

set_option maxHeartbeats 400000 in
theorem zzOptional_high (F : Interp) (s : ByteArray) (b : Nat) (v d m : Int) (w : World) (hF : F.answers w.tape) (hc : w.cell? ⟨b, 0, none⟩ = some (.int .i64 v)) (hv : 1 ≤ v) (hm : m < v) :
    Calls Tryf.prog 6 #[.string s, .pointer (some ⟨b, 0, none⟩), .int .i64 d, .int .i64 m] w fun e w' => (∃ a, e = .returned (.tuple #[.int .i64 v, .iface 37 (.pointer (some a))])) ∧ Below w.heap.size w w' := by
  go_enter Tryf.func6, Tryf.ntmps6
  go_wp2_with fail
  refine (optional_high F s _ v d m _ (by exact hF) (by simp) (by go_simp) hv hm).mono ?_
  rintro e w' ⟨⟨a, rfl⟩, hb⟩
  go_wp2_with fail
  go_ret2
  exact ⟨⟨_, rfl⟩, ((Below.refl _ _).alloc (Nat.le_refl _) _).trans (hb.mono (by simp))⟩

theorem zzInRange_low (F : Interp) (s : ByteArray) (v m : Int) (w : World) (hF : F.answers w.tape) (hv : v < 1) :
    Calls Tryf.prog 7 #[.string s, .int .i64 v, .int .i64 m] w fun e w' => (∃ a, e = .returned (.iface 37 (.pointer (some a)))) ∧ Below w.heap.size w w' := by
  go_enter Tryf.func7, Tryf.ntmps7
  go_wp2_with fail
  refine (inRange_low F s v m _ (by exact hF) hv).mono ?_
  rintro e w' ⟨⟨a, rfl⟩, hb⟩
  go_wp2_with fail
  go_ret
  exact ⟨⟨_, rfl⟩, hb⟩

theorem zzInRange_high (F : Interp) (s : ByteArray) (v m : Int) (w : World) (hF : F.answers w.tape) (hv : 1 ≤ v) (hm : m < v) :
    Calls Tryf.prog 7 #[.string s, .int .i64 v, .int .i64 m] w fun e w' => (∃ a, e = .returned (.iface 37 (.pointer (some a)))) ∧ Below w.heap.size w w' := by
  go_enter Tryf.func7, Tryf.ntmps7
  go_wp2_with fail
  refine (inRange_high F s v m _ (by exact hF) hv hm).mono ?_
  rintro e w' ⟨⟨a, rfl⟩, hb⟩
  go_wp2_with fail
  go_ret
  exact ⟨⟨_, rfl⟩, hb⟩

theorem zzInRange_ok (s : ByteArray) (v m : Int) (w : World) (hv : 1 ≤ v) (hm : v ≤ m) :
    Calls Tryf.prog 7 #[.string s, .int .i64 v, .int .i64 m] w fun e w' => e = .returned .nilIface ∧ w' = w := by
  go_enter Tryf.func7, Tryf.ntmps7
  go_wp2_with fail
  refine (inRange_ok s v m _ hv hm).mono ?_
  rintro e w' ⟨rfl, rfl⟩
  go_wp2_with fail
  go_ret
  exact ⟨rfl, rfl⟩

theorem bytes5 (s : ByteArray) (a b c : Int) (w : World) (hs : s.size ≤ maxLen) :
    Calls Tryf.prog 5 #[.string s, .int .i64 a, .int .i64 b, .int .i64 c] w fun e w' => (∃ g : Bool, e = .returned (.bool g)) ∧ w = w' := by
  unfold maxLen at hs
  go_enter Tryf.func5, Tryf.ntmps5
  go_wp2
  all_goals (go_ret; exact ⟨⟨_, rfl⟩, rfl⟩)

theorem bytes8 (s : ByteArray) (a b : Int) (w : World) (hs : s.size ≤ maxLen) :
    Calls Tryf.prog 8 #[.string s, .int .i64 a, .int .i64 b] w fun e w' => (∃ g : Bool, e = .returned (.bool g)) ∧ w = w' := by
  unfold maxLen at hs
  go_enter Tryf.func8, Tryf.ntmps8
  go_wp2
  all_goals (go_ret; exact ⟨⟨_, rfl⟩, rfl⟩)

set_option maxHeartbeats 1000000 in
theorem law4 (F : Interp) (s : ByteArray) (d m : Int) (w : World) (hF : F.answers w.tape) (hs : s.size ≤ maxLen) :
    Calls Tryf.prog 4 #[.string s, .int .i64 d, .int .i64 m] w fun e w' => e = .returned (.bool true) ∧ Below w.heap.size w w' := by
  have hm0 := hs
  unfold maxLen at hm0
  by_cases hz : s.size ≤ 1048576
  · by_cases h1 : d < 1
    · go_enter Tryf.func4, Tryf.ntmps4
      go_wp2_with fail
      refine (bytes8 s d m _ hs).mono ?_
      rintro e w' ⟨⟨g, rfl⟩, rfl⟩
      cases g
      · go_wp2_with fail
        go_ret
        exact ⟨rfl, Below.refl _ _⟩
      · go_wp2_with fail
        refine (zzOptional_nil s d m _).mono ?_
        rintro e w' ⟨rfl, rfl⟩
        go_wp2_with fail
        refine (zzOptional_low F s _ d d m _ (by exact hF) (by go_simp) h1).mono ?_
        rintro e w' ⟨⟨a, rfl⟩, hb⟩
        go_wp2_with fail
        go_ret
        exact ⟨rfl, ((Below.refl _ _).alloc (Nat.le_refl _) _).trans (hb.mono (by simp))⟩
    · by_cases h2 : d ≤ m
      · go_enter Tryf.func4, Tryf.ntmps4
        go_wp2_with fail
        refine (bytes8 s d m _ hs).mono ?_
        rintro e w' ⟨⟨g, rfl⟩, rfl⟩
        cases g
        · go_wp2_with fail
          go_ret
          exact ⟨rfl, Below.refl _ _⟩
        · go_wp2_with fail
          refine (zzOptional_nil s d m _).mono ?_
          rintro e w' ⟨rfl, rfl⟩
          go_wp2_with fail
          refine (zzOptional_ok s _ d d m _ (by go_simp) (by omega) h2).mono ?_
          rintro e w' ⟨rfl, hb⟩
          go_wp2_with fail
          go_ret
          exact ⟨rfl, ((Below.refl _ _).alloc (Nat.le_refl _) _).trans (hb.mono (by simp))⟩
      · go_enter Tryf.func4, Tryf.ntmps4
        go_wp2_with fail
        refine (bytes8 s d m _ hs).mono ?_
        rintro e w' ⟨⟨g, rfl⟩, rfl⟩
        cases g
        · go_wp2_with fail
          go_ret
          exact ⟨rfl, Below.refl _ _⟩
        · go_wp2_with fail
          refine (zzOptional_nil s d m _).mono ?_
          rintro e w' ⟨rfl, rfl⟩
          go_wp2_with fail
          refine (zzOptional_high F s _ d d m _ (by exact hF) (by go_simp) (by omega) (by omega)).mono ?_
          rintro e w' ⟨⟨a, rfl⟩, hb⟩
          go_wp2_with fail
          go_ret
          exact ⟨rfl, ((Below.refl _ _).alloc (Nat.le_refl _) _).trans (hb.mono (by simp))⟩
  · go_enter Tryf.func4, Tryf.ntmps4
    go_wp2_with fail
    refine (bytes8 s d m _ hs).mono ?_
    rintro e w' ⟨⟨g, rfl⟩, rfl⟩
    cases g
    all_goals
      go_wp2_with fail
      go_ret
      exact ⟨rfl, Below.refl _ _⟩

set_option maxHeartbeats 1000000 in
theorem law3 (F : Interp) (s : ByteArray) (v d m : Int) (w : World) (hF : F.answers w.tape) (hs : s.size ≤ maxLen) :
    Calls Tryf.prog 3 #[.string s, .int .i64 v, .int .i64 d, .int .i64 m] w fun e w' => e = .returned (.bool true) ∧ Below w.heap.size w w' := by
  have hm0 := hs
  unfold maxLen at hm0
  by_cases hz : s.size ≤ 1048576
  · by_cases h1 : v < 1
    · go_enter Tryf.func3, Tryf.ntmps3
      go_wp2_with fail
      refine (bytes5 s v d m _ hs).mono ?_
      rintro e w' ⟨⟨g, rfl⟩, rfl⟩
      cases g
      · go_wp2_with fail
        go_ret
        exact ⟨rfl, Below.refl _ _⟩
      · go_wp2_with fail
        refine (zzOptional_low F s _ v d m _ (by exact hF) (by go_simp) h1).mono ?_
        rintro e w1 ⟨⟨a, rfl⟩, hb⟩
        have hb' := ((Below.refl w.heap.size w).alloc (Nat.le_refl _) _).trans (hb.mono (by simp))
        clear hb
        go_wp2_with fail
        refine (zzInRange_low F s v m _ (by rw [hb'.tape]; exact hF) h1).mono ?_
        rintro e w2 ⟨⟨a2, rfl⟩, hb2⟩
        have hb3 := hb'.trans (hb2.mono hb'.size)
        clear hb' hb2
        go_wp2_with fail
        go_quiet (fail)
        go_wp2_with fail
        go_ret
        exact ⟨rfl, below_drewN hb3 _⟩
    · by_cases h2 : v ≤ m
      · go_enter Tryf.func3, Tryf.ntmps3
        go_wp2_with fail
        refine (bytes5 s v d m _ hs).mono ?_
        rintro e w' ⟨⟨g, rfl⟩, rfl⟩
        cases g
        · go_wp2_with fail
          go_ret
          exact ⟨rfl, Below.refl _ _⟩
        · go_wp2_with fail
          refine (zzOptional_ok s _ v d m _ (by go_simp) (by omega) h2).mono ?_
          rintro e w1 ⟨rfl, hb⟩
          have hb' := ((Below.refl w.heap.size w).alloc (Nat.le_refl _) _).trans (hb.mono (by simp))
          clear hb
          go_wp2_with fail
          refine (zzInRange_ok s v m _ (by omega) h2).mono ?_
          rintro e w2 ⟨rfl, rfl⟩
          go_wp2_with fail
          go_quiet (fail)
          go_wp2_with fail
          go_ret
          exact ⟨rfl, below_drewN hb' _⟩
      · go_enter Tryf.func3, Tryf.ntmps3
        go_wp2_with fail
        refine (bytes5 s v d m _ hs).mono ?_
        rintro e w' ⟨⟨g, rfl⟩, rfl⟩
        cases g
        · go_wp2_with fail
          go_ret
          exact ⟨rfl, Below.refl _ _⟩
        · go_wp2_with fail
          refine (zzOptional_high F s _ v d m _ (by exact hF) (by go_simp) (by omega) (by omega)).mono ?_
          rintro e w1 ⟨⟨a, rfl⟩, hb⟩
          have hb' := ((Below.refl w.heap.size w).alloc (Nat.le_refl _) _).trans (hb.mono (by simp))
          clear hb
          go_wp2_with fail
          refine (zzInRange_high F s v m _ (by rw [hb'.tape]; exact hF) (by omega) (by omega)).mono ?_
          rintro e w2 ⟨⟨a2, rfl⟩, hb2⟩
          have hb3 := hb'.trans (hb2.mono hb'.size)
          clear hb' hb2
          go_wp2_with fail
          go_quiet (fail)
          go_wp2_with fail
          go_ret
          exact ⟨rfl, below_drewN hb3 _⟩
  · go_enter Tryf.func3, Tryf.ntmps3
    go_wp2_with fail
    refine (bytes5 s v d m _ hs).mono ?_
    rintro e w' ⟨⟨g, rfl⟩, rfl⟩
    cases g
    all_goals
      go_wp2_with fail
      go_ret
      exact ⟨rfl, Below.refl _ _⟩

end Go.Proofs.Qxb6621616aFmt
