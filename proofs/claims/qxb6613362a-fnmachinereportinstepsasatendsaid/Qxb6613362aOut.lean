/-
  THE WALK of FnMachineReportInStepsAsAtEnd where it returns at once.
-/
import Derived.Test.Qxb6613362aSteps
import Derived.Deep.RegionHeld3
namespace Go.Proofs.Qxb6613362a
open Go.RowKit
set_option linter.unusedVariables false

theorem bytes20_any (w : World) (q : Int) (a b c d : Option Addr) (n c1 c2 c3 c4 : Nat) (hn : (n : Int) ≤ 32768) :
    Calls Try.prog 20 #[.int .i64 q, .slice a n c1, .slice b n c2, .slice c n c3, .slice d n c4] w fun e w' => e = .returned (.bool true) ∧ w = w' := by
  go_enter Try.func20, Try.ntmps20
  go_wp2
  go_ret
  exact ⟨rfl, rfl⟩

set_option maxHeartbeats 1000000 in
theorem bytes20_some (w : World) (q : Int) (a b c d : Option Addr) (n1 n2 n3 n4 c1 c2 c3 c4 : Nat) :
    Calls Try.prog 20 #[.int .i64 q, .slice a n1 c1, .slice b n2 c2, .slice c n3 c3, .slice d n4 c4] w fun e w' => ∃ X, e = .returned (.bool X) ∧ w = w' := by
  go_enter Try.func20, Try.ntmps20
  go_wp2
  all_goals
    go_ret
    exact ⟨_, rfl, rfl⟩

set_option maxRecDepth 100000 in
set_option maxHeartbeats 4000000 in
theorem main_out (w : World) (q : Int) (a b c d : Option Addr) (n1 n2 n3 n4 c1 c2 c3 c4 : Nat) (h : ¬ (0 ≤ q ∧ q ≤ 65536 ∧ 1 ≤ n2 ∧ n2 ≤ 32768 ∧ n1 = n2 ∧ n3 = n2 ∧ n4 = n2)) :
    Calls Try.prog 9 #[.int .i64 q, .slice a n1 c1, .slice b n2 c2, .slice c n3 c3, .slice d n4 c4] w fun e w' => e = .returned (.bool true) ∧ Below w.heap.size w w' := by
  by_cases g1 : (65536 : Int) < (n1 : Int)
  · go_enter Try.func9, Try.ntmps9
    go_wp2_with (go_at_call 20; refine (bytes20_some _ q a b c d n1 n2 n3 n4 c1 c2 c3 c4).mono ?_; rintro e w' ⟨X, rfl, hw⟩; subst hw)
    all_goals
      go_ret
      exact ⟨rfl, Below.refl _ _⟩
  by_cases g2 : (65536 : Int) < (n2 : Int)
  · go_enter Try.func9, Try.ntmps9
    go_wp2_with (go_at_call 20; refine (bytes20_some _ q a b c d n1 n2 n3 n4 c1 c2 c3 c4).mono ?_; rintro e w' ⟨X, rfl, hw⟩; subst hw)
    all_goals
      go_ret
      exact ⟨rfl, Below.refl _ _⟩
  by_cases g3 : (32768 : Int) < (n3 : Int)
  · go_enter Try.func9, Try.ntmps9
    go_wp2_with (go_at_call 20; refine (bytes20_some _ q a b c d n1 n2 n3 n4 c1 c2 c3 c4).mono ?_; rintro e w' ⟨X, rfl, hw⟩; subst hw)
    all_goals
      go_ret
      exact ⟨rfl, Below.refl _ _⟩
  by_cases g4 : (32768 : Int) < (n4 : Int)
  · go_enter Try.func9, Try.ntmps9
    go_wp2_with (go_at_call 20; refine (bytes20_some _ q a b c d n1 n2 n3 n4 c1 c2 c3 c4).mono ?_; rintro e w' ⟨X, rfl, hw⟩; subst hw)
    all_goals
      go_ret
      exact ⟨rfl, Below.refl _ _⟩
  by_cases g5 : q < 0
  · go_enter Try.func9, Try.ntmps9
    go_wp2_with (go_at_call 20; refine (bytes20_some _ q a b c d n1 n2 n3 n4 c1 c2 c3 c4).mono ?_; rintro e w' ⟨X, rfl, hw⟩; subst hw)
    all_goals
      go_ret
      exact ⟨rfl, Below.refl _ _⟩
  by_cases g6 : 65536 < q
  · go_enter Try.func9, Try.ntmps9
    go_wp2_with (go_at_call 20; refine (bytes20_some _ q a b c d n1 n2 n3 n4 c1 c2 c3 c4).mono ?_; rintro e w' ⟨X, rfl, hw⟩; subst hw)
    all_goals
      go_ret
      exact ⟨rfl, Below.refl _ _⟩
  by_cases g7 : (n2 : Int) < 1
  · go_enter Try.func9, Try.ntmps9
    go_wp2_with (go_at_call 20; refine (bytes20_some _ q a b c d n1 n2 n3 n4 c1 c2 c3 c4).mono ?_; rintro e w' ⟨X, rfl, hw⟩; subst hw)
    all_goals
      go_ret
      exact ⟨rfl, Below.refl _ _⟩
  by_cases g8 : n1 = n2
  · subst g8
    by_cases g9 : n3 = n1
    · subst g9
      have g10 : n4 ≠ n3 := by
        intro e
        exact h ⟨by omega, by omega, by omega, by omega, rfl, rfl, e⟩
      have g11 : ((n4 : Int) == (n3 : Int)) = false := by simp; omega
      have g12 : ((n4 : Int) != (n3 : Int)) = true := by simp; omega
      go_enter Try.func9, Try.ntmps9
      go_wp2_with (go_at_call 20; refine (bytes20_some _ q a b c d n3 n3 n3 n4 c1 c2 c3 c4).mono ?_; rintro e w' ⟨X, rfl, hw⟩; subst hw)
      all_goals
        go_ret
        exact ⟨rfl, Below.refl _ _⟩
    · have g11 : ((n3 : Int) == (n1 : Int)) = false := by simp; omega
      have g12 : ((n3 : Int) != (n1 : Int)) = true := by simp; omega
      go_enter Try.func9, Try.ntmps9
      go_wp2_with (go_at_call 20; refine (bytes20_some _ q a b c d n1 n1 n3 n4 c1 c2 c3 c4).mono ?_; rintro e w' ⟨X, rfl, hw⟩; subst hw)
      all_goals
        go_ret
        exact ⟨rfl, Below.refl _ _⟩
  · have g11 : ((n1 : Int) == (n2 : Int)) = false := by simp; omega
    have g12 : ((n1 : Int) != (n2 : Int)) = true := by simp; omega
    go_enter Try.func9, Try.ntmps9
    go_wp2_with (go_at_call 20; refine (bytes20_some _ q a b c d n1 n2 n3 n4 c1 c2 c3 c4).mono ?_; rintro e w' ⟨X, rfl, hw⟩; subst hw)
    all_goals
      go_ret
      exact ⟨rfl, Below.refl _ _⟩
end Go.Proofs.Qxb6613362a
