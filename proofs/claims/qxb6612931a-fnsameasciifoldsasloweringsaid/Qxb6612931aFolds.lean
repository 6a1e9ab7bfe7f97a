/-
  THE WALK of FnSameASCIIFoldsAsLowering.
-/
import Derived.Test.Qxb6612931aSame
import Derived.Deep.RegionWith
namespace Go.Proofs.Qxb6612931a
open Go.RowKit
set_option linter.unusedVariables false

theorem same_false (a b : Nat) : sameN a b false = ((a : Int) == (b : Int)) := by
  rw [Bool.eq_iff_iff]
  simp [sameN]
  omega

theorem same_lowered (a b : Nat) (ha : a < 256) (hb : b < 256) : sameN (lowN a) (lowN b) false = sameN a b true := by
  have h := pair_at a b true ha hb
  simp only [pairOk, Bool.and_eq_true, Bool.not_true, Bool.false_or, beq_iff_eq] at h
  exact h.2.symm

theorem folds_any (w : World) (a b : Nat) (ic : Bool) (ha : a < 256) (hb : b < 256) :
    Calls Try.prog 3 #[.int .u8 (a : Int), .int .u8 (b : Int), .bool ic] w fun e w' => e = .returned (.bool true) ∧ w' = w := by
  have hz := fun w' => zsame_any w' a b false ha hb
  rw [same_false] at hz
  cases ic
  · cases hq : ((a : Int) == (b : Int))
    all_goals
      rw [hq] at hz
      go_enter Try.func3, Try.ntmps3
      go_wp2_with (go_at_call 5; refine (hz _).mono ?_; rintro e w' ⟨rfl, rfl⟩)
      go_ret
      exact ⟨rfl, rfl⟩
  · have hz2 := fun w' => zsame_any w' a b true ha hb
    have hz3 := fun w' => zsame_any w' (lowN a) (lowN b) false (low_lt a ha) (low_lt b hb)
    rw [same_lowered a b ha hb] at hz3
    generalize sameN a b true = P at hz2 hz3
    have hl1 := fun w' => low_any w' a ha
    have hl2 := fun w' => low_any w' b hb
    generalize lowN a = la at *
    generalize lowN b = lb at *
    cases hq : ((a : Int) == (b : Int)) <;> cases P
    all_goals
      rw [hq] at hz
      go_enter Try.func3, Try.ntmps3
      go_wp2_with (first
        | (go_at_call_of 6 (Value.int .u8 (a : Int)); refine (hl1 _).mono ?_; rintro e w' ⟨rfl, rfl⟩)
        | (go_at_call_of 6 (Value.int .u8 (b : Int)); refine (hl2 _).mono ?_; rintro e w' ⟨rfl, rfl⟩)
        | (go_at_call_of 5 (Value.int .u8 (la : Int)); refine (hz3 _).mono ?_; rintro e w' ⟨rfl, rfl⟩)
        | (go_at_call_of 5 (Value.bool true); refine (hz2 _).mono ?_; rintro e w' ⟨rfl, rfl⟩)
        | (go_at_call_of 5 (Value.bool false); refine (hz _).mono ?_; rintro e w' ⟨rfl, rfl⟩))
      go_ret
      exact ⟨rfl, rfl⟩

theorem folds_grown (a0 a1 : Int) (a2 : Bool) (w : World) (h0 : 0 ≤ a0) (h1 : a0 ≤ 255) (h2 : 0 ≤ a1) (h3 : a1 ≤ 255) :
    Calls Try.prog 3 #[.int .u8 a0, .int .u8 a1, .bool a2] w fun e w' => e = .returned (.bool true) ∧ Grown w w' := by
  obtain ⟨a, rfl⟩ : ∃ a : Nat, a0 = a := ⟨a0.toNat, by omega⟩
  obtain ⟨b, rfl⟩ : ∃ b : Nat, a1 = b := ⟨a1.toNat, by omega⟩
  refine (folds_any w a b a2 (by omega) (by omega)).mono ?_
  rintro e w' ⟨he, rfl⟩
  exact ⟨he, Grown.refl _⟩
end Go.Proofs.Qxb6612931a
