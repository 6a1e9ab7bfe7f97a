/-
  THE WALK of FnSameASCIIClassSizes.
-/
import Derived.Test.Qxb6612931aSame
import Derived.Deep.RegionWith
import Derived.LoopTactic
import Derived.Deep.Light
import Derived.Below
namespace Go.Proofs.Qxb6612931a
open Go.RowKit
set_option linter.unusedVariables false

theorem same_self (a : Nat) (ic : Bool) : sameN a a ic = true := by
  simp [sameN]

theorem same_symm (a b : Nat) (ic : Bool) (ha : a < 256) (hb : b < 256) : sameN b a ic = sameN a b ic := by
  have h := pair_at a b ic ha hb
  simp only [pairOk, Bool.and_eq_true, beq_iff_eq] at h
  exact h.1.1.symm

theorem same_is (a b : Nat) (ic : Bool) (ha : a < 256) (hb : b < 256) (hs : sameN a b ic = true) : b = a ∨ b = Nat.xor a 32 := by
  have h := pair_at a b ic ha hb
  simp only [pairOk, Bool.and_eq_true, hs, Bool.not_true, Bool.false_or, Bool.or_eq_true] at h
  rcases h.1.2 with h | h
  · exact .inl (Nat.eq_of_beq_eq_true h)
  · exact .inr (Nat.eq_of_beq_eq_true h)

/-- The five stretches of the bytes, and the count that each asks. -/
theorem stretches (a : Nat) (ic : Bool) (ha : a < 256) :
    ((a : Int) < 65 ∧ True ∧ countN a ic 256 = 1)
    ∨ (65 ≤ (a : Int) ∧ (a : Int) ≤ 90 ∧ countN a ic 256 = bif ic then 2 else 1)
    ∨ (90 < (a : Int) ∧ (a : Int) < 97 ∧ countN a ic 256 = 1)
    ∨ (97 ≤ (a : Int) ∧ (a : Int) ≤ 122 ∧ countN a ic 256 = bif ic then 2 else 1)
    ∨ (122 < (a : Int) ∧ True ∧ countN a ic 256 = 1) := by
  have h := count_at a ic ha
  have e1 : Nat.ble 65 a = decide (65 ≤ a) := by rw [Bool.eq_iff_iff, decide_eq_true_eq, Nat.ble_eq]
  have e2 : Nat.ble a 90 = decide (a ≤ 90) := by rw [Bool.eq_iff_iff, decide_eq_true_eq, Nat.ble_eq]
  have e3 : Nat.ble 97 a = decide (97 ≤ a) := by rw [Bool.eq_iff_iff, decide_eq_true_eq, Nat.ble_eq]
  have e4 : Nat.ble a 122 = decide (a ≤ 122) := by rw [Bool.eq_iff_iff, decide_eq_true_eq, Nat.ble_eq]
  rw [letterN, e1, e2, e3, e4] at h
  rw [h]
  by_cases c1 : a < 65
  · refine .inl ⟨by omega, trivial, ?_⟩
    simp [show ¬ 65 ≤ a by omega, show ¬ 97 ≤ a by omega]
  by_cases c2 : a ≤ 90
  · refine .inr (.inl ⟨by omega, by omega, ?_⟩)
    simp [show 65 ≤ a by omega, c2]
  by_cases c3 : a < 97
  · refine .inr (.inr (.inl ⟨by omega, by omega, ?_⟩))
    simp [c2, show ¬ 97 ≤ a by omega]
  by_cases c4 : a ≤ 122
  · refine .inr (.inr (.inr (.inl ⟨by omega, by omega, ?_⟩)))
    simp [show 97 ≤ a by omega, c4]
  · refine .inr (.inr (.inr (.inr ⟨by omega, trivial, ?_⟩)))
    simp [c2, c4]

theorem count_hit {a k : Nat} {ic : Bool} (h : sameN a k ic = true) : countN a ic (k + 1) = countN a ic k + 1 := by simp [countN, h]
theorem count_miss {a k : Nat} {ic : Bool} (h : sameN a k ic = false) : countN a ic (k + 1) = countN a ic k := by simp [countN, h]
theorem count_le (a : Nat) (ic : Bool) (k : Nat) : countN a ic k ≤ k := by
  induction k with
  | zero => exact Nat.le_refl _
  | succ k ih =>
    cases h : sameN a k ic
    · rw [count_miss h]
      omega
    · rw [count_hit h]
      omega

set_option maxRecDepth 100000 in
set_option maxHeartbeats 2000000 in
theorem classes_f (w : World) (a : Nat) (ha : a < 256) :
    Calls Try.prog 4 #[.int .u8 (a : Int), .bool false] w fun e w' => e = .returned (.bool true) ∧ w' = w := by
  have hx : bits .xor .u8 (a : Int) 32 = ((Nat.xor a 32 : Nat) : Int) := bits_xor_u8_nat a 32 ha (by decide)
  have hself := fun w' => zsame_any w' a a false ha ha
  rw [same_self] at hself
  rcases stretches a false ha with ⟨c1, c2, c3⟩ | ⟨c1, c2, c3⟩ | ⟨c1, c2, c3⟩ | ⟨c1, c2, c3⟩ | ⟨c1, c2, c3⟩
  all_goals
    try simp only [cond_false] at c3
    go_enter Try.func4, Try.ntmps4
    go_wp2
    go_loop [7, 8] (fun c i => ∃ k : Nat, k ≤ 256 ∧ i = .int .i64 k ∧ c = .int .i64 (countN a false k : Nat)) (fun c i => 256 - (intOf i).toNat)
    case atStart => exact ⟨0, by omega, rfl, rfl⟩
    case round =>
      obtain ⟨k, hk, rfl, rfl⟩ := hrel
      have hle := count_le a false k
      by_cases hlt : (k : Int) < 256
      · have hmod : (k : Int) % 256 = k := by omega
        have hk' : k < 256 := by omega
        have hsy := same_symm a k false ha hk'
        cases hs : sameN a k false
        · have hc := count_miss hs
          rw [hs] at hsy
          go_wp2_with (go_at_call 5; refine (zsame_any _ _ _ _ (by assumption) (by assumption)).mono ?_; rintro e w' ⟨rfl, rfl⟩)
          go_round
          case rel => exact ⟨k + 1, by omega, by go_num, by rw [hc]⟩
          case measure =>
            simp [intOf]
            omega
        · have hc := count_hit hs
          rw [hs] at hsy
          have his := same_is a k false ha (by omega) hs
          by_cases hk1 : k = a
          · subst hk1
            clear his
            go_wp2_with (go_at_call 5; refine (hself _).mono ?_; rintro e w' ⟨rfl, rfl⟩)
            go_round
            case rel => exact ⟨k + 1, by omega, by go_num, by rw [hc]; go_num⟩
            case measure =>
              simp [intOf]
              omega
          · have hk2 : k = Nat.xor a 32 := his.resolve_left hk1
            rw [← hk2] at hx
            have hne : ((k : Int) == (a : Int)) = false := by simp; omega
            clear hk2 his hk1
            go_wp2_with (go_at_call 5; refine (zsame_any _ _ _ _ (by assumption) (by assumption)).mono ?_; rintro e w' ⟨rfl, rfl⟩)
            all_goals
              go_round
              case rel => exact ⟨k + 1, by omega, by go_num, by rw [hc]; go_num⟩
              case measure =>
                simp [intOf]
                omega
      · obtain rfl : k = 256 := by omega
        go_wp2_with (go_at_call 5; refine (hself _).mono ?_; rintro e w' ⟨rfl, rfl⟩)
        go_ret
        exact ⟨rfl, rfl⟩

set_option maxRecDepth 100000 in
set_option maxHeartbeats 2000000 in
theorem classes_t (w : World) (a : Nat) (ha : a < 256) :
    Calls Try.prog 4 #[.int .u8 (a : Int), .bool true] w fun e w' => e = .returned (.bool true) ∧ w' = w := by
  have hx : bits .xor .u8 (a : Int) 32 = ((Nat.xor a 32 : Nat) : Int) := bits_xor_u8_nat a 32 ha (by decide)
  have hself := fun w' => zsame_any w' a a true ha ha
  rw [same_self] at hself
  rcases stretches a true ha with ⟨c1, c2, c3⟩ | ⟨c1, c2, c3⟩ | ⟨c1, c2, c3⟩ | ⟨c1, c2, c3⟩ | ⟨c1, c2, c3⟩
  all_goals
    try simp only [cond_true] at c3
    go_enter Try.func4, Try.ntmps4
    go_wp2
    go_loop [7, 8] (fun c i => ∃ k : Nat, k ≤ 256 ∧ i = .int .i64 k ∧ c = .int .i64 (countN a true k : Nat)) (fun c i => 256 - (intOf i).toNat)
    case atStart => exact ⟨0, by omega, rfl, rfl⟩
    case round =>
      obtain ⟨k, hk, rfl, rfl⟩ := hrel
      have hle := count_le a true k
      by_cases hlt : (k : Int) < 256
      · have hmod : (k : Int) % 256 = k := by omega
        have hk' : k < 256 := by omega
        have hsy := same_symm a k true ha hk'
        cases hs : sameN a k true
        · have hc := count_miss hs
          rw [hs] at hsy
          go_wp2_with (go_at_call 5; refine (zsame_any _ _ _ _ (by assumption) (by assumption)).mono ?_; rintro e w' ⟨rfl, rfl⟩)
          go_round
          case rel => exact ⟨k + 1, by omega, by go_num, by rw [hc]⟩
          case measure =>
            simp [intOf]
            omega
        · have hc := count_hit hs
          rw [hs] at hsy
          have his := same_is a k true ha (by omega) hs
          by_cases hk1 : k = a
          · subst hk1
            clear his
            go_wp2_with (go_at_call 5; refine (hself _).mono ?_; rintro e w' ⟨rfl, rfl⟩)
            go_round
            case rel => exact ⟨k + 1, by omega, by go_num, by rw [hc]; go_num⟩
            case measure =>
              simp [intOf]
              omega
          · have hk2 : k = Nat.xor a 32 := his.resolve_left hk1
            rw [← hk2] at hx
            have hne : ((k : Int) == (a : Int)) = false := by simp; omega
            clear hk2 his hk1
            go_wp2_with (go_at_call 5; refine (zsame_any _ _ _ _ (by assumption) (by assumption)).mono ?_; rintro e w' ⟨rfl, rfl⟩)
            all_goals
              go_round
              case rel => exact ⟨k + 1, by omega, by go_num, by rw [hc]; go_num⟩
              case measure =>
                simp [intOf]
                omega
      · obtain rfl : k = 256 := by omega
        go_wp2_with (go_at_call 5; refine (hself _).mono ?_; rintro e w' ⟨rfl, rfl⟩)
        go_ret
        exact ⟨rfl, rfl⟩

theorem classes_grown (a0 : Int) (a1 : Bool) (w : World) (h0 : 0 ≤ a0) (h1 : a0 ≤ 255) :
    Calls Try.prog 4 #[.int .u8 a0, .bool a1] w fun e w' => e = .returned (.bool true) ∧ Grown w w' := by
  obtain ⟨a, rfl⟩ : ∃ a : Nat, a0 = a := ⟨a0.toNat, by omega⟩
  cases a1
  · refine (classes_f w a (by omega)).mono ?_
    rintro e w' ⟨he, rfl⟩
    exact ⟨he, Grown.refl _⟩
  · refine (classes_t w a (by omega)).mono ?_
    rintro e w' ⟨he, rfl⟩
    exact ⟨he, Grown.refl _⟩
end Go.Proofs.Qxb6612931a
