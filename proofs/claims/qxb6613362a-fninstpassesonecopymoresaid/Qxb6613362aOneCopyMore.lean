/-
  THE WALK and THE PLAIN LAW of FnInstPassesOneCopyMore.
-/
import Derived.Test.Qxb6613362aCopiesOfOne
import Derived.LoopTactic
import Derived.Deep.Light
namespace Go.Proofs.Qxb6613362a
open Go.RowKit
set_option linter.unusedVariables false

/-- passes holds exactly where the count is k whole copies for some k from lo to hi. -/
theorem passB_iff (lo hi : Int) (n : Nat) (c : Int) (h : 1 ≤ (n : Int)) : passB lo hi n c = true ↔ ∃ k, lo ≤ k ∧ k ≤ hi ∧ k * n = c := by
  rw [passB_as_one lo hi n c h, passB_one]
  simp only [Bool.and_eq_true, decide_eq_true_eq]
  constructor
  · rintro ⟨h1, h2, h3⟩
    exact ⟨_, h2, h3, h1⟩
  · rintro ⟨k, h1, h2, rfl⟩
    have e : (k * (n : Int)).tdiv n = k := Int.mul_tdiv_cancel k (by omega)
    rw [e]
    exact ⟨rfl, h1, h2⟩

theorem passB_more (lo hi : Int) (n : Nat) (c : Int) (h : 1 ≤ (n : Int)) : passB (lo + 1) (hi + 1) n (c + n) = passB lo hi n c := by
  rw [Bool.eq_iff_iff, passB_iff _ _ _ _ h, passB_iff _ _ _ _ h]
  constructor
  · rintro ⟨k, h1, h2, h3⟩
    have e : (k - 1) * (n : Int) = k * n - n := by rw [Int.sub_mul]; omega
    exact ⟨k - 1, by omega, by omega, by omega⟩
  · rintro ⟨k, h1, h2, h3⟩
    have e : (k + 1) * (n : Int) = k * n + n := by rw [Int.add_mul]; omega
    exact ⟨k + 1, by omega, by omega, by omega⟩

theorem passB_hit (lo hi : Int) (n : Nat) (c k : Int) (h : 1 ≤ (n : Int)) (h1 : lo ≤ k) (h2 : k ≤ hi) (h3 : k * n = c) : passB lo hi n c = true :=
  (passB_iff lo hi n c h).2 ⟨k, h1, h2, h3⟩

theorem passB_miss (lo hi : Int) (n : Nat) (c k : Int) (h : 1 ≤ (n : Int)) (h2 : hi < k) (h3 : ∀ j, lo ≤ j → j < k → j * (n : Int) ≠ c) : passB lo hi n c = false := by
  rw [Bool.eq_false_iff]
  intro e
  obtain ⟨j, j1, j2, j3⟩ := (passB_iff lo hi n c h).1 e
  exact h3 j j1 (by omega) j3

theorem whole_any (w : World) (lo hi : Int) (n : Nat) (c : Int) (h0 : 0 ≤ lo) (h1 : lo ≤ 65535) (h2 : 0 ≤ hi) (h3 : hi ≤ 65535) (hn1 : 1 ≤ (n : Int)) (hn : (n : Int) ≤ 16384) :
    Calls Try.prog 12 #[.int .u16 lo, .int .u16 hi, .int .i64 n, .int .i64 c] w fun e w' => e = .returned (.bool (passB lo hi n c)) ∧ w' = w := by
  go_enter Try.func12, Try.ntmps12
  go_wp2
  go_loop [9] (fun i => ∃ k : Int, lo ≤ k ∧ k ≤ 65536 ∧ i = .int .i64 k ∧ ∀ j, lo ≤ j → j < k → j * (n : Int) ≠ c) (fun i => (65537 - intOf i).toNat)
  case atStart => exact ⟨lo, Int.le_refl _, by omega, rfl, fun j j1 j2 => by omega⟩
  case round =>
    obtain ⟨k, k0, k1, rfl, hk⟩ := hrel
    by_cases hlt : k ≤ hi
    · obtain ⟨m0, m1⟩ := mul_bd k n (by omega) (by omega) hn
      by_cases hq : k * (n : Int) = c
      · have hp := passB_hit lo hi n c k hn1 k0 hlt hq
        go_wp2
        go_ret
        exact ⟨rfl, rfl⟩
      · have hq' : (k * (n : Int) == c) = false := by simp [hq]
        go_wp2
        go_round
        case rel =>
          refine ⟨k + 1, by omega, by omega, by go_num, fun j j1 j2 => ?_⟩
          by_cases e : j = k
          · subst e
            exact hq
          · exact hk j j1 (by omega)
        case measure =>
          simp [intOf]
          omega
    · have hp := passB_miss lo hi n c k hn1 (by omega) hk
      go_wp2
      go_ret
      exact ⟨rfl, rfl⟩

set_option maxHeartbeats 1000000 in
theorem oneCopyMore_in (a0 a1 a3 : Int) (n : Nat) (w : World) (b0 : 0 ≤ a0) (b0' : a0 ≤ 65534) (b1 : 0 ≤ a1) (b1' : a1 ≤ 65534) (g1 : 1 ≤ (n : Int)) (g2 : (n : Int) ≤ 16384) (g3 : -1073741824 ≤ a3) (g4 : a3 ≤ 1073741824) :
    Calls Try.prog 3 #[.int .u16 a0, .int .u16 a1, .int .i64 n, .int .i64 a3] w fun e w' => e = .returned (.bool true) ∧ Below w.heap.size w w' := by
  have hm := passB_more a0 a1 n a3 g1
  have hw := fun w' => whole_any w' a0 a1 n a3 b0 (by omega) b1 (by omega) g1 g2
  have hz1 := fun w' k1 hI => zpasses_any w' k1 a0 a1 n a3 hI b0 (by omega) b1 (by omega) g1 g2 (by omega) (by omega)
  have hz2 := fun w' k1 hI => zpasses_any w' k1 (a0 + 1) (a1 + 1) n (a3 + n) hI (by omega) (by omega) (by omega) (by omega) g1 g2 (by omega) (by omega)
  rw [hm] at hz2
  have n0 : (a0 == 65535) = false := by simp; omega
  have n1 : (a1 == 65535) = false := by simp; omega
  generalize passB a0 a1 n a3 = P at hw hz1 hz2
  cases P
  all_goals
    go_enter Try.func3, Try.ntmps3
    go_wp2_with (first
      | (go_at_call 12; refine (hw _).mono ?_; rintro e w' ⟨rfl, rfl⟩)
      | (go_at_call_of 11 (Value.int .u16 a0); refine (mk_any _ a0 a1 n g1 g2).mono ?_; rintro e w1 ⟨k1, rfl, hI1, hb1⟩)
      | (go_at_call 11; refine (mk_any _ (a0 + 1) (a1 + 1) n g1 g2).mono ?_; rintro e w2 ⟨k2, rfl, hI2, hb2⟩)
      | (go_at_call_of 10 (Value.int .i64 a3); refine (hz1 _ k1 hI1).mono ?_; rintro e w' ⟨rfl, qq1, rfl⟩)
      | (go_at_call 10; refine (hz2 _ k2 hI2).mono ?_; rintro e w' ⟨rfl, qq2, rfl⟩))
    go_ret
    exact ⟨rfl, below_drewN' ((below_drewN' hb1 _).trans (hb2.mono (below_drewN' hb1 _).size)) _⟩

theorem oneCopyMore_any (a0 a1 a2 a3 : Int) (w : World) (b0 : 0 ≤ a0) (b0' : a0 ≤ 65535) (b1 : 0 ≤ a1) (b1' : a1 ≤ 65535) : Calls Try.prog 3 #[.int .u16 a0, .int .u16 a1, .int .i64 a2, .int .i64 a3] w fun e w' => e = .returned (.bool true) ∧ Below w.heap.size w w' := by
  by_cases g1 : a2 < 1
  · go_enter Try.func3, Try.ntmps3
    go_wp2
    go_ret
    exact ⟨rfl, Below.refl _ _⟩
  by_cases g2 : 16384 < a2
  · go_enter Try.func3, Try.ntmps3
    go_wp2
    go_ret
    exact ⟨rfl, Below.refl _ _⟩
  by_cases g3 : a3 < -1073741824
  · go_enter Try.func3, Try.ntmps3
    go_wp2
    go_ret
    exact ⟨rfl, Below.refl _ _⟩
  by_cases g4 : 1073741824 < a3
  · go_enter Try.func3, Try.ntmps3
    go_wp2
    go_ret
    exact ⟨rfl, Below.refl _ _⟩
  by_cases g5 : a0 = 65535
  · subst g5
    go_enter Try.func3, Try.ntmps3
    go_wp2
    go_ret
    exact ⟨rfl, Below.refl _ _⟩
  by_cases g6 : a1 = 65535
  · subst g6
    have n0 : (a0 == 65535) = false := by simp; omega
    go_enter Try.func3, Try.ntmps3
    go_wp2
    go_ret
    exact ⟨rfl, Below.refl _ _⟩
  obtain ⟨n, rfl⟩ : ∃ n : Nat, a2 = n := ⟨a2.toNat, by omega⟩
  exact oneCopyMore_in a0 a1 a3 n w b0 (by omega) b1 (by omega) (by omega) (by omega) (by omega) (by omega)
end Go.Proofs.Qxb6613362a
