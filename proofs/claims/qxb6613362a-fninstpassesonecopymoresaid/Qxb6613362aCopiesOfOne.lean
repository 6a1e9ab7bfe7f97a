/-
  THE WALK and THE PLAIN LAW of FnInstPassesAsCopiesOfOne.
-/
import Derived.Test.Qxb6613362aInst
import Derived.Deep.RegionWith
namespace Go.Proofs.Qxb6613362a
open Go.RowKit
set_option linter.unusedVariables false

theorem quo_facts (a : Int) (n : Nat) (h : 1 ≤ (n : Int)) : ∃ r, a = a.tdiv n * n + r ∧ r = a.tmod n ∧ (0 ≤ a → 0 ≤ r ∧ r < n ∧ 0 ≤ a.tdiv n ∧ 0 ≤ a.tdiv n * n ∧ a.tdiv n ≤ a.tdiv n * n) ∧ (a ≤ 0 → r ≤ 0 ∧ -(n : Int) < r ∧ a.tdiv n ≤ 0 ∧ a.tdiv n * n ≤ 0 ∧ a.tdiv n * n ≤ a.tdiv n) := by
  have hn : (0 : Int) < n := by omega
  refine ⟨a.tmod n, ?_, rfl, ?_, ?_⟩
  · have := Int.tmod_add_tdiv_mul a n
    omega
  · intro h0
    have h1 := Int.tmod_nonneg n h0
    have h2 := Int.tmod_lt_of_pos a hn
    have h3 : 0 ≤ a.tdiv n := Int.tdiv_nonneg h0 (by omega)
    have h4 : 0 ≤ a.tdiv n * n := Int.mul_nonneg h3 (by omega)
    have h5 : a.tdiv n * 1 ≤ a.tdiv n * n := Int.mul_le_mul_of_nonneg_left h h3
    exact ⟨h1, h2, h3, h4, by omega⟩
  · intro h0
    have e1 : (-a).tdiv n = -(a.tdiv n) := Int.neg_tdiv ..
    have e2 : (-a).tmod n = -(a.tmod n) := Int.neg_tmod ..
    have h1 := Int.tmod_nonneg n (a := -a) (by omega)
    have h2 := Int.tmod_lt_of_pos (-a) hn
    have h3 : 0 ≤ (-a).tdiv n := Int.tdiv_nonneg (by omega) (by omega)
    have h4 : 0 ≤ (-a).tdiv n * n := Int.mul_nonneg h3 (by omega)
    have h5 : (-a).tdiv n * 1 ≤ (-a).tdiv n * n := Int.mul_le_mul_of_nonneg_left h h3
    rw [e1] at h3 h4 h5
    rw [e2] at h1 h2
    rw [Int.neg_mul] at h4 h5
    rw [Int.neg_mul] at h5
    refine ⟨by omega, by omega, by omega, by omega, by omega⟩

theorem quo_bd (a : Int) (n : Nat) (h : 1 ≤ (n : Int)) (c0 : -1073741824 ≤ a) (c1 : a ≤ 1073741824) :
    -1073741824 ≤ a.tdiv n ∧ a.tdiv n ≤ 1073741824 ∧ -1073741824 ≤ a.tdiv n * n ∧ a.tdiv n * n ≤ 1073741824 := by
  obtain ⟨r, h1, h2, h3, h4⟩ := quo_facts a n h
  by_cases h0 : 0 ≤ a
  · obtain ⟨p1, p2, p3, p4, p5⟩ := h3 h0
    exact ⟨by omega, by omega, by omega, by omega⟩
  · obtain ⟨p1, p2, p3, p4, p5⟩ := h4 (by omega)
    exact ⟨by omega, by omega, by omega, by omega⟩

theorem passB_one (lo hi q : Int) : passB lo hi 1 q = (decide (lo ≤ q) && decide (q ≤ hi)) := by
  simp [passB]

theorem mul_le_iff (a q : Int) (n : Nat) (h : 1 ≤ (n : Int)) : a * n ≤ q * n ↔ a ≤ q := by
  constructor
  · intro h1
    exact Int.le_of_mul_le_mul_right h1 (by omega)
  · intro h1
    exact Int.mul_le_mul_of_nonneg_right h1 (by omega)

theorem passB_as_one (lo hi : Int) (n : Nat) (c : Int) (h : 1 ≤ (n : Int)) : passB lo hi n c = (decide (c.tdiv n * n = c) && passB lo hi 1 (c.tdiv n)) := by
  obtain ⟨r, h1, h2, -, -⟩ := quo_facts c n h
  have i1 := mul_le_iff lo (c.tdiv n) n h
  have i2 := mul_le_iff (c.tdiv n) hi n h
  rw [passB_one, Bool.eq_iff_iff]
  by_cases hq : c.tdiv n * n = c
  · have hr : c.tmod n = 0 := by omega
    rw [hq] at i1 i2
    simp [passB, hr, hq, i1, i2]
  · have hr : ¬ c.tmod n = 0 := by omega
    have hn : ¬ (n : Int) = 1 := by
      intro e
      rw [e] at hq
      simp at hq
    simp [passB, hr, hq, hn]

theorem copies_cases (lo hi : Int) (n : Nat) (c : Int) (h : 1 ≤ (n : Int)) :
    (c.tdiv n * n = c ∧ lo ≤ c.tdiv n ∧ c.tdiv n ≤ hi ∧ passB lo hi n c = true ∧ passB lo hi 1 (c.tdiv n) = true)
    ∨ (c.tdiv n * n = c ∧ lo ≤ c.tdiv n ∧ ¬ c.tdiv n ≤ hi ∧ passB lo hi n c = false ∧ passB lo hi 1 (c.tdiv n) = false)
    ∨ (c.tdiv n * n = c ∧ ¬ lo ≤ c.tdiv n ∧ True ∧ passB lo hi n c = false ∧ passB lo hi 1 (c.tdiv n) = false)
    ∨ ((c.tdiv n * n == c) = false ∧ lo ≤ c.tdiv n ∧ c.tdiv n ≤ hi ∧ passB lo hi n c = false ∧ passB lo hi 1 (c.tdiv n) = true)
    ∨ ((c.tdiv n * n == c) = false ∧ lo ≤ c.tdiv n ∧ ¬ c.tdiv n ≤ hi ∧ passB lo hi n c = false ∧ passB lo hi 1 (c.tdiv n) = false)
    ∨ ((c.tdiv n * n == c) = false ∧ ¬ lo ≤ c.tdiv n ∧ True ∧ passB lo hi n c = false ∧ passB lo hi 1 (c.tdiv n) = false) := by
  have e1 := passB_as_one lo hi n c h
  have e2 := passB_one lo hi (c.tdiv n)
  rw [e2] at e1
  by_cases p1 : c.tdiv n * n = c <;> by_cases p2 : lo ≤ c.tdiv n <;> by_cases p3 : c.tdiv n ≤ hi <;> simp [e1, e2, p1, p2, p3]

theorem mk_one (w : World) (lo hi : Int) :
    Calls Try.prog 11 #[.int .u16 lo, .int .u16 hi, .int .i64 1] w fun e w' => ∃ b, e = .returned (.pointer (some ⟨b, 0, none⟩)) ∧ IsInst w' b lo hi 1 ∧ Below w.heap.size w w' :=
  mk_any w lo hi 1 (by decide) (by decide)

theorem below_drewN' {B : Nat} {a w : World} (h : Below B a w) (q : Nat) : Below B a (w.drewN q) := ⟨h.os, h.tape, h.output, h.size, h.block⟩

set_option maxHeartbeats 1000000 in
theorem copiesOfOne_in (a0 a1 a3 : Int) (n : Nat) (w : World) (b0 : 0 ≤ a0) (b0' : a0 ≤ 65535) (b1 : 0 ≤ a1) (b1' : a1 ≤ 65535) (g1 : 1 ≤ (n : Int)) (g2 : (n : Int) ≤ 16384) (g3 : -1073741824 ≤ a3) (g4 : a3 ≤ 1073741824) :
    Calls Try.prog 4 #[.int .u16 a0, .int .u16 a1, .int .i64 n, .int .i64 a3] w fun e w' => e = .returned (.bool true) ∧ Below w.heap.size w w' := by
  obtain ⟨q1, q2, q3, q4⟩ := quo_bd a3 n g1 g3 g4
  have one1 : 1 ≤ ((1 : Nat) : Int) := by decide
  have one2 : ((1 : Nat) : Int) ≤ 16384 := by decide
  rcases copies_cases a0 a1 n a3 g1 with ⟨c1, c2, c3, hA, hB⟩ | ⟨c1, c2, c3, hA, hB⟩ | ⟨c1, c2, c3, hA, hB⟩ | ⟨c1, c2, c3, hA, hB⟩ | ⟨c1, c2, c3, hA, hB⟩ | ⟨c1, c2, c3, hA, hB⟩
  all_goals
    go_enter Try.func4, Try.ntmps4
    go_wp2_with (first
      | (go_at_call_of 11 (Value.int .i64 1); refine (mk_one _ a0 a1).mono ?_; rintro e w2 ⟨k2, rfl, hI2, hb2⟩)
      | (go_at_call_of 11 (Value.int .i64 (n : Int)); refine (mk_any _ a0 a1 n g1 g2).mono ?_; rintro e w1 ⟨k1, rfl, hI1, hb1⟩)
      | (go_at_call_of 10 (Value.int .i64 a3); refine (zpasses_any _ k1 a0 a1 n a3 hI1 b0 b0' b1 b1' g1 g2 (by omega) (by omega)).mono ?_; rintro e w' ⟨rfl, qq1, rfl⟩)
      | (go_at_call 10; refine (zpasses_any _ k2 a0 a1 1 (a3.tdiv n) hI2 b0 b0' b1 b1' one1 one2 (by omega) (by omega)).mono ?_; rintro e w' ⟨rfl, qq2, rfl⟩))
    go_ret
    exact ⟨by first | rfl | exact ret_bool (by simp [c3]), below_drewN' ((below_drewN' hb1 _).trans (hb2.mono (below_drewN' hb1 _).size)) _⟩

theorem copiesOfOne_any (a0 a1 a2 a3 : Int) (w : World) (b0 : 0 ≤ a0) (b0' : a0 ≤ 65535) (b1 : 0 ≤ a1) (b1' : a1 ≤ 65535) : Calls Try.prog 4 #[.int .u16 a0, .int .u16 a1, .int .i64 a2, .int .i64 a3] w fun e w' => e = .returned (.bool true) ∧ Below w.heap.size w w' := by
  by_cases g1 : a2 < 1
  · go_enter Try.func4, Try.ntmps4
    go_wp2
    go_ret
    exact ⟨rfl, Below.refl _ _⟩
  by_cases g2 : 16384 < a2
  · go_enter Try.func4, Try.ntmps4
    go_wp2
    go_ret
    exact ⟨rfl, Below.refl _ _⟩
  by_cases g3 : a3 < -1073741824
  · go_enter Try.func4, Try.ntmps4
    go_wp2
    go_ret
    exact ⟨rfl, Below.refl _ _⟩
  by_cases g4 : 1073741824 < a3
  · go_enter Try.func4, Try.ntmps4
    go_wp2
    go_ret
    exact ⟨rfl, Below.refl _ _⟩
  obtain ⟨n, rfl⟩ : ∃ n : Nat, a2 = n := ⟨a2.toNat, by omega⟩
  exact copiesOfOne_in a0 a1 a3 n w b0 b0' b1 b1' (by omega) (by omega) (by omega) (by omega)
end Go.Proofs.Qxb6613362a
