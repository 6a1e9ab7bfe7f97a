/-
  THE WALKS of zzMkInst, (*Inst).width, least, most, passes, ZZinstPasses: shared by the two laws over passes.
-/
import Derived.Test.Qxb6613362aRows
import Derived.WalkKit
import Derived.WalkSpells
import Derived.Deep.QuietTactic
import Derived.BigQuiet
import Derived.Below
namespace Go.Proofs.Qxb6613362a
open Go.RowKit
set_option linter.unusedVariables false

/-- The Inst at block b: Min, Max, and the length n of the classes that it points to. -/
structure IsInst (w : World) (b : Nat) (lo hi : Int) (n : Nat) : Prop where
  min : w.cell? ⟨b, 4, none⟩ = some (.int .u16 lo)
  max : w.cell? ⟨b, 5, none⟩ = some (.int .u16 hi)
  cls : ∃ c a cap, w.cell? ⟨b, 8, none⟩ = some (.pointer (some ⟨c, 0, none⟩)) ∧ w.cell? ⟨c, 0, none⟩ = some (.slice a n cap)

theorem IsInst.drewN {w : World} {b : Nat} {lo hi : Int} {n : Nat} (h : IsInst w b lo hi n) (q : Nat) : IsInst (w.drewN q) b lo hi n := ⟨h.min, h.max, h.cls⟩

theorem width_any (w : World) (b : Nat) (lo hi : Int) (n : Nat) (h : IsInst w b lo hi n) :
    Calls Try.prog 37 #[.pointer (some ⟨b, 0, none⟩)] w fun e w' => e = .returned (.int .i64 n) ∧ w' = w := by
  obtain ⟨c, a, cap, h1, h2⟩ := h.cls
  go_enter Try.func37, Try.ntmps37
  go_wp2
  go_ret
  exact ⟨rfl, rfl⟩

theorem mul_bd (lo : Int) (n : Nat) (h0 : 0 ≤ lo) (h1 : lo ≤ 65535) (hn : (n : Int) ≤ 16384) : 0 ≤ lo * (n : Int) ∧ lo * (n : Int) ≤ 1073725440 := by
  have a := Int.mul_nonneg h0 (Int.natCast_nonneg n)
  have b : lo * (n : Int) ≤ 65535 * 16384 := Int.mul_le_mul h1 hn (Int.natCast_nonneg n) (by decide)
  exact ⟨a, by omega⟩

theorem least_any (w : World) (b : Nat) (lo hi : Int) (n : Nat) (h : IsInst w b lo hi n) (h0 : 0 ≤ lo) (h1 : lo ≤ 65535) (hn : (n : Int) ≤ 16384) :
    Calls Try.prog 38 #[.pointer (some ⟨b, 0, none⟩)] w fun e w' => e = .returned (.int .i64 (lo * n)) ∧ ∃ q, w' = w.drewN q := by
  have hm := h.min
  obtain ⟨m0, m1⟩ := mul_bd lo n h0 h1 hn
  go_enter Try.func38, Try.ntmps38
  go_wp2
  go_quiet ((go_at_call 37; exact Calls.quiet_of_same (width_any _ b lo hi n (h.drewN _))))
  go_wp2
  go_ret
  exact ⟨rfl, _, rfl⟩

theorem most_any (w : World) (b : Nat) (lo hi : Int) (n : Nat) (h : IsInst w b lo hi n) (h0 : 0 ≤ hi) (h1 : hi ≤ 65535) (hn : (n : Int) ≤ 16384) :
    Calls Try.prog 39 #[.pointer (some ⟨b, 0, none⟩)] w fun e w' => e = .returned (.int .i64 (hi * n)) ∧ ∃ q, w' = w.drewN q := by
  have hm := h.max
  obtain ⟨m0, m1⟩ := mul_bd hi n h0 h1 hn
  go_enter Try.func39, Try.ntmps39
  go_wp2
  go_quiet ((go_at_call 37; exact Calls.quiet_of_same (width_any _ b lo hi n (h.drewN _))))
  go_wp2
  go_ret
  exact ⟨rfl, _, rfl⟩

theorem ret_bool {a b : Bool} (h : a = b) : Ending.returned (.bool a) = .returned (.bool b) := by rw [h]

/-- What passes answers. -/
def passB (lo hi : Int) (n : Nat) (count : Int) : Bool := ((n : Int) == 1 || count.tmod n == 0) && (decide (lo * n ≤ count) && decide (count ≤ hi * n))

theorem passes_any (w : World) (b : Nat) (lo hi : Int) (n : Nat) (count : Int) (h : IsInst w b lo hi n) (h0 : 0 ≤ lo) (h1 : lo ≤ 65535) (h2 : 0 ≤ hi) (h3 : hi ≤ 65535) (hn1 : 1 ≤ (n : Int)) (hn : (n : Int) ≤ 16384)
    (c0 : -4294967296 ≤ count) (c1 : count ≤ 4294967296) :
    Calls Try.prog 31 #[.pointer (some ⟨b, 0, none⟩), .int .i64 count] w fun e w' => e = .returned (.bool (passB lo hi n count)) ∧ ∃ q, w' = w.drewN q := by
  by_cases e1 : n = 1
  · subst e1
    go_enter Try.func31, Try.ntmps31
    go_wp2_with (first
      | (go_at_call 37; refine (width_any _ b lo hi 1 (by first | exact h | exact h.drewN _)).mono ?_; rintro e w' ⟨rfl, rfl⟩)
      | (go_at_call 38; refine (least_any _ b lo hi 1 (by first | exact h | exact h.drewN _) h0 h1 hn).mono ?_; rintro e w' ⟨rfl, q, rfl⟩)
      | (go_at_call 39; refine (most_any _ b lo hi 1 (by first | exact h | exact h.drewN _) h2 h3 hn).mono ?_; rintro e w' ⟨rfl, q', rfl⟩))
    all_goals
      go_ret
      refine ⟨ret_bool ?_, by first | exact ⟨_, rfl⟩ | exact ⟨0, rfl⟩⟩
      rw [Bool.eq_iff_iff]
      simp [passB]
      omega
  · have e2 : ((n : Int) == 1) = false := by simp; omega
    go_enter Try.func31, Try.ntmps31
    go_wp2_with (first
      | (go_at_call 37; refine (width_any _ b lo hi n (by first | exact h | exact h.drewN _)).mono ?_; rintro e w' ⟨rfl, rfl⟩)
      | (go_at_call 38; refine (least_any _ b lo hi n (by first | exact h | exact h.drewN _) h0 h1 hn).mono ?_; rintro e w' ⟨rfl, q, rfl⟩)
      | (go_at_call 39; refine (most_any _ b lo hi n (by first | exact h | exact h.drewN _) h2 h3 hn).mono ?_; rintro e w' ⟨rfl, q', rfl⟩))
    all_goals
      go_ret
      refine ⟨ret_bool ?_, by first | exact ⟨_, rfl⟩ | exact ⟨0, rfl⟩⟩
      rw [Bool.eq_iff_iff]
      simp [passB]
      omega

theorem zpasses_any (w : World) (b : Nat) (lo hi : Int) (n : Nat) (count : Int) (h : IsInst w b lo hi n) (h0 : 0 ≤ lo) (h1 : lo ≤ 65535) (h2 : 0 ≤ hi) (h3 : hi ≤ 65535) (hn1 : 1 ≤ (n : Int)) (hn : (n : Int) ≤ 16384)
    (c0 : -4294967296 ≤ count) (c1 : count ≤ 4294967296) :
    Calls Try.prog 10 #[.pointer (some ⟨b, 0, none⟩), .int .i64 count] w fun e w' => e = .returned (.bool (passB lo hi n count)) ∧ ∃ q, w' = w.drewN q := by
  go_enter Try.func10, Try.ntmps10
  go_wp2_with (go_at_call 31; refine (passes_any _ b lo hi n count h h0 h1 h2 h3 hn1 hn c0 c1).mono ?_; rintro e w' ⟨rfl, q, rfl⟩)
  go_ret
  exact ⟨rfl, _, rfl⟩

theorem Try.info36 : (Try.prog.info? 36).map (fun i => (i.zero, i.size, i.bytes)) = some (some (.slice none 0 0), 1, 24) := by kernel_rfl

theorem mk_any (w : World) (lo hi : Int) (n : Nat) (hn1 : 1 ≤ (n : Int)) (hn : (n : Int) ≤ 16384) :
    Calls Try.prog 11 #[.int .u16 lo, .int .u16 hi, .int .i64 n] w fun e w' => ∃ b, e = .returned (.pointer (some ⟨b, 0, none⟩)) ∧ IsInst w' b lo hi n ∧ Below w.heap.size w w' := by
  obtain ⟨i0, hi0, hz0, hz1, hz2⟩ := info_parts Try.info36
  go_enter Try.func11, Try.ntmps11
  go_wp2_with (refine wpList_make_full _ rfl _ _ 59 rfl w.heap.size 36 i0 _ 1 Try.underlying59 hi0 hz0 hz1 _ _ _ _ n rfl rfl rfl rfl (by rw [hz2]; omega) (by unfold maxLen; omega) (Nat.le_refl _) ?_; intro w1 hown hgrow)
  go_ret
  have hb : Below w.heap.size w w1 := (Below.refl _ _).grown hgrow (Nat.le_refl _) (fun k h => by cases h)
  refine ⟨_, rfl, ⟨by simp [go_sem], by simp [go_sem], _, _, _, by simp [go_sem]; rfl, by simp [go_sem]; exact ⟨rfl, rfl⟩⟩, ?_⟩
  exact (hb.alloc hb.size _).alloc (by have := hb.size; simp; omega) _
end Go.Proofs.Qxb6613362a
