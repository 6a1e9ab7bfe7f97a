/-
  THE WALKS of sameASCII, ZZsameASCII, zzLowerASCII, and THE PLAIN LAWS of sameASCII over all bytes.
-/
import Derived.Test.Qxb6612931aRows
import Derived.WalkKit
import Derived.WalkSpells
import Derived.Laws.Bits64
namespace Go.Proofs.Qxb6612931a
open Go.RowKit
set_option linter.unusedVariables false

/-- What sameASCII answers. -/
def sameN (a b : Nat) (ic : Bool) : Bool := Nat.beq a b || (ic && Nat.beq (Nat.xor a b) 32 && Nat.ble 97 (Nat.lor a 32) && Nat.ble (Nat.lor a 32) 122)
/-- What zzLowerASCII answers. -/
def lowN (a : Nat) : Nat := bif Nat.ble 65 a && Nat.ble a 90 then a + 32 else a
def letterN (a : Nat) : Bool := (Nat.ble 65 a && Nat.ble a 90) || (Nat.ble 97 a && Nat.ble a 122)
/-- How many of the first k bytes are the same as a. -/
def countN (a : Nat) (ic : Bool) : Nat → Nat
  | 0 => 0
  | k + 1 => bif sameN a k ic then countN a ic k + 1 else countN a ic k

def allBelow (p : Nat → Bool) : Nat → Bool
  | 0 => true
  | k + 1 => p k && allBelow p k

theorem allBelow_at {p : Nat → Bool} {n : Nat} (h : allBelow p n = true) {k : Nat} (hk : k < n) : p k = true := by
  induction n with
  | zero => omega
  | succ m ih =>
    simp only [allBelow, Bool.and_eq_true] at h
    by_cases e : k = m
    · rw [e]
      exact h.1
    · exact ih h.2 (by omega)

def pairOk (a b : Nat) (ic : Bool) : Bool := (sameN a b ic == sameN b a ic) && (!(sameN a b ic) || (Nat.beq b a || Nat.beq b (Nat.xor a 32))) && (!ic || (sameN a b ic == sameN (lowN a) (lowN b) false))
def countOk (a : Nat) (ic : Bool) : Bool := Nat.beq (countN a ic 256) (bif ic && letterN a then 2 else 1)

theorem all_pairs : allBelow (fun a => allBelow (fun b => pairOk a b true && pairOk a b false) 256) 256 = true := by decide +kernel
theorem all_counts : allBelow (fun a => countOk a true && countOk a false) 256 = true := by decide +kernel

theorem pair_at (a b : Nat) (ic : Bool) (ha : a < 256) (hb : b < 256) : pairOk a b ic = true := by
  have h := allBelow_at (allBelow_at all_pairs ha) hb
  simp only [Bool.and_eq_true] at h
  cases ic
  · exact h.2
  · exact h.1
theorem count_at (a : Nat) (ic : Bool) (ha : a < 256) : countN a ic 256 = bif ic && letterN a then 2 else 1 := by
  have h := allBelow_at all_counts ha
  simp only [Bool.and_eq_true] at h
  cases ic
  · exact Nat.eq_of_beq_eq_true h.2
  · exact Nat.eq_of_beq_eq_true h.1

theorem bits_xor_u8_nat (a b : Nat) (ha : a < 256) (hb : b < 256) : bits .xor .u8 (a : Int) (b : Int) = ((Nat.xor a b : Nat) : Int) := by
  have hx : a ^^^ b < 2 ^ 8 := Nat.xor_lt_two_pow (by omega) (by omega)
  have h1 : (BitVec.ofInt 8 (a : Int)).toNat = a := by
    rw [BitVec.ofInt_natCast, BitVec.toNat_ofNat]; exact Nat.mod_eq_of_lt (by omega)
  have h2 : (BitVec.ofInt 8 (b : Int)).toNat = b := by
    rw [BitVec.ofInt_natCast, BitVec.toNat_ofNat]; exact Nat.mod_eq_of_lt (by omega)
  show IntKind.u8.wrap ((BitVec.ofInt 8 (a : Int) ^^^ BitVec.ofInt 8 (b : Int)).toNat : Int) = ((a ^^^ b : Nat) : Int)
  rw [BitVec.toNat_xor, h1, h2]
  simp [IntKind.wrap, IntKind.bits, IntKind.signed]
  omega

theorem bits_or_u8_nat (a b : Nat) (ha : a < 256) (hb : b < 256) : bits .or .u8 (a : Int) (b : Int) = ((Nat.lor a b : Nat) : Int) := by
  have hx : a ||| b < 2 ^ 8 := Nat.or_lt_two_pow (by omega) (by omega)
  have h1 : (BitVec.ofInt 8 (a : Int)).toNat = a := by
    rw [BitVec.ofInt_natCast, BitVec.toNat_ofNat]; exact Nat.mod_eq_of_lt (by omega)
  have h2 : (BitVec.ofInt 8 (b : Int)).toNat = b := by
    rw [BitVec.ofInt_natCast, BitVec.toNat_ofNat]; exact Nat.mod_eq_of_lt (by omega)
  show IntKind.u8.wrap ((BitVec.ofInt 8 (a : Int) ||| BitVec.ofInt 8 (b : Int)).toNat : Int) = ((a ||| b : Nat) : Int)
  rw [BitVec.toNat_or, h1, h2]
  simp [IntKind.wrap, IntKind.bits, IntKind.signed]
  omega

theorem ret_bool {a b : Bool} (h : a = b) : Ending.returned (.bool a) = .returned (.bool b) := by rw [h]

theorem same_any (w : World) (a b : Nat) (ic : Bool) (ha : a < 256) (hb : b < 256) :
    Calls Try.prog 7 #[.int .u8 (a : Int), .int .u8 (b : Int), .bool ic] w fun e w' => e = .returned (.bool (sameN a b ic)) ∧ w' = w := by
  have hx := bits_xor_u8_nat a b ha hb
  have ho : bits .or .u8 (a : Int) 32 = ((Nat.lor a 32 : Nat) : Int) := bits_or_u8_nat a 32 ha (by decide)
  have hs : sameN a b ic = (decide ((a : Int) = b) || (ic && decide (((Nat.xor a b : Nat) : Int) = 32) && decide (97 ≤ ((Nat.lor a 32 : Nat) : Int)) && decide (((Nat.lor a 32 : Nat) : Int) ≤ 122))) := by
    unfold sameN
    generalize Nat.xor a b = x
    generalize Nat.lor a 32 = l
    have e1 : Nat.beq a b = decide ((a : Int) = b) := by rw [Bool.eq_iff_iff, decide_eq_true_eq, Nat.beq_eq]; omega
    have e2 : Nat.beq x 32 = decide ((x : Int) = 32) := by rw [Bool.eq_iff_iff, decide_eq_true_eq, Nat.beq_eq]; omega
    have e3 : Nat.ble 97 l = decide (97 ≤ (l : Int)) := by rw [Bool.eq_iff_iff, decide_eq_true_eq, Nat.ble_eq]; omega
    have e4 : Nat.ble l 122 = decide ((l : Int) ≤ 122) := by rw [Bool.eq_iff_iff, decide_eq_true_eq, Nat.ble_eq]; omega
    rw [e1, e2, e3, e4]
  rw [hs]
  clear hs
  generalize Nat.xor a b = x at *
  generalize Nat.lor a 32 = l at *
  cases ic
  · go_enter Try.func7, Try.ntmps7
    go_wp2
    all_goals
      go_ret
      refine ⟨ret_bool ?_, rfl⟩
      rw [Bool.eq_iff_iff]
      simp
      try omega
  · go_enter Try.func7, Try.ntmps7
    go_wp2
    all_goals
      go_ret
      refine ⟨ret_bool ?_, rfl⟩
      rw [Bool.eq_iff_iff]
      simp
      try omega

theorem zsame_any (w : World) (a b : Nat) (ic : Bool) (ha : a < 256) (hb : b < 256) :
    Calls Try.prog 5 #[.int .u8 (a : Int), .int .u8 (b : Int), .bool ic] w fun e w' => e = .returned (.bool (sameN a b ic)) ∧ w' = w := by
  go_enter Try.func5, Try.ntmps5
  go_wp2_with (go_at_call 7; refine (same_any _ a b ic ha hb).mono ?_; rintro e w' ⟨rfl, rfl⟩)
  go_ret
  exact ⟨rfl, rfl⟩

theorem low_any (w : World) (a : Nat) (ha : a < 256) :
    Calls Try.prog 6 #[.int .u8 (a : Int)] w fun e w' => e = .returned (.int .u8 ((lowN a : Nat) : Int)) ∧ w' = w := by
  by_cases h1 : 65 ≤ (a : Int)
  · by_cases h2 : (a : Int) ≤ 90
    · have e : lowN a = a + 32 := by
        have q1 : Nat.ble 65 a = true := Nat.ble_eq_true_of_le (by omega)
        have q2 : Nat.ble a 90 = true := Nat.ble_eq_true_of_le (by omega)
        simp only [lowN, q1, q2]
        rfl
      rw [e]
      go_enter Try.func6, Try.ntmps6
      go_wp2
      go_ret
      exact ⟨rfl, rfl⟩
    · have e : lowN a = a := by
        have q2 : Nat.ble a 90 = false := by rw [Bool.eq_false_iff]; intro h; have := Nat.le_of_ble_eq_true h; omega
        simp [lowN, q2]
      rw [e]
      go_enter Try.func6, Try.ntmps6
      go_wp2
      go_ret
      exact ⟨rfl, rfl⟩
  · have e : lowN a = a := by
      have q2 : Nat.ble 65 a = false := by rw [Bool.eq_false_iff]; intro h; have := Nat.le_of_ble_eq_true h; omega
      simp [lowN, q2]
    rw [e]
    go_enter Try.func6, Try.ntmps6
    go_wp2
    go_ret
    exact ⟨rfl, rfl⟩

theorem low_lt (a : Nat) (ha : a < 256) : lowN a < 256 := by
  unfold lowN
  cases h : (Nat.ble 65 a && Nat.ble a 90)
  · exact ha
  · simp only [Bool.and_eq_true] at h
    have := Nat.le_of_ble_eq_true h.2
    simp
    omega
end Go.Proofs.Qxb6612931a
