/-
  THE WALKS of zzCloneBytes and zzBytesEq.
-/
import Derived.Test.Qxb6609565aItem
import Derived.LoopTactic
import Derived.Deep.QuietTactic
import Derived.BigQuiet
import Derived.Deep.Light
namespace Go.Proofs.Qxb6609565a
open Go.RowKit
set_option linter.unusedVariables false

theorem Try.info5 : (Try.prog.info? 5).map (fun i => (i.zero, i.size, i.bytes)) = some (some (.int .u8 0), 1, 1) := by kernel_rfl

/-- The n bytes behind the address can be read in w. -/
def Bytes (w : World) (ao : Option Addr) (n : Nat) : Prop := 0 < n → ∃ b o, ao = some ⟨b, o, none⟩ ∧ b < w.heap.size ∧ ∀ i, i < n → ∃ z, w.cell? ⟨b, o + i, none⟩ = some (.int .u8 z)

theorem Bytes.later {w w' : World} {ao : Option Addr} {n : Nat} (h : Bytes w ao n) (hb : Below w.heap.size w w') : Bytes w' ao n := by
  intro h0
  obtain ⟨b, o, e, hlt, hc⟩ := h h0
  refine ⟨b, o, e, Nat.lt_of_lt_of_le hlt hb.size, fun i hi => ?_⟩
  obtain ⟨z, hz⟩ := hc i hi
  exact ⟨z, by rw [hb.cell (by exact hlt)]; exact hz⟩

theorem Bytes.drewN {w : World} {ao : Option Addr} {n : Nat} (h : Bytes w ao n) (q : Nat) : Bytes (w.drewN q) ao n := h

set_option maxHeartbeats 1000000 in
theorem eq_self (w : World) (ao : Option Addr) (n cap : Nat) (h : Bytes w ao n) (hn : n ≤ 131072) :
    Calls Try.prog 7 #[.slice ao n cap, .slice ao n cap] w fun e w' => e = .returned (.bool true) ∧ ∃ q, w' = w.drewN q := by
  go_enter Try.func7, Try.ntmps7
  go_wp2
  go_loopw [5] (fun i wr => ∃ k q : Nat, k ≤ n ∧ i = .int .i64 k ∧ wr = w.drewN q) (fun i _ => n - (intOf i).toNat)
  case atStart => exact ⟨0, 0, Nat.zero_le _, rfl, rfl⟩
  case round =>
    obtain ⟨k, q, hk, rfl, rfl⟩ := hrel
    by_cases hlt : (k : Int) < (n : Int)
    · have hlt' : k < n := by omega
      obtain ⟨b, o, rfl, hblt, hc⟩ := h (by omega)
      obtain ⟨z, hz⟩ := hc k hlt'
      clear hc h
      have k0 : (0 : Int) ≤ (k : Int) := Int.natCast_nonneg _
      go_wp2_with fail
      go_quiet (fail)
      go_wp2
      go_roundw
      case rel => exact ⟨k + 1, _, by omega, by go_num, rfl⟩
      case measure =>
        simp [intOf]
        omega
    · obtain rfl : k = n := by omega
      go_wp2
      go_ret
      exact ⟨rfl, q, rfl⟩

theorem made_ints (n : Nat) : ∀ u ∈ (madeCells (Value.int .u8 0).cells (n * 1)).toList, ∃ z, u = .int .u8 z := by
  intro u hu
  have e : (Value.int .u8 0).cells = #[.int .u8 0] := rfl
  rw [e, toList_madeCells_one] at hu
  exact ⟨0, (List.mem_replicate.1 hu).2⟩

set_option maxHeartbeats 1000000 in
theorem clone_some (w : World) (ad : Addr) (n cap : Nat) (h : Bytes w (some ad) n) (hn : n ≤ 131072) :
    Calls Try.prog 5 #[.slice (some ad) n cap] w fun e w' => e = .returned (.slice (some ⟨w.heap.size, 0, none⟩) n n) ∧ Bytes w' (some ⟨w.heap.size, 0, none⟩) n ∧ Below w.heap.size w w' := by
  have hn' : (n : Int) ≤ 131072 := by omega
  have e1 := eqn22
  obtain ⟨i0, hi0, hz0, hz1, hz2⟩ := info_parts Try.info5
  go_enter Try.func5, Try.ntmps5
  go_wp2_with (refine wpList_make_full _ rfl _ _ 22 rfl w.heap.size 5 i0 _ 1 Try.underlying22 hi0 hz0 hz1 _ _ _ _ n rfl rfl rfl rfl (by rw [hz2]; omega) (by unfold maxLen; omega) (Nat.le_refl _) ?_; intro w0 hown0 hgrow0)
  have hb0 : Below w.heap.size w w0 := (Below.refl _ _).grown hgrow0 (Nat.le_refl _) (fun k h => by cases h)
  have hz : ∀ u ∈ (madeCells (Value.int .u8 0).cells (n * 1)).toList, ∃ z, u = .int .u8 z := made_ints n
  have HZ : Hid _ := hz
  clear hz
  go_loopw [4] (fun i wr => ∃ (k : Nat) (xs : List Value), k ≤ n ∧ i = .int .i64 k ∧ wr.ownsRow w.heap.size 5 1 (.slice (some ⟨w.heap.size, 0, none⟩) n n) n xs ∧ (∀ u ∈ xs, ∃ z, u = .int .u8 z) ∧ Below w.heap.size w wr) (fun i _ => n - (intOf i).toNat)
  case atStart => exact ⟨0, _, Nat.zero_le _, rfl, hown0, HZ.out, hb0⟩
  case round =>
    obtain ⟨k, xs, hk, rfl, hown, hx, hbel⟩ := hrel
    clear hown0 hgrow0 hb0 HZ
    by_cases hlt : (k : Int) < (n : Int)
    · have hlt' : k < n := by omega
      obtain ⟨b, o, e, hblt, hc⟩ := h (by omega)
      obtain rfl : ad = ⟨b, o, none⟩ := by simpa using e
      obtain ⟨z, hz⟩ := hc k hlt'
      rw [← hbel.cell (by exact hblt)] at hz
      have hl : xs.length = n := by simpa using hown.1
      have hold := hown.cellAt k (by omega)
      rw [List.getElem?_eq_getElem (by omega)] at hold
      obtain ⟨u, hu⟩ : ∃ u, xs[k] = u := ⟨_, rfl⟩
      rw [hu] at hold
      have hfr := hown.frozenAt k
      obtain ⟨st1, st2⟩ := hown.stored k (.int .u8 z)
      have hx' : ∀ u ∈ xs.set k (.int .u8 z), ∃ z, u = .int .u8 z := by
        intro u hu
        rcases List.mem_or_eq_of_mem_set hu with h | h
        · exact hx u h
        · exact ⟨z, h⟩
      have HX : Hid _ := hx'
      have hb3 : Below w.heap.size w (wr.setCell ⟨w.heap.size, k, none⟩ (.int .u8 z)) := hbel.setCell (Nat.le_refl _) _
      have ST : Hid _ := st1
      have HB3 : Hid _ := hb3
      have k0 : (0 : Int) ≤ (k : Int) := Int.natCast_nonneg _
      clear hc hx st1 st2 hx' hb3 hu hl e
      go_wp2
      go_roundw
      case rel => exact ⟨k + 1, _, by omega, by go_num, ST.out, HX.out, HB3.out⟩
      case measure =>
        simp [intOf]
        omega
    · obtain rfl : k = n := by omega
      go_wp2
      go_ret
      refine ⟨rfl, fun h0 => ⟨w.heap.size, 0, rfl, ?_, fun i hi => ?_⟩, hbel⟩
      · have hc := hown.cellAt 0 (by omega)
        rw [List.getElem?_eq_getElem (by rw [hown.1]; omega)] at hc
        exact World.block_lt_of_cell? wr _ hc
      · have hc := hown.cellAt i (by omega)
        rw [List.getElem?_eq_getElem (by rw [hown.1]; omega)] at hc
        have hi' : i < xs.length := by rw [hown.1]; omega
        obtain ⟨z, hz⟩ := hx xs[i] (List.getElem_mem hi')
        rw [hz] at hc
        exact ⟨z, by rw [Nat.zero_add]; exact hc⟩

theorem clone_nil (w : World) : Calls Try.prog 5 #[.slice none 0 0] w fun e w' => e = .returned (.slice none 0 0) ∧ w = w' := by
  have e1 := eqn22
  go_enter Try.func5, Try.ntmps5
  go_wp2
  go_ret
  exact ⟨rfl, rfl⟩

/-- zzCloneBytes, nil or not. -/
theorem clone_any (w : World) (ao : Option Addr) (n cap : Nat) (h : Bytes w ao n) (hnil : ao = none → n = 0 ∧ cap = 0) (hn : n ≤ 131072) :
    Calls Try.prog 5 #[.slice ao n cap] w fun e w' => ∃ ao' cap', e = .returned (.slice ao' n cap') ∧ ao'.isNone = ao.isNone ∧ Bytes w' ao' n ∧ Below w.heap.size w w' := by
  cases ao with
  | none =>
    obtain ⟨rfl, rfl⟩ := hnil rfl
    refine (clone_nil w).mono ?_
    rintro e w' ⟨rfl, rfl⟩
    exact ⟨none, 0, rfl, rfl, fun h => absurd h (by omega), Below.refl _ _⟩
  | some ad =>
    refine (clone_some w ad n cap h hn).mono ?_
    rintro e w' ⟨rfl, hB, hb⟩
    exact ⟨_, _, rfl, rfl, hB, hb⟩
end Go.Proofs.Qxb6609565a
