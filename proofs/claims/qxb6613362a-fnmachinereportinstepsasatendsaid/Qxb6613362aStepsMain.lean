/-
  THE WALK of FnMachineReportInStepsAsAtEnd.
-/
import Derived.Test.Qxb6613362aOut
import Derived.Deep.RegionHeld3
namespace Go.Proofs.Qxb6613362a
open Go.RowKit
set_option linter.unusedVariables false

set_option maxRecDepth 100000 in
set_option maxHeartbeats 16000000 in
theorem main_in (w : World) (p n t : Nat) (ao bo so eo : Option Addr) (ac bc sc ec : Nat) (g0 g1 : Nat → Bool) (st en : Nat → Int) (ht : t + 1 = n) (hn : n ≤ 32768) (hp : p ≤ 65536)
    (hA : Row1 w ao n (fun i => .bool (g0 i))) (hB : Row1 w bo n (fun i => .bool (g1 i))) (hS : Row1 w so n (fun i => .int .i64 (st i))) (hE : Row1 w eo n (fun i => .int .i64 (en i))) :
    Calls Try.prog 9 #[.int .i64 p, .slice ao n ac, .slice bo n bc, .slice so n sc, .slice eo n ec] w fun e w' => e = .returned (.bool true) ∧ Below w.heap.size w w' := by
  obtain ⟨ab, af, rfl, alt, hAc⟩ := hA (by omega)
  obtain ⟨bb, bf, rfl, blt, hBc⟩ := hB (by omega)
  obtain ⟨sb, sf, rfl, slt, hSc⟩ := hS (by omega)
  obtain ⟨eb, ef, rfl, elt, hEc⟩ := hE (by omega)
  have hn' : (n : Int) ≤ 32768 := by omega
  have hp' : (p : Int) ≤ 65536 := by omega
  have hn1 : (1 : Int) ≤ (n : Int) := by omega
  obtain ⟨L0, hL0⟩ := lead_exists g0 n (by omega)
  obtain ⟨L1, hL1⟩ := lead_exists g1 n (by omega)
  have HA : Hid (Row1 w (some ⟨ab, af, none⟩) n (fun i => .bool (g0 i))) := hA
  have HB : Hid (Row1 w (some ⟨bb, bf, none⟩) n (fun i => .bool (g1 i))) := hB
  have HS : Hid (Row1 w (some ⟨sb, sf, none⟩) n (fun i => .int .i64 (st i))) := hS
  have HE : Hid (Row1 w (some ⟨eb, ef, none⟩) n (fun i => .int .i64 (en i))) := hE
  have HAc : Hid _ := hAc
  have HBc : Hid _ := hBc
  have HSc : Hid _ := hSc
  have HEc : Hid _ := hEc
  clear hA hB hS hE hAc hBc hSc hEc
  go_enter Try.func9, Try.ntmps9
  go_wp2_with (go_at_call 20; refine (bytes20_any _ p _ _ _ _ n ac bc sc ec hn').mono ?_; rintro e w' ⟨rfl, hw⟩; subst hw)
  go_loop [12] (fun i => ∃ k : Nat, k ≤ n ∧ i = .int .i64 k ∧ ∀ i, i < k → g0 i = true → g1 i = true) (fun i => n - (intOf i).toNat)
  case atStart => exact ⟨0, Nat.zero_le _, rfl, fun i hi => by omega⟩
  case round =>
    obtain ⟨k, hk, rfl, hsub⟩ := hrel
    by_cases hlt : (k : Int) < (n : Int)
    · have c1 := HAc.out k (by omega)
      have c2 := HBc.out k (by omega)
      have HSub : Hid _ := hsub
      clear hsub
      have k0 : (0 : Int) ≤ (k : Int) := Int.natCast_nonneg _
      cases hg0 : g0 k <;> cases hg1 : g1 k
      case true.false =>
        rw [hg0] at c1
        rw [hg1] at c2
        go_wp2
        go_ret
        exact ⟨rfl, Below.refl _ _⟩
      all_goals
        rw [hg0] at c1
        rw [hg1] at c2
        go_wp2
        go_round
        case rel =>
          refine ⟨k + 1, by omega, by go_num, fun i hi h => ?_⟩
          by_cases e : i = k
          · rw [e] at h ⊢
            first | exact hg1 | (rw [hg0] at h; cases h)
          · exact HSub.out i (by omega) h
        case measure =>
          simp [intOf]
          omega
    · obtain rfl : n = k := by omega
      have hle := lead_le hL0 hL1 hsub
      clear hsub hlt
      go_wp2_with (first
        | (go_at_call 21; refine (new_any _ p n hp (by omega)).mono ?_; rintro e w1 ⟨M, C, S, rfl, ms1, be1, bM, bC, bS⟩)
        | (go_at_call 22; refine (setChain_any _ M C S p n 0 0 _ _ _ 0 ((n : Int) - 1) ms1).mono ?_; rintro e w2 ⟨rfl, ms2, gr2⟩))
      have be2 : Below w.heap.size w w2 := be1.grown gr2 be1.size (fun k h => by cases h; exact bC)
      have et : (n : Int) - 1 = (t : Int) := by omega
      rw [et] at ms2
      clear et ms1 be1 gr2
      go_loopw [14] (fun i wr => ∃ (k : Nat) (f : Nat → SR), k ≤ n ∧ i = .int .i64 k ∧ MS wr M C S p n ((0 : Nat) : Int) t f (.slice none 0 0) (.slice none 0 0) ∧ (∀ j, j < k → f j = srs g0 st en j) ∧ Below w.heap.size w wr) (fun i _ => n - (intOf i).toNat)
      case atStart => exact ⟨0, _, Nat.zero_le _, rfl, ms2, fun j hj => by omega, be2⟩
      case round =>
        obtain ⟨k, f, hk, rfl, ms, hf, hbel⟩ := hrel
        clear ms2 be2
        by_cases hlt : (k : Int) < (n : Int)
        · have c1 := HAc.out k (by omega)
          have c2 := HSc.out k (by omega)
          have c3 := HEc.out k (by omega)
          rw [← hbel.cell (by exact alt)] at c1
          rw [← hbel.cell (by exact slt)] at c2
          rw [← hbel.cell (by exact elt)] at c3
          have hsz := hbel.size
          have k0 : (0 : Int) ≤ (k : Int) := Int.natCast_nonneg _
          have hw1 : IntKind.i64.wrap ((k : Int) + 1) = (k : Int) + 1 := by rw [IntKind.wrap_i64]; omega
          have hw2 : IntKind.i32.wrap ((k : Int) + 1) = (k : Int) + 1 := by rw [IntKind.wrap_i32]; omega
          have hk' : k < n := by omega
          have HF : Hid _ := hf
          have HBel : Hid _ := hbel
          clear hf hbel
          go_wp2_with fail
          go_region_held3 (fun w' => w'.cell? ⟨ab, af + k, none⟩ = some (.bool (g0 k)) ∧ w'.cell? ⟨sb, sf + k, none⟩ = some (.int .i64 (st k)) ∧ w'.cell? ⟨eb, ef + k, none⟩ = some (.int .i64 (en k)))
            (first
              | go_keep
              | (go_split_ands; refine ⟨?_, ?_, ?_⟩ <;> (rw [gr.cell_far _ (by simp; omega) (by simp; omega)]; assumption)))
            (first
              | (go_at_call 23; refine (setSearch_any _ M C S p n _ _ f _ _ k hk' (g0 k) (st k) (en k) ((k : Int) + 1) ms.drew).mono ?_; rintro e w3 ⟨rfl, ms3, gr⟩))
          have R : Below w.heap.size w w3 := (HBel.out.drew).grown gr hsz (fun k h => by cases h; exact bS)
          clear gr ms c1 c2 c3
          go_wp2
          go_roundw
          case rel =>
            refine ⟨k + 1, _, by omega, by go_num, ms3, fun j hj => ?_, R⟩
            by_cases e : j = k
            · simp [e, srs]
            · simp only [if_neg e]
              exact HF.out j (by omega)
          case measure =>
            simp [intOf]
            omega
        · obtain rfl : n = k := by omega
          have msr := ms.congr (f' := srs g0 st en) hf
          clear hlt hf ms hk
          have mo0 : wr.ownsRow w.heap.size 110 3 (.slice none 0 0) 0 (mcells p st en 0) := World.ownsRow_nil _ _ _ _
          have fo0 : wr.ownsRow w.heap.size 21 1 (.slice none 0 0) 0 (fcells 0) := World.ownsRow_nil _ _ _ _
          have hl0 := hL0.le
          have hl1 := hL1.le
          have hl0' : (L0 : Int) ≤ 32768 := by omega
          go_wp2_with (first
            | (go_at_call 24; refine (zreport_any _ w.heap.size M C S p n t 0 L0 g0 st en _ _ (by omega) hp ht hL0 (Nat.zero_le _) msr mo0 fo0 bM bC).mono ?_; rintro e w4 ⟨rfl, mv, fv, ms4, mo4, fo4, be4⟩; have bt4 := hbel.trans be4; obtain ⟨mo, mc, rfl, rm⟩ := matches_shape mo4; obtain ⟨fo, fc, rfl, rf⟩ := free_shape fo4)
            | (go_at_call 25; refine (leading_any _ _ n ac L0 g0 (HA.out.later bt4) hL0 (by omega)).mono ?_; rintro e w' ⟨rfl, hw⟩; subst hw)
            | (go_at_call 26; refine (matches_any _ M C S p n _ _ _ _ _ ms4).mono ?_; rintro e w' ⟨rfl, hw⟩; subst hw)
            | (go_at_call 27; refine (free_any _ M C S p n _ _ _ _ _ ms4).mono ?_; rintro e w' ⟨rfl, hw⟩; subst hw)
            | (go_at_call 28; refine (head_any _ M C S p n _ _ _ _ _ ms4).mono ?_; rintro e w' ⟨rfl, hw⟩; subst hw)
            | (go_at_call 29; refine (matchesAre_any _ mo _ _ L0 p n mc sc ec st en rm (HS.out.later bt4) (HE.out.later bt4) (by omega) (by omega) hp).mono ?_; rintro e w5 ⟨rfl, be5⟩)
            | (go_at_call 30; refine (freeAre_any _ fo L0 fc (rf.later be5) (by omega)).mono ?_; rintro e w' ⟨rfl, hw⟩; subst hw))
          have bt5 := below_nx bt4 be5
          have ms5 := ms4.below be5
          have mo5 := own_later mo4 be5
          have fo5 := own_later fo4 be5
          clear msr mo0 fo0 hbel ms4 mo4 fo4 be4 bt4 rm rf be5
          go_loopw [18] (fun i wr => ∃ (k : Nat) (f : Nat → SR), k ≤ n ∧ i = .int .i64 k ∧ MS wr M C S p n L0 t f (.slice mo L0 mc) (.slice fo L0 fc) ∧ wr.ownsRow w.heap.size 110 3 (.slice mo L0 mc) L0 (mcells p st en L0) ∧ wr.ownsRow w.heap.size 21 1 (.slice fo L0 fc) L0 (fcells L0) ∧ (∀ j, j < k → f j = srs g1 st en j) ∧ Below w.heap.size w wr) (fun i _ => n - (intOf i).toNat)
          case atStart => exact ⟨0, _, Nat.zero_le _, rfl, ms5, mo5, fo5, fun j hj => by omega, bt5⟩
          case round =>
            obtain ⟨k, f, hk, rfl, ms, mo6, fo6, hf, hbel⟩ := hrel
            clear ms5 mo5 fo5 bt5
            by_cases hlt : (k : Int) < (n : Int)
            · have c1 := HBc.out k (by omega)
              have c2 := HSc.out k (by omega)
              have c3 := HEc.out k (by omega)
              rw [← hbel.cell (by exact blt)] at c1
              rw [← hbel.cell (by exact slt)] at c2
              rw [← hbel.cell (by exact elt)] at c3
              have hsz := hbel.size
              have k0 : (0 : Int) ≤ (k : Int) := Int.natCast_nonneg _
              have hw1 : IntKind.i64.wrap ((k : Int) + 1) = (k : Int) + 1 := by rw [IntKind.wrap_i64]; omega
              have hw2 : IntKind.i32.wrap ((k : Int) + 1) = (k : Int) + 1 := by rw [IntKind.wrap_i32]; omega
              have hk' : k < n := by omega
              have HF : Hid _ := hf
              have HBel : Hid _ := hbel
              have HM : Hid (wr.ownsRow w.heap.size 110 3 (.slice mo L0 mc) L0 (mcells p st en L0)) := mo6
              have HG : Hid (wr.ownsRow w.heap.size 21 1 (.slice fo L0 fc) L0 (fcells L0)) := fo6
              clear hf hbel mo6 fo6
              go_wp2_with fail
              go_region_held3 (fun w' => w'.cell? ⟨bb, bf + k, none⟩ = some (.bool (g1 k)) ∧ w'.cell? ⟨sb, sf + k, none⟩ = some (.int .i64 (st k)) ∧ w'.cell? ⟨eb, ef + k, none⟩ = some (.int .i64 (en k)))
                (first
                  | go_keep
                  | (go_split_ands; refine ⟨?_, ?_, ?_⟩ <;> (rw [gr.cell_far _ (by simp; omega) (by simp; omega)]; assumption)))
                (first
                  | (go_at_call 23; refine (setSearch_any _ M C S p n _ _ f _ _ k hk' (g1 k) (st k) (en k) ((k : Int) + 1) ms.drew).mono ?_; rintro e w3 ⟨rfl, ms3, gr⟩))
              have R : Below w.heap.size w w3 := (HBel.out.drew).grown gr hsz (fun k h => by cases h; exact bS)
              have R2 := own_search (HM.out.drew) ms.drew (by decide) gr
              have R3 := own_search (HG.out.drew) ms.drew (by decide) gr
              clear gr ms c1 c2 c3
              go_wp2
              go_roundw
              case rel =>
                refine ⟨k + 1, _, by omega, by go_num, ms3, R2, R3, fun j hj => ?_, R⟩
                by_cases e : j = k
                · simp [e, srs]
                · simp only [if_neg e]
                  exact HF.out j (by omega)
              case measure =>
                simp [intOf]
                omega
            · obtain rfl : n = k := by omega
              have msr := ms.congr (f' := srs g1 st en) hf
              clear hlt hf ms hk
              have hl1' : (L1 : Int) ≤ 32768 := by omega
              go_wp2_with (first
                | (go_at_call 24; refine (zreport_any _ w.heap.size M C S p n t L0 L1 g1 st en _ _ (by omega) hp ht hL1 hle msr mo6 fo6 bM bC).mono ?_; rintro e w4 ⟨rfl, mv, fv, ms4, mo4, fo4, be4⟩; have bt4 := hbel.trans be4; obtain ⟨mo', mc', rfl, rm⟩ := matches_shape mo4; obtain ⟨fo', fc', rfl, rf⟩ := free_shape fo4)
                | (go_at_call 25; refine (leading_any _ _ n bc L1 g1 (HB.out.later bt4) hL1 (by omega)).mono ?_; rintro e w' ⟨rfl, hw⟩; subst hw)
                | (go_at_call 26; refine (matches_any _ M C S p n _ _ _ _ _ ms4).mono ?_; rintro e w' ⟨rfl, hw⟩; subst hw)
                | (go_at_call 27; refine (free_any _ M C S p n _ _ _ _ _ ms4).mono ?_; rintro e w' ⟨rfl, hw⟩; subst hw)
                | (go_at_call 28; refine (head_any _ M C S p n _ _ _ _ _ ms4).mono ?_; rintro e w' ⟨rfl, hw⟩; subst hw)
                | (go_at_call 29; refine (matchesAre_any _ mo' _ _ L1 p n mc' sc ec st en rm (HS.out.later bt4) (HE.out.later bt4) (by omega) (by omega) hp).mono ?_; rintro e w5 ⟨rfl, be5⟩)
                | (go_at_call 30; refine (freeAre_any _ fo' L1 fc' (rf.later be5) (by omega)).mono ?_; rintro e w' ⟨rfl, hw⟩; subst hw))
              go_ret
              exact ⟨rfl, below_nx bt4 be5⟩
end Go.Proofs.Qxb6613362a
