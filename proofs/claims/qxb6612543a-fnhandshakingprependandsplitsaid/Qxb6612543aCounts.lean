/-
  THE WALK of FnHandshakingCounts.
-/
import Derived.Test.Qxb6612543aHsOf
namespace Go.Proofs.Qxb6612543a
open Go.RowKit
set_option linter.unusedVariables false

theorem Try.info25 : (Try.prog.info? 25).map (fun i => (i.zero, i.size, i.bytes)) = some (some (.agg #[.bool false, .bool false, .bool false]), 3, 3) := by kernel_rfl

theorem entCells_append (l m : List E3) : entCells (l ++ m) = entCells l ++ entCells m := by simp [entCells]
theorem entCells_oneCell (l : List E3) : ∀ u ∈ entCells l, u.oneCell' = true := by
  intro u hu
  simp only [entCells, List.mem_flatMap] at hu
  obtain ⟨e, -, he⟩ := hu
  simp at he
  rcases he with rfl | rfl | rfl <;> rfl

theorem IsEnts.nil {w : World} {ao : Option Addr} {n cap : Nat} {l : List E3} (h : IsEnts w (.slice ao n cap) l) : ao = none → n = 0 ∧ cap = 0 := by
  obtain ⟨ao', cap', e, h1, h2⟩ := h
  cases e
  exact h1
theorem IsEnts.cells {w : World} {ao : Option Addr} {n cap : Nat} {l : List E3} (h : IsEnts w (.slice ao n cap) l) : ∀ ad, ao = some ad → ∀ j u, (entCells l)[j]? = some u → w.cell? (ad.add j) = some u := by
  obtain ⟨ao', cap', e, h1, h2⟩ := h
  cases e
  intro ad had j u hu
  have h0 : 0 < l.length := by
    have := (List.getElem?_eq_some_iff.1 hu).1
    rw [entCells_length] at this
    omega
  obtain ⟨b, o, e, -, hc⟩ := h2 h0
  rw [had] at e
  obtain rfl : ad = ⟨b, o, none⟩ := by simpa using e
  have hadd : (⟨b, o, none⟩ : Addr).add j = ⟨b, o + j, none⟩ := by unfold Addr.add; split <;> simp_all
  rw [hadd]
  exact hc j u hu

theorem isEnts_of_own {w : World} {base B n cap : Nat} {l : List E3} (h : w.ownsRow base 25 3 (.slice (some ⟨B, 0, none⟩) n cap) n (entCells l)) (hl : l.length = n) : IsEnts w (.slice (some ⟨B, 0, none⟩) n cap) l := by
  subst hl
  refine ⟨_, _, rfl, fun h => (by cases h), fun h0 => ⟨B, 0, rfl, ?_, fun j u hu => ?_⟩⟩
  · rcases h.2 with ⟨x, -⟩ | ⟨g, cp, cur, hv, -, hh, -⟩
    · cases x
    · have hv' : B = g ∧ cap = cp := by simpa using hv
      rw [hv'.1]
      exact lt_of_block hh
  · have hj := (List.getElem?_eq_some_iff.1 hu).1
    rw [entCells_length] at hj
    rw [Nat.zero_add, h.cellAt j hj]
    exact hu

def cntR (l : List E3) : Nat := l.countP fun e => e.sh
def cntS (l : List E3) : Nat := l.countP fun e => e.sh && (e.st && !e.pr)

theorem cntR_succ (l : List E3) (k : Nat) (h : k < l.length) (a b c : Bool) (he : l[k] = ⟨a, b, c⟩) : cntR (l.take (k + 1)) = cntR (l.take k) + bif a then 1 else 0 := by
  rw [take_succ' l k h, he]
  unfold cntR
  rw [List.countP_append, List.countP_singleton]
  cases a <;> rfl
theorem cntS_succ (l : List E3) (k : Nat) (h : k < l.length) (a b c : Bool) (he : l[k] = ⟨a, b, c⟩) : cntS (l.take (k + 1)) = cntS (l.take k) + bif a && (b && !c) then 1 else 0 := by
  rw [take_succ' l k h, he]
  unfold cntS
  rw [List.countP_append, List.countP_singleton]
  cases a <;> cases b <;> cases c <;> rfl
theorem cntR_le (l : List E3) (k : Nat) : cntR (l.take k) ≤ k := Nat.le_trans List.countP_le_length (by simp; omega)
theorem cntS_le (l : List E3) (k : Nat) : cntS (l.take k) ≤ k := Nat.le_trans List.countP_le_length (by simp; omega)

theorem cntR_cases (l : List E3) : (runB l = true ∧ (0 : Int) < (cntR l : Int)) ∨ (runB l = false ∧ cntR l = 0) := by
  cases h : runB l
  · refine .inr ⟨rfl, ?_⟩
    unfold cntR
    rw [List.countP_eq_zero]
    intro e he h1
    have : runB l = true := List.any_eq_true.2 ⟨e, he, h1⟩
    rw [h] at this
    cases this
  · refine .inl ⟨rfl, ?_⟩
    obtain ⟨e, he, h1⟩ := List.any_eq_true.1 h
    have : 0 < cntR l := List.countP_pos_iff.2 ⟨e, he, h1⟩
    omega
theorem cntS_cases (l : List E3) : (stB l = true ∧ (0 : Int) < (cntS l : Int)) ∨ (stB l = false ∧ cntS l = 0) := by
  cases h : stB l
  · refine .inr ⟨rfl, ?_⟩
    unfold cntS
    rw [List.countP_eq_zero]
    intro e he h1
    have : stB l = true := List.any_eq_true.2 ⟨e, he, h1⟩
    rw [h] at this
    cases this
  · refine .inl ⟨rfl, ?_⟩
    obtain ⟨e, he, h1⟩ := List.any_eq_true.1 h
    have : 0 < cntS l := List.countP_pos_iff.2 ⟨e, he, h1⟩
    omega

theorem both_cases (l : List E3) :
    ((runB l = true ∧ (0 : Int) < (cntR l : Int)) ∧ (stB l = true ∧ (0 : Int) < (cntS l : Int)))
    ∨ ((runB l = true ∧ (0 : Int) < (cntR l : Int)) ∧ (stB l = false ∧ cntS l = 0))
    ∨ ((runB l = false ∧ cntR l = 0) ∧ (stB l = true ∧ (0 : Int) < (cntS l : Int)))
    ∨ ((runB l = false ∧ cntR l = 0) ∧ (stB l = false ∧ cntS l = 0)) := by
  rcases cntR_cases l with h | h <;> rcases cntS_cases l with h' | h'
  · exact .inl ⟨h, h'⟩
  · exact .inr (.inl ⟨h, h'⟩)
  · exact .inr (.inr (.inl ⟨h, h'⟩))
  · exact .inr (.inr (.inr ⟨h, h'⟩))

theorem rev_step (l : List E3) (m : Nat) (h : m < l.length) (a b c : Bool) (he : l[m] = ⟨a, b, c⟩) : entCells (l.drop m).reverse = entCells (l.drop (m + 1)).reverse ++ [.bool a, .bool b, .bool c] := by
  rw [List.drop_eq_getElem_cons h, List.reverse_cons, entCells_append, he]
  rfl

theorem twice_any (w : World) (base g n c : Nat) (l : List E3) (R S : Bool) (hR : runB l = R) (hS : stB l = S) (hown : w.ownsRow base 25 3 (.slice (some ⟨g, 0, none⟩) (n + n) c) (n + n) (entCells l ++ entCells l)) (hl : l.length = n) (h : n ≤ 65536) :
    Calls Try.prog 6 #[.slice (some ⟨g, 0, none⟩) (n + n) c] w fun e w' => e = .returned (.tuple #[.bool R, .bool S]) ∧ Below w.heap.size w w' := by
  rw [← entCells_append] at hown
  have h6 := hs_any w _ (l ++ l) (isEnts_of_own hown (by simp; omega)) (by simp; omega)
  rw [runB_append, stB_append, hR, hS, Bool.or_self, Bool.or_self] at h6
  exact h6

theorem bytes_any (w : World) (ao : Option Addr) (n cap : Nat) (hn : (n : Int) ≤ 1048576) :
    Calls Try.prog 5 #[.slice ao n cap] w fun e w' => e = .returned (.bool true) ∧ w = w' := by
  go_enter Try.func5, Try.ntmps5
  go_wp2
  go_ret
  exact ⟨rfl, rfl⟩
theorem bytes_no (w : World) (ao : Option Addr) (n cap : Nat) (hn : (1048576 : Int) < (n : Int)) :
    Calls Try.prog 5 #[.slice ao n cap] w fun e w' => e = .returned (.bool false) ∧ w = w' := by
  go_enter Try.func5, Try.ntmps5
  go_wp2
  go_ret
  exact ⟨rfl, rfl⟩

theorem counts_big (w : World) (ao : Option Addr) (n cap : Nat) (hn : (65536 : Int) < (n : Int)) :
    Calls Try.prog 3 #[.slice ao n cap] w fun e w' => e = .returned (.bool true) ∧ Below w.heap.size w w' := by
  by_cases h : (n : Int) ≤ 1048576
  · go_enter Try.func3, Try.ntmps3
    go_wp2_with (go_at_call 5; refine (bytes_any _ ao n cap h).mono ?_; rintro e w' ⟨rfl, rfl⟩)
    go_ret
    exact ⟨rfl, Below.refl _ _⟩
  · have h' : (1048576 : Int) < (n : Int) := by omega
    go_enter Try.func3, Try.ntmps3
    go_wp2_with (go_at_call 5; refine (bytes_no _ ao n cap h').mono ?_; rintro e w' ⟨rfl, rfl⟩)
    go_ret
    exact ⟨rfl, Below.refl _ _⟩

set_option maxRecDepth 100000 in
set_option maxHeartbeats 8000000 in
theorem counts_in (w : World) (ao : Option Addr) (cap : Nat) (l : List E3) (hes : IsEnts w (.slice ao l.length cap) l) (hn : l.length ≤ 65536) :
    Calls Try.prog 3 #[.slice ao l.length cap] w fun e w' => e = .returned (.bool true) ∧ Below w.heap.size w w' := by
  have hn' : (l.length : Int) ≤ 65536 := by omega
  have hnone := hes.nil
  obtain ⟨i0, hi0, hz0, hz1, hz2⟩ := info_parts Try.info25
  go_enter Try.func3, Try.ntmps3
  go_wp2_with (go_at_call 5; refine (bytes_any _ ao l.length cap (by omega)).mono ?_; rintro e w' ⟨rfl, rfl⟩)
  go_loop [3, 4, 5] (fun r s i => ∃ k : Nat, k ≤ l.length ∧ i = .int .i64 k ∧ r = .int .i64 (cntR (l.take k) : Nat) ∧ s = .int .i64 (cntS (l.take k) : Nat)) (fun r s i => l.length - (intOf i).toNat)
  case atStart => exact ⟨0, Nat.zero_le _, rfl, rfl, rfl⟩
  case round =>
    obtain ⟨k, hk, rfl, rfl, rfl⟩ := hrel
    have l1 := cntR_le l k
    have l2 := cntS_le l k
    by_cases hlt : (k : Int) < (l.length : Int)
    · have hlt' : k < l.length := by omega
      obtain ⟨ao', cap', e, h1, h2⟩ := hes
      cases e
      obtain ⟨b, o, rfl, hblt, hc⟩ := h2 (by omega)
      obtain ⟨d1, d2, d3⟩ := entCells_at l k hlt'
      have c1 := hc _ _ d1
      have c2 := hc _ _ d2
      have c3 := hc _ _ d3
      rw [← Nat.add_assoc] at c2 c3
      obtain ⟨⟨sh, st, pr⟩, he⟩ : ∃ e, l[k] = e := ⟨_, rfl⟩
      rw [he] at c1 c2 c3
      have e1 : Hid (cntR (l.take (k + 1)) = _) := cntR_succ l k hlt' sh st pr he
      have e2 : Hid (cntS (l.take (k + 1)) = _) := cntS_succ l k hlt' sh st pr he
      clear he d1 d2 d3 hc h1 h2
      cases sh <;> cases st <;> cases pr
      all_goals
        go_wp2
        go_round
        case rel => exact ⟨k + 1, by omega, by go_num, by rw [e1.out]; go_num, by rw [e2.out]; go_num⟩
        case measure =>
          simp [intOf]
          omega
    · obtain rfl : k = l.length := by omega
      clear l1 l2
      rcases both_cases l with ⟨⟨hR, hcR⟩, hS, hcS⟩ | ⟨⟨hR, hcR⟩, hS, hcS⟩ | ⟨⟨hR, hcR⟩, hS, hcS⟩ | ⟨⟨hR, hcR⟩, hS, hcS⟩
      all_goals
        have h6 := hs_any w _ l hes (by omega)
        rw [hR, hS] at h6
        go_wp2_with (first
          | (go_at_call 6; refine h6.mono ?_; rintro e w1 ⟨rfl, hb1⟩)
          | (refine wpList_make_own _ rfl _ _ 22 rfl w1.heap.size 25 i0 _ 3 Try.underlying22 hi0 hz0 hz1 _ _ _ l.length rfl rfl rfl (by rw [hz2]; omega) (by unfold maxLen; omega) (Nat.le_refl _) ?_; intro w2 hown2 hgrow2))
        clear h6
        have hs1 := hb1.size
        have hb2 : Below w.heap.size w w2 := hb1.grown hgrow2 hs1 (fun k h => by cases h)
        go_loopw [8, 9] (fun rv i wr => ∃ k : Nat, k ≤ l.length ∧ i = .int .i64 ((k : Int) - 1) ∧ rv = .slice (some ⟨w1.heap.size, 0, none⟩) (l.length - k) l.length ∧
            wr.ownsRow w1.heap.size 25 3 (.slice (some ⟨w1.heap.size, 0, none⟩) (l.length - k) l.length) (l.length - k) (entCells (l.drop k).reverse) ∧ Below w.heap.size w wr) (fun _ i _ => (intOf i + 1).toNat)
        case atStart => exact ⟨l.length, Nat.le_refl _, rfl, by rw [Nat.sub_self], by rw [Nat.sub_self, List.drop_length]; exact hown2, hb2⟩
        case round =>
          obtain ⟨k, hk, rfl, rfl, hown, hbel⟩ := hrel
          clear hown2 hgrow2 hb2
          cases k with
          | zero =>
            rw [List.drop_zero, Nat.sub_zero] at hown
            have hrev := hs_any wr _ l.reverse (isEnts_of_own hown (by simp)) (by simp; omega)
            have er : runB l.reverse = runB l := by simp [runB]
            have es : stB l.reverse = stB l := by simp [stB]
            rw [er, es, hR, hS] at hrev
            clear er es
            have ez : ((0 : Nat) : Int) - 1 = -1 := rfl
            rw [ez, Nat.sub_zero]
            clear ez
            go_wp2_with (first
              | (go_at_call_of 6 (Value.slice (some ⟨w1.heap.size, 0, none⟩) l.length l.length); refine hrev.mono ?_; rintro e w4 ⟨rfl, hb4⟩)
              | (refine wpList_make_own _ rfl _ _ 22 rfl w4.heap.size 25 i0 _ 3 Try.underlying22 hi0 hz0 hz1 _ _ _ (2 * l.length) rfl rfl (by omega) (by rw [hz2]; omega) (by unfold maxLen; omega) (Nat.le_refl _) ?_; intro w5 hown5 hgrow5; have hb5 : Below w.heap.size w w5 := (hbel.trans (hb4.mono hbel.size)).grown hgrow5 (hbel.trans (hb4.mono hbel.size)).size (fun k h => by cases h); have H5 : Hid _ := (hes.later hb5).cells)
              | (at_builtin; refine wpList_append_fits_any _ rfl (.tmp 80) (.tmp 81) 22 rfl w4.heap.size 25 i0 3 Try.underlying22 hi0 hz1 w4.heap.size 0 (2 * l.length) [] rfl hown5 ao l.length cap (entCells l) rfl (entCells_length l) hnone H5.out (entCells_oneCell l) (by omega) ?_; intro w6 hown6 hgrow6; simp only [Nat.zero_add, List.nil_append] at hown6; have hb6 : Below w.heap.size w w6 := hb5.grown hgrow6 hb5.size (fun k h => by cases h; exact (hbel.trans (hb4.mono hbel.size)).size); have H6 : Hid _ := (hes.later hb6).cells)
              | (at_builtin; refine wpList_append_fits_any _ rfl (.tmp 83) (.tmp 84) 22 rfl w4.heap.size 25 i0 3 Try.underlying22 hi0 hz1 w4.heap.size l.length (2 * l.length) (entCells l) rfl hown6 ao l.length cap (entCells l) rfl (entCells_length l) hnone H6.out (entCells_oneCell l) (by omega) ?_; intro w7 hown7 hgrow7; have hb7 : Below w.heap.size w w7 := hb6.grown hgrow7 hb6.size (fun k h => by cases h; exact (hbel.trans (hb4.mono hbel.size)).size))
              | (go_at_call 6; refine (twice_any _ w4.heap.size w4.heap.size l.length (2 * l.length) l _ _ hR hS hown7 rfl hn).mono ?_; rintro e w8 ⟨rfl, hb8⟩))
            go_ret
            exact ⟨rfl, hb7.trans (hb8.mono hb7.size)⟩
          | succ m =>
            have em : ((m + 1 : Nat) : Int) - 1 = (m : Int) := by omega
            rw [em]
            have hlt' : m < l.length := by omega
            have hb5 := hbel
            obtain ⟨ao', cap', e, h1, h2⟩ := hes
            cases e
            obtain ⟨b, o, rfl, hblt, hc⟩ := h2 (by omega)
            obtain ⟨d1, d2, d3⟩ := entCells_at l m hlt'
            have c1 := hc _ _ d1
            have c2 := hc _ _ d2
            have c3 := hc _ _ d3
            rw [← Nat.add_assoc] at c2 c3
            obtain ⟨⟨sh, st, pr⟩, he⟩ : ∃ e, l[m] = e := ⟨_, rfl⟩
            rw [he] at c1 c2 c3
            rw [← hbel.cell (by exact hblt)] at c1 c2 c3
            have hst : Hid (entCells (l.drop m).reverse = _) := rev_step l m hlt' sh st pr he
            have hlen : Hid (l.length - (m + 1) + 1 = l.length - m) := by
              show l.length - (m + 1) + 1 = l.length - m
              omega
            have hsz := hbel.size
            have m0 : (0 : Int) ≤ (m : Int) := Int.natCast_nonneg _
            have m1 : (m : Int) < (l.length : Int) := by omega
            clear he d1 d2 d3 hc h1 h2 em hb5
            go_wp2_with (at_builtin; refine wpList_append_fits _ rfl _ _ 22 rfl w1.heap.size 25 i0 3 Try.underlying22 hi0 hz1 w1.heap.size (l.length - (m + 1)) l.length _ rfl (hown.alloc _) ⟨wr.heap.size, 0, none⟩ 1 1 [.bool sh, .bool st, .bool pr] rfl rfl (World.news_of_block (cs := #[.bool sh, .bool st, .bool pr]) (t := 25) (fr := (0, 0)) (heap_alloc_new wr _)) (by simp [Value.oneCell']) (by omega) ?_; intro w3 hown3 hgrow3)
            have hb3 : Below w.heap.size w w3 := (hbel.alloc hsz _).grown hgrow3 (by simp; omega) (fun k h => by cases h; omega)
            rw [hlen.out, ← hst.out] at hown3
            go_roundw
            case rel => exact ⟨m, by omega, by go_num, by rw [hlen.out], hown3, hb3⟩
            case measure => simp [intOf]
end Go.Proofs.Qxb6612543a
