/-
  WHAT THE MAIN WALK NEEDS of the machine's state between its calls.
-/
import Derived.Test.Qxb6613362aReport
namespace Go.Proofs.Qxb6613362a
open Go.RowKit
set_option linter.unusedVariables false

section
variable {w w' : World} {M C S p n : Nat} {hd tl : Int} {f f' : Nat → SR} {mv fv v : Value} {B e size k : Nat} {xs : List Value}

theorem MS.congr (h : MS w M C S p n hd tl f mv fv) (hf : ∀ i, i < n → f i = f' i) : MS w M C S p n hd tl f' mv fv := by
  obtain ⟨sc, hs, hc⟩ := h.s
  refine ⟨h.m, h.c, sc, hs, fun i hi => ?_⟩
  rw [← hf i hi]
  exact hc i hi

theorem own_later (h : w.ownsRow B e size v k xs) (hb : Below w.heap.size w w') : w'.ownsRow B e size v k xs := by
  obtain ⟨h1, h2⟩ := h
  refine ⟨h1, ?_⟩
  rcases h2 with h2 | ⟨g, cap, cur, hv, hB, hh, r⟩
  · exact .inl h2
  · refine .inr ⟨g, cap, cur, hv, hB, ?_, r⟩
    rw [hb.block g (lt_of_block hh)]
    exact hh

/-- While search cells are written. -/
theorem own_search (h : w.ownsRow B e size v k xs) (hms : MS w M C S p n hd tl f mv fv) (he : 107 ≠ e) (hg : w.grownBy w' (some S)) : w'.ownsRow B e size v k xs := by
  obtain ⟨sc, hs, -⟩ := hms.s
  have hne := own_ne h hs he
  obtain ⟨h1, h2⟩ := h
  refine ⟨h1, ?_⟩
  rcases h2 with h2 | ⟨g, cap, cur, hv, hB, hh, r⟩
  · exact .inl h2
  · refine .inr ⟨g, cap, cur, hv, hB, ?_, r⟩
    subst hv
    rw [hg.block g (lt_of_block hh) (fun e1 => hne (by rw [← e1]; rfl))]
    exact hh

theorem own_shape (h : w.ownsRow B e size v k xs) : ∃ ao cap, v = .slice ao k cap ∧ (0 < k → ∃ g, ao = some ⟨g, 0, none⟩ ∧ g < w.heap.size ∧ ∀ j u, xs[j]? = some u → w.cell? ⟨g, j, none⟩ = some u) := by
  rcases h.2 with ⟨rfl, rfl⟩ | ⟨g, cap, cur, rfl, hB, hh, -, -, -, ht⟩
  · exact ⟨none, 0, rfl, fun h0 => absurd h0 (by omega)⟩
  · refine ⟨some ⟨g, 0, none⟩, cap, rfl, fun _ => ⟨g, rfl, lt_of_block hh, fun j u hu => ?_⟩⟩
    rw [cell_of_row w g j cur e (0, 0) hh]
    rw [← ht] at hu
    obtain ⟨hj, e1⟩ := List.getElem?_eq_some_iff.1 hu
    simp at hj e1
    rw [← e1]
    simp
end

theorem mcells_at (p : Nat) (st en : Nat → Int) (k i : Nat) (hi : i < k) : (mcells p st en k)[i * 3]? = some (.int .i64 ((p : Int) + 1)) ∧ (mcells p st en k)[i * 3 + 1]? = some (.int .i64 (st i)) ∧ (mcells p st en k)[i * 3 + 2]? = some (.int .i64 (en i)) := by
  have hlen : ∀ k, (mcells p st en k).length = k * 3 := by
    intro k
    induction k with
    | zero => rfl
    | succ k ih =>
      rw [mcells_succ, List.length_append, ih]
      simp
      omega
  induction k with
  | zero => omega
  | succ k ih =>
    rw [mcells_succ]
    by_cases e : i = k
    · subst e
      have hl := hlen i
      refine ⟨?_, ?_, ?_⟩
      · rw [List.getElem?_append_right (by omega), hl]
        simp
      · rw [List.getElem?_append_right (by omega), hl]
        have e1 : i * 3 + 1 - i * 3 = 1 := by omega
        rw [e1]
        rfl
      · rw [List.getElem?_append_right (by omega), hl]
        have e1 : i * 3 + 2 - i * 3 = 2 := by omega
        rw [e1]
        rfl
    · have hl := hlen k
      obtain ⟨h1, h2, h3⟩ := ih (by omega)
      refine ⟨?_, ?_, ?_⟩
      · rw [List.getElem?_append_left (by omega)]; exact h1
      · rw [List.getElem?_append_left (by omega)]; exact h2
      · rw [List.getElem?_append_left (by omega)]; exact h3

theorem fcells_at (k i : Nat) (hi : i < k) : (fcells k)[i]? = some (.int .i32 (i : Int)) := by
  simp [fcells, hi]

theorem matches_shape {w : World} {B p k : Nat} {st en : Nat → Int} {mv : Value} (h : w.ownsRow B 110 3 mv k (mcells p st en k)) : ∃ ao cap, mv = .slice ao k cap ∧ Row3 w ao k p st en := by
  obtain ⟨ao, cap, e, hc⟩ := own_shape h
  refine ⟨ao, cap, e, fun h0 => ?_⟩
  obtain ⟨g, e1, hlt, hr⟩ := hc h0
  refine ⟨g, e1, hlt, fun i hi => ?_⟩
  obtain ⟨h1, h2, h3⟩ := mcells_at p st en k i hi
  exact ⟨hr _ _ h1, hr _ _ h2, hr _ _ h3⟩

theorem free_shape {w : World} {B k : Nat} {fv : Value} (h : w.ownsRow B 21 1 fv k (fcells k)) : ∃ ao cap, fv = .slice ao k cap ∧ Row1 w ao k (fun i => .int .i32 i) := by
  obtain ⟨ao, cap, e, hc⟩ := own_shape h
  refine ⟨ao, cap, e, fun h0 => ?_⟩
  obtain ⟨g, e1, hlt, hr⟩ := hc h0
  exact ⟨g, 0, e1, hlt, fun i hi => by rw [Nat.zero_add]; exact hr _ _ (fcells_at k i hi)⟩

theorem lead_le {g0 g1 : Nat → Bool} {n a b : Nat} (ha : Lead g0 n a) (hb : Lead g1 n b) (hsub : ∀ i, i < n → g0 i = true → g1 i = true) : a ≤ b := by
  rcases Nat.lt_or_ge b a with h | h
  · have := ha.le
    rcases hb.stop with e | e
    · omega
    · rw [hsub b (by omega) (ha.all b h)] at e
      cases e
  · exact h

theorem Row3.later {w w' : World} {go : Option Addr} {k p : Nat} {st en : Nat → Int} (h : Row3 w go k p st en) (hb : Below w.heap.size w w') : Row3 w' go k p st en := by
  intro h0
  obtain ⟨b, e, hlt, hc⟩ := h h0
  refine ⟨b, e, Nat.lt_of_lt_of_le hlt hb.size, fun i hi => ?_⟩
  obtain ⟨h1, h2, h3⟩ := hc i hi
  have hk := fun (j : Nat) => hb.cell (p := ⟨b, j, none⟩) hlt
  exact ⟨by rw [hk]; exact h1, by rw [hk]; exact h2, by rw [hk]; exact h3⟩

theorem below_nx {a w w' : World} (h : Below a.heap.size a w) (h' : Below w.heap.size w w') : Below a.heap.size a w' := h.trans (h'.mono h.size)
end Go.Proofs.Qxb6613362a
