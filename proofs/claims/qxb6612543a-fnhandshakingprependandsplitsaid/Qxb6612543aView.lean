/-
  An argument []Ent, opened into what the walks ask.
-/
import Derived.Test.Qxb6612543aHsOf
import Derived.ProofKit
import Derived.OpenShut
import Derived.Deep.Slices
import Derived.Deep.Strs
import Derived.Carry
namespace Go.Proofs.Qxb6612543a
open Go.ChangeShapes Go.WideShapes Go.ChangeAt Go.RowKit Go.Deep
set_option linter.unusedVariables false

theorem Try.laidOut' : laidOutB Try.prog = true := by kernel_rfl
theorem Try.cells25' : Try.prog.cellsOf 25 = 3 := by kernel_rfl
theorem Try.cells4' : Try.prog.cellsOf 4 = 1 := by kernel_rfl

set_option maxRecDepth 100000 in
/-- The three cells of a struct Ent. -/
theorem ent_cells {H : Type} {enc : TypeId × Value → H} {w : World} {base : Nat} {spare : Nat → Bool} {held : Bool} {fuel : Nat} {cs : List Value} {x : DataW H × List MemPlace}
    (h : DataW.trod enc Try.prog w base spare held fuel 25 cs = some x) : ∃ a b c : Bool, cs = [.bool a, .bool b, .bool c] := by
  obtain ⟨y0, y1, y2, n, -, hl, h0, h1, h2⟩ := trod_struct3 Try.underlying25 h
  rw [Try.cells25'] at hl
  match cs, hl with
  | [v0, v1, v2], _ =>
    simp only [Try.cells4', List.drop_zero, List.drop_succ_cons, List.take_succ_cons, List.take_zero] at h0 h1 h2
    obtain ⟨a, ea, -⟩ := DataW.trod_bool Try.underlying4 h0
    obtain ⟨b, eb, -⟩ := DataW.trod_bool Try.underlying4 h1
    obtain ⟨c, ec, -⟩ := DataW.trod_bool Try.underlying4 h2
    cases ea
    cases eb
    cases ec
    exact ⟨a, b, c, rfl⟩

theorem entCells_all (l : List E3) (p : Nat → Value → Prop) (h : ∀ k (hk : k < l.length), p (k * 3) (.bool l[k].sh) ∧ p (k * 3 + 1) (.bool l[k].st) ∧ p (k * 3 + 2) (.bool l[k].pr)) : ∀ j u, (entCells l)[j]? = some u → p j u := by
  intro j u hu
  have hj := (List.getElem?_eq_some_iff.1 hu).1
  rw [entCells_length] at hj
  have hk : j / 3 < l.length := by omega
  obtain ⟨d1, d2, d3⟩ := entCells_at l (j / 3) hk
  obtain ⟨q1, q2, q3⟩ := h (j / 3) hk
  rcases (show j = j / 3 * 3 ∨ j = j / 3 * 3 + 1 ∨ j = j / 3 * 3 + 2 by omega) with e | e | e
  · rw [e] at hu ⊢
    have e' : j / 3 * 3 / 3 = j / 3 := by omega
    rw [d1] at hu
    cases hu
    exact q1
  · rw [e] at hu ⊢
    rw [d2] at hu
    cases hu
    exact q2
  · rw [e] at hu ⊢
    rw [d3] at hu
    cases hu
    exact q3

set_option maxRecDepth 100000 in
theorem view_ents {H : Type} {enc : TypeId × Value → H} {W : World} {base : Nat} {v : Value} {d : DataW H} {p : List MemPlace} (hv : Value.okWide Try.prog W .any base 22 v) (h : DataW.Trod enc Try.prog W 0 (fun _ => true) true 22 v d p) :
    ∃ ao cap l, v = .slice ao (List.length l) cap ∧ IsEnts W v l := by
  obtain ⟨ao, len, cap, rfl⟩ := okWide_slice Try.underlying22 hv
  obtain ⟨fuel, hf⟩ := h
  have hf' : DataW.trod enc Try.prog W 0 (fun _ => true) true fuel 22 [.slice ao len cap] = some (d, p) := by simpa [Value.cells] using hf
  rcases open_slice Try.underlying22 hf' with ⟨hc, -⟩ | ⟨a, len', cap', m, n, D, Pl, hc, -, hl, -, hm, -, hx⟩
  · cases hc
    exact ⟨_, _, [], rfl, _, _, rfl, fun _ => ⟨rfl, rfl⟩, fun h => absurd h (by simp)⟩
  · cases hc
    rw [if_pos rfl] at hm
    subst hm
    rw [Try.cells25'] at hx
    have each : ∀ i, i < len → ∃ q : Bool × Bool × Bool, W.cell? (a.add (i * 3)) = some (.bool q.1) ∧ W.cell? (a.add (i * 3 + 1)) = some (.bool q.2.1) ∧ W.cell? (a.add (i * 3 + 2)) = some (.bool q.2.2) := by
      intro i hi
      obtain ⟨cs', h1, h2⟩ := hx i (by omega)
      obtain ⟨-, hlen, hcell⟩ := World.cells?_some h1
      obtain ⟨b0, b1, b2, rfl⟩ := ent_cells h2
      have e0 := hcell 0 (by omega)
      have e1 := hcell 1 (by omega)
      have e2 := hcell 2 (by omega)
      rw [add_add] at e0 e1 e2
      exact ⟨(b0, b1, b2), by simpa using e0, by simpa using e1, by simpa using e2⟩
    obtain ⟨q, hq⟩ := choose_lt each
    refine ⟨some a, m, (List.range len).map fun i => ⟨(q i).1, (q i).2.1, (q i).2.2⟩, by simp, some a, m, by simp, fun h => (by cases h), fun h0 => ?_⟩
    have h0' : 0 < len := by simpa using h0
    obtain ⟨ab, off, spot⟩ := a
    have g0 := (hq 0 h0').1
    have hspot : spot = none := by simpa [Addr.add] using World.cell?_spot g0
    subst hspot
    have hadd : ∀ j, (⟨ab, off, none⟩ : Addr).add j = ⟨ab, off + j, none⟩ := by
      intro j
      unfold Addr.add
      split <;> simp_all
    refine ⟨ab, off, rfl, World.block_lt_of_cell? W _ g0, entCells_all _ _ fun k hk => ?_⟩
    have hk' : k < len := by simpa using hk
    obtain ⟨c1, c2, c3⟩ := hq k hk'
    rw [hadd] at c1 c2 c3
    simp only [List.getElem_map, List.getElem_range]
    exact ⟨c1, c2, c3⟩
end Go.Proofs.Qxb6612543a
