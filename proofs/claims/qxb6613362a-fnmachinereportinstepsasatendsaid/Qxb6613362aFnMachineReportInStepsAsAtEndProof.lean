/-
  THE FRAME of the statement: the row step over the walk.
-/
import Derived.Test.Qxb6613362aStepsMain
import Derived.ProofKit
import Derived.OpenShut
import Derived.Deep.Slices
import Derived.Carry
namespace Go.Proofs.Qxb6613362a.fnMachineReportInStepsAsAtEnd
open Go.ChangeShapes Go.WideShapes Go.ChangeAt Go.RowKit
set_option linter.unusedVariables false

theorem own : ownKnob Try.prog.godebug = none := by kernel_rfl
theorem laidOut : laidOutB Try.prog = true := by kernel_rfl
theorem cells4 : Try.prog.cellsOf 4 = 1 := by kernel_rfl
theorem cells3 : Try.prog.cellsOf 3 = 1 := by kernel_rfl

/-- Cells that are known from the head of a slice on. -/
theorem row_of_cells {W : World} {a : Addr} {n : Nat} {V : Nat → Value} (h : ∀ i, i < n → W.cell? (a.add i) = some (V i)) : Row1 W (some a) n V := by
  intro h0
  obtain ⟨b, off, spot⟩ := a
  have g0 := h 0 h0
  have hspot : spot = none := by simpa [Addr.add] using World.cell?_spot g0
  subst hspot
  have hadd : ∀ j, (⟨b, off, none⟩ : Addr).add j = ⟨b, off + j, none⟩ := by
    intro j
    unfold Addr.add
    split <;> simp_all
  refine ⟨b, off, rfl, World.block_lt_of_cell? W _ g0, fun i hi => ?_⟩
  have g := h i hi
  rw [hadd] at g
  exact g

set_option maxRecDepth 100000 in
theorem view_bools {H : Type} {enc : TypeId × Value → H} {W : World} {base : Nat} {v : Value} {d : DataW H} {p : List MemPlace} (hv : Value.okWide Try.prog W .any base 43 v) (h : DataW.Trod enc Try.prog W 0 (fun _ => true) true 43 v d p) :
    ∃ ao n cap, ∃ g : Nat → Bool, v = .slice ao n cap ∧ Row1 W ao n (fun i => .bool (g i)) := by
  obtain ⟨ao, len, cap, rfl⟩ := okWide_slice Try.underlying43 hv
  obtain ⟨fuel, hf⟩ := h
  have hf' : DataW.trod enc Try.prog W 0 (fun _ => true) true fuel 43 [.slice ao len cap] = some (d, p) := by simpa [Value.cells] using hf
  rcases Go.Deep.open_slice1 Try.underlying43 cells4 hf' with ⟨hc, -⟩ | ⟨a, len', cap', m, n, V, D, Pl, hc, -, hl, -, hm, -, hx⟩
  · cases hc
    exact ⟨_, _, _, fun _ => false, rfl, fun h0 => absurd h0 (by omega)⟩
  · cases hc
    rw [if_pos rfl] at hm
    subst hm
    have each : ∀ i, i < len → ∃ b : Bool, W.cell? (a.add i) = some (.bool b) := by
      intro i hi
      obtain ⟨h1, h2⟩ := hx i (by omega)
      obtain ⟨b, e, -⟩ := DataW.trod_bool Try.underlying4 h2
      have e' : V i = .bool b := by simpa using e
      exact ⟨b, by rw [h1, e']⟩
    obtain ⟨g, hg⟩ := Go.Deep.choose_lt each
    exact ⟨_, _, _, g, rfl, row_of_cells hg⟩

set_option maxRecDepth 100000 in
theorem view_ints {H : Type} {enc : TypeId × Value → H} {W : World} {base : Nat} {v : Value} {d : DataW H} {p : List MemPlace} (hv : Value.okWide Try.prog W .any base 44 v) (h : DataW.Trod enc Try.prog W 0 (fun _ => true) true 44 v d p) :
    ∃ ao n cap, ∃ z : Nat → Int, v = .slice ao n cap ∧ Row1 W ao n (fun i => .int .i64 (z i)) := by
  obtain ⟨ao, len, cap, rfl⟩ := okWide_slice Try.underlying44 hv
  obtain ⟨fuel, hf⟩ := h
  have hf' : DataW.trod enc Try.prog W 0 (fun _ => true) true fuel 44 [.slice ao len cap] = some (d, p) := by simpa [Value.cells] using hf
  rcases open_ints Try.underlying44 Try.underlying3 cells3 hf' with ⟨hcs, _⟩ | ⟨x, l, c, zs, hcs, _, hl, hm, hz, _, hcell, hwz⟩
  · cases hcs
    exact ⟨_, _, _, fun _ => 0, rfl, fun h0 => absurd h0 (by omega)⟩
  · cases hcs
    have hz' : zs.length = cap := by simpa using hz
    exact ⟨_, _, _, fun i => zs.getD i 0, rfl, row_of_cells fun i hi => hcell i (by omega)⟩

theorem walk (q : Int) (v1 v2 v3 v4 : Value) (W : World) (a b c d : Option Addr) (n1 n2 n3 n4 c1 c2 c3 c4 : Nat) (g0 g1 : Nat → Bool) (st en : Nat → Int) (e1 : v1 = .slice a n1 c1) (e2 : v2 = .slice b n2 c2) (e3 : v3 = .slice c n3 c3) (e4 : v4 = .slice d n4 c4)
    (h1 : Row1 W a n1 (fun i => .bool (g0 i))) (h2 : Row1 W b n2 (fun i => .bool (g1 i))) (h3 : Row1 W c n3 (fun i => .int .i64 (st i))) (h4 : Row1 W d n4 (fun i => .int .i64 (en i))) :
    Calls Try.prog 9 #[.int .i64 q, v1, v2, v3, v4] W fun e w' => e = .returned (.bool true) ∧ Below W.heap.size W w' := by
  subst e1
  subst e2
  subst e3
  subst e4
  by_cases hin : 0 ≤ q ∧ q ≤ 65536 ∧ 1 ≤ n2 ∧ n2 ≤ 32768 ∧ n1 = n2 ∧ n3 = n2 ∧ n4 = n2
  · obtain ⟨q0, q1, m1, m2, rfl, rfl, rfl⟩ := hin
    obtain ⟨p, rfl⟩ : ∃ p : Nat, q = p := ⟨q.toNat, by omega⟩
    exact main_in W p _ _ a b c d c1 c2 c3 c4 g0 g1 st en (Nat.sub_add_cancel m1) m2 (by omega) h1 h2 h3 h4
  · exact main_out W q a b c d n1 n2 n3 n4 c1 c2 c3 c4 hin

set_option maxRecDepth 100000 in
theorem lifted (os : Os) (started : os.Started) (H : Type) (enc : TypeId × Value → H) :
    ReturnsInHanded {} Try.checked os 9 .any (Rows.fnMachineReportInStepsAsAtEndSpec.pre6 enc Try.prog Try.f9 Rows.fnMachineReportInStepsAsAtEndRow.domain false) (Rows.fnMachineReportInStepsAsAtEndSpec.post enc Try.prog Try.f9 false true false false) := by
  refine returnsInHanded_of_change (C := Try.checked) own started (by kernel_rfl) Try.func9
    (ChangeSpec.witness6 (enc := enc) (C := Try.checked) false ⟨#[], #[.int .i64 0, .slice none 0 0, .slice none 0 0, .slice none 0 0, .slice none 0 0], []⟩ 8 (by kernel_rfl) (by kernel_rfl) (by kernel_rfl) (by kernel_rfl)) ?_
  intro W base args ds gs before hval0 hW hcnd _
  have hval : ∀ (j : Nat) t v, Try.f9.params[j]? = some t → args[j]? = some v → Value.okWide Try.prog W .any base t v := hval0
  have hW' := hW
  obtain ⟨p, q, hA0, hV, rfl, hfz, hnd⟩ := hW
  have hA : DataW.TrodAll enc Try.prog W 0 (fun _ => true) true Try.f9.params.toList args.toList ds p := hA0
  rw [Try.params9] at hA hval
  obtain ⟨v0, vs0, d0, ds0, p0, q0, hargs, rfl, rfl, h0, r0⟩ := trodAll_cons hA
  obtain ⟨v1, vs1, d1, ds1, p1, q1, rfl, rfl, rfl, h1, r1⟩ := trodAll_cons r0
  obtain ⟨v2, vs2, d2, ds2, p2, q2, rfl, rfl, rfl, h2, r2⟩ := trodAll_cons r1
  obtain ⟨v3, vs3, d3, ds3, p3, q3, rfl, rfl, rfl, h3, r3⟩ := trodAll_cons r2
  obtain ⟨v4, vs4, d4, ds4, p4, q4, rfl, rfl, rfl, h4, r4⟩ := trodAll_cons r3
  obtain ⟨rfl, rfl, rfl⟩ := trodAll_nil r4
  obtain rfl : args = #[v0, v1, v2, v3, v4] := by cases args; simp_all
  obtain ⟨rfl, rfl⟩ := trodVars_none hV
  obtain ⟨a0, rfl, rfl, rfl, w0⟩ := open_int Try.underlying3 (hval 0 3 v0 rfl rfl) h0
  obtain ⟨a, n1, c1, g0, e1, y1⟩ := view_bools (hval 1 43 v1 rfl rfl) h1
  obtain ⟨b, n2, c2, g1, e2, y2⟩ := view_bools (hval 2 43 v2 rfl rfl) h2
  obtain ⟨c, n3, c3, st, e3, y3⟩ := view_ints (hval 3 44 v3 rfl rfl) h3
  obtain ⟨d, n4, c4, en, e4, y4⟩ := view_ints (hval 4 44 v4 rfl rfl) h4
  have hlt1 : ∀ x ∈ p1, x.block < W.heap.size := fun x hx => by simpa using hW'.lt x (by simp [hx])
  have hlt2 : ∀ x ∈ p2, x.block < W.heap.size := fun x hx => by simpa using hW'.lt x (by simp [hx])
  have hlt3 : ∀ x ∈ p3, x.block < W.heap.size := fun x hx => by simpa using hW'.lt x (by simp [hx])
  have hlt4 : ∀ x ∈ p4, x.block < W.heap.size := fun x hx => by simpa using hW'.lt x (by simp [hx])
  clear hA0 hval0
  refine (walk a0 v1 v2 v3 v4 W a b c d n1 n2 n3 n4 c1 c2 c3 c4 g0 g1 st en e1 e2 e3 e4 y1 y2 y3 y4).mono fun e W' ⟨he, bel⟩ => ?_
  subst he
  exact ⟨_, rfl, _, _, _, _, _, [], hW', trodAll_mk1 (shut_bool Try.underlying4 _), trodAll_cons_mk (shut_int Try.underlying3 w0) (trodAll_cons_mk (Below.trod laidOut (by kernel_rfl) (of_decide_eq_true (by kernel_rfl)) h1 bel hlt1) (trodAll_cons_mk (Below.trod laidOut (by kernel_rfl) (of_decide_eq_true (by kernel_rfl)) h2 bel hlt2) (trodAll_cons_mk (Below.trod laidOut (by kernel_rfl) (of_decide_eq_true (by kernel_rfl)) h3 bel hlt3) (trodAll_cons_mk (Below.trod laidOut (by kernel_rfl) (of_decide_eq_true (by kernel_rfl)) h4 bel hlt4) trodAll_mk0)))), rfl, bel.frame _, fun h => by cases h⟩

theorem over : Rows.fnMachineReportInStepsAsAtEndRow.holds Try.pinned (OpenSpec.ofChange Rows.fnMachineReportInStepsAsAtEndSpec) :=
  OpenClaim.holds_of_wide 9 Try.f9 rfl rfl rfl rfl rfl rfl rfl ⟨rfl, rfl, rfl, rfl, rfl⟩ rfl rfl rfl rfl rfl (by kernel_rfl) Try.func9 (by kernel_rfl)
    (of_decide_eq_true (by kernel_rfl)) (by unfold Func.isWrapper; first | (rw [if_pos (by decide +kernel)]; kernel_rfl) | (rw [if_neg (by decide +kernel)]; exact ⟨rfl, rfl⟩))
    (fun os started H enc _ => lifted os started H enc)

/-- THE STATEMENT. -/
theorem proved : Rows.FnMachineReportInStepsAsAtEndSaid :=
  over
#print axioms proved
end Go.Proofs.Qxb6613362a.fnMachineReportInStepsAsAtEnd
