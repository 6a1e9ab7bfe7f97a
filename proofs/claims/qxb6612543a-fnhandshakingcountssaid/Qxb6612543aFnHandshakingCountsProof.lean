/-
  THE FRAME of the statement: the row step over the walk.
-/
import Derived.Test.Qxb6612543aCounts
import Derived.Test.Qxb6612543aView
namespace Go.Proofs.Qxb6612543a.fnHandshakingCounts
open Go.ChangeShapes Go.WideShapes Go.ChangeAt Go.RowKit
set_option linter.unusedVariables false

theorem own : ownKnob Try.prog.godebug = none := by kernel_rfl

theorem walk (v : Value) (l : List E3) (W : World) (ao : Option Addr) (cap : Nat) (he : v = .slice ao l.length cap) (h : IsEnts W v l) :
    Calls Try.prog 3 #[v] W fun e w' => e = .returned (.bool true) ∧ Below W.heap.size W w' := by
  subst he
  by_cases hn : l.length ≤ 65536
  · exact counts_in W ao cap l h hn
  · exact counts_big W ao l.length cap (by omega)

set_option maxRecDepth 100000 in
theorem lifted (os : Os) (started : os.Started) (H : Type) (enc : TypeId × Value → H) :
    ReturnsInHanded {} Try.checked os 3 .any (Rows.fnHandshakingCountsSpec.pre6 enc Try.prog Try.f3 Rows.fnHandshakingCountsRow.domain false) (Rows.fnHandshakingCountsSpec.post enc Try.prog Try.f3 false true false false) := by
  refine returnsInHanded_of_change (C := Try.checked) own started (by kernel_rfl) Try.func3
    (ChangeSpec.witness6 (enc := enc) (C := Try.checked) false ⟨#[], #[.slice none 0 0], []⟩ 8 (by kernel_rfl) (by kernel_rfl) (by kernel_rfl) (by kernel_rfl)) ?_
  intro W base args ds gs before hval0 hW hcnd _
  have hval : ∀ (j : Nat) t v, Try.f3.params[j]? = some t → args[j]? = some v → Value.okWide Try.prog W .any base t v := hval0
  have hW' := hW
  obtain ⟨p, q, hA0, hV, rfl, hfz, hnd⟩ := hW
  have hA : DataW.TrodAll enc Try.prog W 0 (fun _ => true) true Try.f3.params.toList args.toList ds p := hA0
  rw [Try.params3] at hA hval
  obtain ⟨v0, vs0, d0, ds0, p0, q0, hargs, rfl, rfl, h0, r0⟩ := trodAll_cons hA
  obtain ⟨rfl, rfl, rfl⟩ := trodAll_nil r0
  obtain rfl : args = #[v0] := by cases args; simp_all
  obtain ⟨rfl, rfl⟩ := trodVars_none hV
  obtain ⟨ao, cap, l, hv, hE⟩ := view_ents (hval 0 22 v0 rfl rfl) h0
  have hlt : ∀ x ∈ p0, x.block < W.heap.size := fun x hx => by simpa using hW'.lt x (by simp [hx])
  clear hA0 hval0
  refine (walk v0 l W ao cap hv hE).mono fun e W' ⟨he, bel⟩ => ?_
  subst he
  exact ⟨_, rfl, _, _, _, _, _, [], hW', trodAll_mk1 (shut_bool Try.underlying4 _), trodAll_mk1 (Below.trod Try.laidOut' (by kernel_rfl) (of_decide_eq_true (by kernel_rfl)) h0 bel hlt), rfl, bel.frame _, fun h => by cases h⟩

theorem over : Rows.fnHandshakingCountsRow.holds Try.pinned (OpenSpec.ofChange Rows.fnHandshakingCountsSpec) :=
  OpenClaim.holds_of_wide 3 Try.f3 rfl rfl rfl rfl rfl rfl rfl ⟨rfl, rfl, rfl, rfl, rfl⟩ rfl rfl rfl rfl rfl (by kernel_rfl) Try.func3 (by kernel_rfl)
    (of_decide_eq_true (by kernel_rfl)) (by unfold Func.isWrapper; first | (rw [if_pos (by decide +kernel)]; kernel_rfl) | (rw [if_neg (by decide +kernel)]; exact ⟨rfl, rfl⟩))
    (fun os started H enc _ => lifted os started H enc)

/-- THE STATEMENT. -/
theorem proved : Rows.FnHandshakingCountsSaid :=
  over
#print axioms proved
end Go.Proofs.Qxb6612543a.fnHandshakingCounts
