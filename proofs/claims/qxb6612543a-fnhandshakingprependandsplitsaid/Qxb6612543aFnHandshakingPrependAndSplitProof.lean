/-
  THE FRAME of the statement: the row step over the walk.
-/
import Derived.Test.Qxb6612543aSplit
import Derived.Test.Qxb6612543aView
import Derived.Lib.SmallJoins
namespace Go.Proofs.Qxb6612543a.fnHandshakingPrependAndSplit
open Go.ChangeShapes Go.WideShapes Go.ChangeAt Go.RowKit
set_option linter.unusedVariables false

theorem own : ownKnob Try.prog.godebug = none := by kernel_rfl

set_option maxRecDepth 100000 in
theorem view_ent {H : Type} {enc : TypeId × Value → H} {W : World} {base : Nat} {v : Value} {d : DataW H} {p : List MemPlace} (hv : Value.okWide Try.prog W .any base 25 v) (h : DataW.Trod enc Try.prog W 0 (fun _ => true) true 25 v d p) :
    ∃ a b c : Bool, v = .agg #[.bool a, .bool b, .bool c] := by
  obtain ⟨v0, v1, v2, y0, y1, y2, n, e, -, -, h0, h1, h2⟩ := Go.Joins.open_agg3 Try.underlying25 (by kernel_rfl) Try.cells25' hv h
  obtain ⟨a, ea, -⟩ := DataW.trod_bool Try.underlying4 h0
  obtain ⟨b, eb, -⟩ := DataW.trod_bool Try.underlying4 h1
  obtain ⟨c, ec, -⟩ := DataW.trod_bool Try.underlying4 h2
  cases ea
  cases eb
  cases ec
  exact ⟨a, b, c, e⟩

set_option maxRecDepth 100000 in
theorem view_len {H : Type} {enc : TypeId × Value → H} {W : World} {ao : Option Addr} {len cap : Nat} {d : DataW H} {p : List MemPlace} (h : DataW.Trod enc Try.prog W 0 (fun _ => true) true 22 (.slice ao len cap) d p) : len ≤ 9223372036854775807 := by
  obtain ⟨fuel, hf⟩ := h
  have hf' : DataW.trod enc Try.prog W 0 (fun _ => true) true fuel 22 [.slice ao len cap] = some (d, p) := by simpa [Value.cells] using hf
  rcases Go.Deep.open_slice Try.underlying22 hf' with ⟨hc, -⟩ | ⟨a, len', cap', m, n, D, Pl, hc, -, hl, hmax, hm, -, hx⟩
  · cases hc
    omega
  · cases hc
    unfold maxLen at hmax
    omega

theorem walk (v0 v1 v2 : Value) (a b c : Bool) (l m : List E3) (W : World) (ao bo : Option Addr) (cap cbp : Nat) (h0 : v0 = .agg #[.bool a, .bool b, .bool c]) (h1 : v1 = .slice ao l.length cap) (h2 : v2 = .slice bo m.length cbp) (hn : l.length ≤ 9223372036854775807) (hm : m.length ≤ 9223372036854775807) (hE : IsEnts W v1 l) (hF : IsEnts W v2 m) :
    Calls Try.prog 4 #[v0, v1, v2] W fun e w' => e = .returned (.bool true) ∧ Below W.heap.size W w' := by
  subst h0
  subst h1
  subst h2
  by_cases g1 : l.length ≤ 65536
  · by_cases g2 : m.length ≤ 65536
    · exact split_in W a b c ao bo cap cbp l m hE hF g1 g2
    · exact split_big W a b c ao bo _ _ cap cbp hn hm (.inr ⟨by omega, by omega⟩)
  · exact split_big W a b c ao bo _ _ cap cbp hn hm (.inl (by omega))

set_option maxRecDepth 100000 in
theorem lifted (os : Os) (started : os.Started) (H : Type) (enc : TypeId × Value → H) :
    ReturnsInHanded {} Try.checked os 4 .any (Rows.fnHandshakingPrependAndSplitSpec.pre6 enc Try.prog Try.f4 Rows.fnHandshakingPrependAndSplitRow.domain false) (Rows.fnHandshakingPrependAndSplitSpec.post enc Try.prog Try.f4 false true false false) := by
  refine returnsInHanded_of_change (C := Try.checked) own started (by kernel_rfl) Try.func4
    (ChangeSpec.witness6 (enc := enc) (C := Try.checked) false ⟨#[], #[.agg #[.bool false, .bool false, .bool false], .slice none 0 0, .slice none 0 0], []⟩ 8 (by kernel_rfl) (by kernel_rfl) (by kernel_rfl) (by kernel_rfl)) ?_
  intro W base args ds gs before hval0 hW hcnd _
  have hval : ∀ (j : Nat) t v, Try.f4.params[j]? = some t → args[j]? = some v → Value.okWide Try.prog W .any base t v := hval0
  have hW' := hW
  obtain ⟨p, q, hA0, hV, rfl, hfz, hnd⟩ := hW
  have hA : DataW.TrodAll enc Try.prog W 0 (fun _ => true) true Try.f4.params.toList args.toList ds p := hA0
  rw [Try.params4] at hA hval
  obtain ⟨v0, vs0, d0, ds0, p0, q0, hargs, rfl, rfl, h0, r0⟩ := trodAll_cons hA
  obtain ⟨v1, vs1, d1, ds1, p1, q1, rfl, rfl, rfl, h1, r1⟩ := trodAll_cons r0
  obtain ⟨v2, vs2, d2, ds2, p2, q2, rfl, rfl, rfl, h2, r2⟩ := trodAll_cons r1
  obtain ⟨rfl, rfl, rfl⟩ := trodAll_nil r2
  obtain rfl : args = #[v0, v1, v2] := by cases args; simp_all
  obtain ⟨rfl, rfl⟩ := trodVars_none hV
  obtain ⟨a, b, c, hv0⟩ := view_ent (hval 0 25 v0 rfl rfl) h0
  obtain ⟨ao, cap, l, hv1, hE⟩ := view_ents (hval 1 22 v1 rfl rfl) h1
  obtain ⟨bo, cbp, m, hv2, hF⟩ := view_ents (hval 2 22 v2 rfl rfl) h2
  have hn : l.length ≤ 9223372036854775807 := view_len (by rw [← hv1]; exact h1)
  have hm : m.length ≤ 9223372036854775807 := view_len (by rw [← hv2]; exact h2)
  have hlt0 : ∀ x ∈ p0, x.block < W.heap.size := fun x hx => by simpa using hW'.lt x (by simp [hx])
  have hlt1 : ∀ x ∈ p1, x.block < W.heap.size := fun x hx => by simpa using hW'.lt x (by simp [hx])
  have hlt2 : ∀ x ∈ p2, x.block < W.heap.size := fun x hx => by simpa using hW'.lt x (by simp [hx])
  clear hA0 hval0
  refine (walk v0 v1 v2 a b c l m W ao bo cap cbp hv0 hv1 hv2 hn hm hE hF).mono fun e W' ⟨he, bel⟩ => ?_
  subst he
  exact ⟨_, rfl, _, _, _, _, _, [], hW', trodAll_mk1 (shut_bool Try.underlying4 _), trodAll_cons_mk (Below.trod Try.laidOut' (by kernel_rfl) (of_decide_eq_true (by kernel_rfl)) h0 bel hlt0) (trodAll_cons_mk (Below.trod Try.laidOut' (by kernel_rfl) (of_decide_eq_true (by kernel_rfl)) h1 bel hlt1) (trodAll_cons_mk (Below.trod Try.laidOut' (by kernel_rfl) (of_decide_eq_true (by kernel_rfl)) h2 bel hlt2) trodAll_mk0)), rfl, bel.frame _, fun h => by cases h⟩

theorem over : Rows.fnHandshakingPrependAndSplitRow.holds Try.pinned (OpenSpec.ofChange Rows.fnHandshakingPrependAndSplitSpec) :=
  OpenClaim.holds_of_wide 4 Try.f4 rfl rfl rfl rfl rfl rfl rfl ⟨rfl, rfl, rfl, rfl, rfl⟩ rfl rfl rfl rfl rfl (by kernel_rfl) Try.func4 (by kernel_rfl)
    (of_decide_eq_true (by kernel_rfl)) (by unfold Func.isWrapper; first | (rw [if_pos (by decide +kernel)]; kernel_rfl) | (rw [if_neg (by decide +kernel)]; exact ⟨rfl, rfl⟩))
    (fun os started H enc _ => lifted os started H enc)

/-- THE STATEMENT. -/
theorem proved : Rows.FnHandshakingPrependAndSplitSaid :=
  over
#print axioms proved
end Go.Proofs.Qxb6612543a.fnHandshakingPrependAndSplit
