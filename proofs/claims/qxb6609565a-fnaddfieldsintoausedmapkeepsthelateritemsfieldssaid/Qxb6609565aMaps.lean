/-
  A SMALL MAP KEYED BY STRINGS, its entries written out: store, look-up, length, as laws for the walk.
-/
import Derived.Test.Qxb6609565aRows
import Derived.WalkKit
import Derived.WalkSpells
import Derived.WalkLawsBesides
import Derived.Maps.Own
import Derived.Maps.OwnOps
import Derived.Maps.OwnSet
import Derived.Below
namespace Go.Proofs.Qxb6609565a
open Go.RowKit
set_option linter.unusedVariables false

section
variable {P : Program} {w : World} {mty kt et : TypeId} {B c : Nat} {es : Array MapEntry}

theorem grown_setMap {o o' : Obj} (hb : w.heap[B]? = some o) : ({ w with heap := w.heap.setIfInBounds B o' } : World).heap[B]? = some o' ∧ w.grownBy { w with heap := w.heap.setIfInBounds B o' } (some B) := by
  obtain ⟨h1, h2⟩ := MapKept.heap_set (o' := o') hb
  refine ⟨h1, ⟨rfl, rfl, rfl, by simp, fun k hk hne => h2 k (fun e => hne (by rw [e]))⟩⟩

theorem run_put_new (s : ByteArray) (val : Value) (hm : P.underlying mty = some (.map kt et)) (hk : P.underlying kt = some .string) (hb : w.heap[B]? = some (.map es c)) (hf : Instr.findNow .string (.string s) es.toList 0 = some none) :
    (Instr.mapUpdate mty (.map (some B)) (.string s) val).run P w = .ok () { w with heap := w.heap.setIfInBounds B (.map (es.push { key := .string s, val := val, born := c }) (c + 1)) } := by
  have hc : (Instr.checkKey false 10000 kt (.string s)).run P w = .ok () w := MapKept.run_checkKey (k := .string s) hk (by simp [MapKept.IsKey]) false 9999
  simp [Instr.mapUpdate, run_underlying hm, MapKept.run_getObj_map hb, hc, MapKept.run_findKey hk hf, MapKept.run_setObj_map _ hb, Result.andThen]

theorem run_put_old (s : ByteArray) (val v0 : Value) (i : Nat) (hss : (s == s) = true) (hm : P.underlying mty = some (.map kt et)) (hk : P.underlying kt = some .string) (hb : w.heap[B]? = some (.map es c)) (hf : Instr.findNow .string (.string s) es.toList 0 = some (some (i, v0))) (hi : (es[i]?).map (·.key) = some (.string s)) :
    (Instr.mapUpdate mty (.map (some B)) (.string s) val).run P w = .ok () { w with heap := w.heap.setIfInBounds B (.map (es.modify i fun e => { e with key := .string s, val := val }) c) } := by
  have hc : (Instr.checkKey false 10000 kt (.string s)).run P w = .ok () w := MapKept.run_checkKey (k := .string s) hk (by simp [MapKept.IsKey]) false 9999
  have hs : Instr.sameBits 10000 (.string s) (.string s) = true := by simp [Instr.sameBits, hss]
  simp [Instr.mapUpdate, Instr.keyThatStays, run_underlying hm, MapKept.run_getObj_map hb, hc, MapKept.run_findKey hk hf, hi, hs, MapKept.run_setObj_map _ hb, Result.andThen]

theorem run_get_hit (s : ByteArray) (v0 : Value) (i : Nat) (ok : Bool) (hm : P.underlying mty = some (.map kt et)) (hk : P.underlying kt = some .string) (hb : w.heap[B]? = some (.map es c)) (hf : Instr.findNow .string (.string s) es.toList 0 = some (some (i, v0))) :
    (Instr.lookup mty (.map (some B)) (.string s) ok).run P w = .ok (if ok then .tuple #[v0, .bool true] else v0) w := by
  have hc : (Instr.checkKey es.isEmpty 10000 kt (.string s)).run P w = .ok () w := MapKept.run_checkKey (k := .string s) hk (by simp [MapKept.IsKey]) _ 9999
  simp [Instr.lookup, run_underlying hm, MapKept.run_getObj_map hb, hc, MapKept.run_findKey hk hf, Result.andThen]

theorem run_get_miss (s : ByteArray) (z : Value) (ok : Bool) (hm : P.underlying mty = some (.map kt et)) (hk : P.underlying kt = some .string) (hz : (zeroValue et).run P w = .ok z w) (hb : w.heap[B]? = some (.map es c)) (hf : Instr.findNow .string (.string s) es.toList 0 = some none) :
    (Instr.lookup mty (.map (some B)) (.string s) ok).run P w = .ok (if ok then .tuple #[z, .bool false] else z) w := by
  have hc : (Instr.checkKey es.isEmpty 10000 kt (.string s)).run P w = .ok () w := MapKept.run_checkKey (k := .string s) hk (by simp [MapKept.IsKey]) _ 9999
  simp [Instr.lookup, run_underlying hm, MapKept.run_getObj_map hb, hc, MapKept.run_findKey hk hf, hz, Result.andThen]

variable {ops : Array Oper} {rest : List Oper} {o : Oper} {a : Act} {Q : Exit → Act → World → Prop}

theorem wpList_put_new (hg : o.guard = none) (m x v : Operand) (hop : o.op = Op.mapUpdate mty m x v) (s : ByteArray) (val : Value) (hm : P.underlying mty = some (.map kt et)) (hk : P.underlying kt = some .string)
    (hb : w.heap[B]? = some (.map es c)) (hf : Instr.findNow .string (.string s) es.toList 0 = some none) (em : a.eval m = .map (some B)) (ex : a.eval x = .string s) (ev : a.eval v = val)
    (hK : ∀ w', w'.heap[B]? = some (.map (es.push { key := .string s, val := val, born := c }) (c + 1)) → w.grownBy w' (some B) → wpList P ops Q rest (a.put o.dst undef) w') : wpList P ops Q (o :: rest) a w := by
  refine wpList_plain hg fun K' hK' => ?_
  have hrun := run_put_new (P := P) s val hm hk hb hf
  obtain ⟨r1, r2⟩ := grown_setMap (o' := .map (es.push { key := .string s, val := val, born := c }) (c + 1)) hb
  unfold Oper.wp
  simp [execOp, hop, em, ex, ev, hrun, Result.andThen]
  exact hK' _ _ (hK _ r1 r2)

theorem wpList_put_old (hg : o.guard = none) (m x v : Operand) (hop : o.op = Op.mapUpdate mty m x v) (s : ByteArray) (val v0 : Value) (i : Nat) (hss : (s == s) = true) (hm : P.underlying mty = some (.map kt et)) (hk : P.underlying kt = some .string)
    (hb : w.heap[B]? = some (.map es c)) (hf : Instr.findNow .string (.string s) es.toList 0 = some (some (i, v0))) (hi : (es[i]?).map (·.key) = some (.string s)) (em : a.eval m = .map (some B)) (ex : a.eval x = .string s) (ev : a.eval v = val)
    (hK : ∀ w', w'.heap[B]? = some (.map (es.modify i fun e => { e with key := .string s, val := val }) c) → w.grownBy w' (some B) → wpList P ops Q rest (a.put o.dst undef) w') : wpList P ops Q (o :: rest) a w := by
  refine wpList_plain hg fun K' hK' => ?_
  have hrun := run_put_old (P := P) s val v0 i hss hm hk hb hf hi
  obtain ⟨r1, r2⟩ := grown_setMap (o' := .map (es.modify i fun e => { e with key := .string s, val := val }) c) hb
  unfold Oper.wp
  simp [execOp, hop, em, ex, ev, hrun, Result.andThen]
  exact hK' _ _ (hK _ r1 r2)

theorem wpList_get_hit (hg : o.guard = none) (m x : Operand) (ok : Bool) (hop : o.op = Op.lookup mty m x ok) (s : ByteArray) (v0 : Value) (i : Nat) (hm : P.underlying mty = some (.map kt et)) (hk : P.underlying kt = some .string)
    (hb : w.heap[B]? = some (.map es c)) (hf : Instr.findNow .string (.string s) es.toList 0 = some (some (i, v0))) (em : a.eval m = .map (some B)) (ex : a.eval x = .string s)
    (hK : wpList P ops Q rest (a.put o.dst (if ok then .tuple #[v0, .bool true] else v0)) w) : wpList P ops Q (o :: rest) a w := by
  refine wpList_plain hg fun K' hK' => ?_
  have hrun := run_get_hit (P := P) s v0 i ok hm hk hb hf
  unfold Oper.wp
  simp [execOp, hop, em, ex, hrun, Result.andThen]
  exact hK' _ _ hK

theorem wpList_get_miss (hg : o.guard = none) (m x : Operand) (ok : Bool) (hop : o.op = Op.lookup mty m x ok) (s : ByteArray) (z : Value) (hm : P.underlying mty = some (.map kt et)) (hk : P.underlying kt = some .string) (hz : (zeroValue et).run P w = .ok z w)
    (hb : w.heap[B]? = some (.map es c)) (hf : Instr.findNow .string (.string s) es.toList 0 = some none) (em : a.eval m = .map (some B)) (ex : a.eval x = .string s)
    (hK : wpList P ops Q rest (a.put o.dst (if ok then .tuple #[z, .bool false] else z)) w) : wpList P ops Q (o :: rest) a w := by
  refine wpList_plain hg fun K' hK' => ?_
  have hrun := run_get_miss (P := P) s z ok hm hk hz hb hf
  unfold Oper.wp
  simp [execOp, hop, em, ex, hrun, Result.andThen]
  exact hK' _ _ hK

theorem wpList_len_map (hg : o.guard = none) (m : Operand) (hop : o.op = Op.call { callee := Callee.builtin Builtin.len, args := #[m], argTypes := #[mty] }) (hm : P.underlying mty = some (.map kt et)) (hb : w.heap[B]? = some (.map es c)) (em : a.eval m = .map (some B))
    (hK : wpList P ops Q rest (a.put o.dst (.int .i64 es.size)) w) : wpList P ops Q (o :: rest) a w := by
  refine wpList_plain hg fun K' hK' => ?_
  have hrun : (Builtin.len_ #[mty] o.type #[.map (some B)]).run P w = .ok (.int .i64 es.size) w := by
    simp [Builtin.len_, run_underlying hm, MapKept.run_getObj_map hb, goInt, Result.andThen]
  unfold Oper.wp
  simp [execOp, hop, resolve, invoke, builtin, em, hrun, Result.andThen]
  exact hK' _ _ hK
end
end Go.Proofs.Qxb6609565a
