/-
  THE WALKS of Mutable, AddFields, zzRead, ZZaddFieldsTwice.
-/
import Derived.Test.Qxb6609565aMaps
import Derived.Lib.SliceRun
import Derived.OwnWalk
import Derived.Handy
namespace Go.Proofs.Qxb6609565a
open Go.RowKit
set_option linter.unusedVariables false

/-- The store of val at the key s takes the entries es to es'. -/
def Put (es : Array MapEntry) (c : Nat) (s : ByteArray) (val : Value) (es' : Array MapEntry) (c' : Nat) : Prop :=
  (Instr.findNow .string (.string s) es.toList 0 = some none ∧ es' = es.push { key := .string s, val := val, born := c } ∧ c' = c + 1)
  ∨ (∃ i v0, (s == s) = true ∧ Instr.findNow .string (.string s) es.toList 0 = some (some (i, v0)) ∧ (es[i]?).map (·.key) = some (.string s) ∧ es' = es.modify i (fun e => { e with key := .string s, val := val }) ∧ c' = c)

theorem wpList_put {w : World} {B c c' : Nat} {es es' : Array MapEntry} {ops : Array Oper} {rest : List Oper} {o : Oper} {a : Act} {Q : Exit → Act → World → Prop} (hg : o.guard = none) (m x v : Operand) (hop : o.op = Op.mapUpdate 29 m x v) (s : ByteArray) (val : Value)
    (hb : w.heap[B]? = some (.map es c)) (hp : Put es c s val es' c') (em : a.eval m = .map (some B)) (ex : a.eval x = .string s) (ev : a.eval v = val)
    (hK : ∀ w', w'.heap[B]? = some (.map es' c') → w.grownBy w' (some B) → wpList Try.prog ops Q rest (a.put o.dst undef) w') : wpList Try.prog ops Q (o :: rest) a w := by
  rcases hp with ⟨h1, rfl, rfl⟩ | ⟨i, v0, hs, h1, h2, rfl, rfl⟩
  · exact wpList_put_new hg m x v hop s val Try.underlying29 Try.underlying9 hb h1 em ex ev hK
  · exact wpList_put_old hg m x v hop s val v0 i hs Try.underlying29 Try.underlying9 hb h1 h2 em ex ev hK

theorem eqn22 (w : World) (a : Option Addr) (n c n' c' : Nat) : (binOp .eql 22 (.slice a n c) (.slice none n' c')).run Try.prog w = .ok (.bool a.isNone) w := Lib.run_eql_slice_nil w 22 5 a n c n' c' Try.underlying22
theorem eqn30 (w : World) (a : Option Addr) (n c n' c' : Nat) : (binOp .eql 30 (.slice a n c) (.slice none n' c')).run Try.prog w = .ok (.bool a.isNone) w := Lib.run_eql_slice_nil w 30 5 a n c n' c' Try.underlying30
theorem nen22 (w : World) (a : Option Addr) (n c n' c' : Nat) : (binOp .neq 22 (.slice a n c) (.slice none n' c')).run Try.prog w = .ok (.bool (!a.isNone)) w := run_neq_slice_nil_any w 22 5 a n c n' c' Try.underlying22

theorem mutable_any (w : World) (V S G : Value) (q : Int) (ko : Option Addr) (kn kc : Nat) :
    Calls Try.prog 10 #[.agg #[V, .slice ko kn kc, S, .int .i64 q, G]] w fun e w' => e = .returned (.bool ko.isSome) ∧ Below w.heap.size w w' := by
  have h1 := nen22
  go_enter Try.func10, Try.ntmps10
  go_wp2
  go_ret
  exact ⟨rfl, (Below.refl _ _).alloc (Nat.le_refl _) _⟩

theorem cells5 {w : World} {A : Nat} {V K S X G : Value} (h : w.heap[A]? = some (.cells #[V, K, S, X, G] 32 (0, 0))) :
    w.cell? ⟨A, 0, none⟩ = some V ∧ w.cell? ⟨A, 1, none⟩ = some K ∧ w.cell? ⟨A, 2, none⟩ = some S ∧ w.cell? ⟨A, 3, none⟩ = some X ∧ w.cell? ⟨A, 4, none⟩ = some G := by
  have hc := fun j => cell_of_row w A j #[V, K, S, X, G] 32 (0, 0) h
  exact ⟨by rw [hc]; rfl, by rw [hc]; rfl, by rw [hc]; rfl, by rw [hc]; rfl, by rw [hc]; rfl⟩

theorem grown_below {w w' : World} (h : Below w.heap.size w w') (r : Option Nat) : w.grownBy w' r := ⟨h.os, h.tape, h.output, h.size, fun k hk _ => h.block k hk⟩
theorem lt_map {w : World} {B : Nat} {o : Obj} (h : w.heap[B]? = some o) : B < w.heap.size := by
  rcases Nat.lt_or_ge B w.heap.size with hlt | hge
  · exact hlt
  · rw [Array.getElem?_eq_none hge] at h
    cases h

set_option maxHeartbeats 1000000 in
theorem add_imm (w : World) (B c c1 : Nat) (es es1 : Array MapEntry) (q : Int) (vo so go : Option Addr) (vn vc sn sc gn gc : Nat) (hb : w.heap[B]? = some (.map es c))
    (hp : Put es c ⟨#[118]⟩ (.iface 30 (.slice vo vn vc)) es1 c1) :
    Calls Try.prog 8 #[.agg #[.slice vo vn vc, .slice none 0 0, .slice so sn sc, .int .i64 q, .slice go gn gc], .map (some B)] w fun e w' => e = .returned (.tuple #[]) ∧ w'.heap[B]? = some (.map es1 c1) ∧ w.grownBy w' (some B) := by
  have hlt := lt_map hb
  have hb' : ∀ o, (w.alloc o).heap[B]? = some (.map es c) := fun o => (Below.heap_alloc w o B hlt).trans hb
  go_enter Try.func8, Try.ntmps8
  go_wp2_with (first
    | (at_mapUpdate; refine wpList_put rfl (.tmp 4) _ (.tmp 7) rfl ⟨#[118]⟩ _ (hb' _) hp rfl rfl rfl ?_; intro w1 hb1 hg1; obtain ⟨x0, x1, x2, x3, x4⟩ := cells5 ((hg1.block w.heap.size (by simp) (by simp; omega)).trans (heap_alloc_new w _)))
    | (go_at_call 10; refine (mutable_any _ _ _ _ _ _ _ _).mono ?_; rintro e w2 ⟨rfl, hb2⟩))
  go_end0
  exact ⟨rfl, (hb2.block B (lt_map hb1)).trans hb1, ((World.grownBy_alloc w _ _).trans hg1).trans (grown_below hb2 _)⟩

set_option maxHeartbeats 1000000 in
theorem add_mut (w : World) (B c c1 c2 c3 c4 : Nat) (es es1 es2 es3 es4 : Array MapEntry) (q : Int) (ka : Addr) (vo so go : Option Addr) (vn vc kn kc sn sc gn gc : Nat) (hb : w.heap[B]? = some (.map es c))
    (hp : Put es c ⟨#[118]⟩ (.iface 30 (.slice vo vn vc)) es1 c1) (hp2 : Put es1 c1 ⟨#[107]⟩ (.iface 22 (.slice (some ka) kn kc)) es2 c2) (hp3 : Put es2 c2 ⟨#[115, 101, 113]⟩ (.iface 2 (.int .i64 q)) es3 c3) (hp4 : Put es3 c3 ⟨#[115, 105, 103]⟩ (.iface 22 (.slice go gn gc)) es4 c4) :
    Calls Try.prog 8 #[.agg #[.slice vo vn vc, .slice (some ka) kn kc, .slice so sn sc, .int .i64 q, .slice go gn gc], .map (some B)] w fun e w' => e = .returned (.tuple #[]) ∧ w'.heap[B]? = some (.map es4 c4) ∧ w.grownBy w' (some B) := by
  have hlt := lt_map hb
  have hb' : ∀ o, (w.alloc o).heap[B]? = some (.map es c) := fun o => (Below.heap_alloc w o B hlt).trans hb
  go_enter Try.func8, Try.ntmps8
  go_wp2_with (first
    | (at_mapUpdate; refine wpList_put rfl (.tmp 4) _ (.tmp 7) rfl ⟨#[118]⟩ _ (hb' _) hp rfl rfl rfl ?_; intro w1 hb1 hg1; have A1 := (hg1.block w.heap.size (by simp) (by simp; omega)).trans (heap_alloc_new w _); obtain ⟨x0, x1, x2, x3, x4⟩ := cells5 A1)
    | (go_at_call 10; refine (mutable_any _ _ _ _ _ _ _ _).mono ?_; rintro e w2 ⟨rfl, hb2⟩; have A2 := (hb2.block _ (lt_map A1)).trans A1; have B2 := (hb2.block _ (lt_map hb1)).trans hb1; obtain ⟨y0, y1, y2, y3, y4⟩ := cells5 A2)
    | (at_mapUpdate; refine wpList_put rfl (.tmp 10) _ (.tmp 13) rfl ⟨#[107]⟩ _ B2 hp2 rfl rfl rfl ?_; intro w3 hb3 hg3; have A3 := (hg3.block w.heap.size (lt_map A2) (by simp; omega)).trans A2; obtain ⟨z0, z1, z2, z3, z4⟩ := cells5 A3)
    | (at_mapUpdate; refine wpList_put rfl (.tmp 14) _ (.tmp 17) rfl ⟨#[115, 101, 113]⟩ _ hb3 hp3 rfl rfl rfl ?_; intro w4 hb4 hg4; have A4 := (hg4.block w.heap.size (lt_map A3) (by simp; omega)).trans A3; obtain ⟨u0, u1, u2, u3, u4⟩ := cells5 A4)
    | (at_mapUpdate; refine wpList_put rfl (.tmp 18) _ (.tmp 21) rfl ⟨#[115, 105, 103]⟩ _ hb4 hp4 rfl rfl rfl ?_; intro w5 hb5 hg5))
  go_end0
  exact ⟨rfl, hb5, (((((World.grownBy_alloc w _ _).trans hg1).trans (grown_below hb2 _)).trans hg3).trans hg4).trans hg5⟩

/-- The entries behind AddFields of an immutable, of a mutable item. -/
def ent1 (V : Value) : Array MapEntry := #[{ key := .string ⟨#[118]⟩, val := .iface 30 V, born := 0 }]
def ent4 (V K G : Value) (q : Int) : Array MapEntry := #[{ key := .string ⟨#[118]⟩, val := .iface 30 V, born := 0 }, { key := .string ⟨#[107]⟩, val := .iface 22 K, born := 1 }, { key := .string ⟨#[115, 101, 113]⟩, val := .iface 2 (.int .i64 q), born := 2 }, { key := .string ⟨#[115, 105, 103]⟩, val := .iface 22 G, born := 3 }]

theorem zero20 (w : World) : (zeroValue 20).run Try.prog w = .ok .nilIface w := by kernel_rfl
theorem ta30 (w : World) (v : Value) : (Instr.typeAssert (.iface 30 v) 20 30 true).run Try.prog w = .ok (.tuple #[v, .bool true]) w := by kernel_rfl
theorem ta22 (w : World) (v : Value) : (Instr.typeAssert (.iface 22 v) 20 22 true).run Try.prog w = .ok (.tuple #[v, .bool true]) w := by kernel_rfl
theorem ta2 (w : World) (v : Value) : (Instr.typeAssert (.iface 2 v) 20 2 true).run Try.prog w = .ok (.tuple #[v, .bool true]) w := by kernel_rfl
theorem tn22 (w : World) : (Instr.typeAssert .nilIface 20 22 true).run Try.prog w = .ok (.tuple #[.slice none 0 0, .bool false]) w := by kernel_rfl
theorem tn2 (w : World) : (Instr.typeAssert .nilIface 20 2 true).run Try.prog w = .ok (.tuple #[.int .i64 0, .bool false]) w := by kernel_rfl

theorem two_allocs {w : World} {B : Nat} {o : Obj} (hb : w.heap[B]? = some o) (o1 o2 : Obj) : ((w.alloc o1).alloc o2).heap[B]? = some o := by
  have hlt := lt_map hb
  rw [Below.heap_alloc _ _ _ (by simp; omega), Below.heap_alloc _ _ _ hlt]
  exact hb

set_option maxHeartbeats 2000000 in
theorem read_one (w : World) (B : Nat) (vo : Option Addr) (vn vc : Nat) (hb : w.heap[B]? = some (.map (ent1 (.slice vo vn vc)) 1)) :
    Calls Try.prog 9 #[.map (some B)] w fun e w' => e = .returned (.agg #[.int .i64 1, .bool true, .slice vo vn vc, .bool vo.isNone, .bool false, .slice none 0 0, .bool true, .bool false, .int .i64 0, .bool false, .slice none 0 0, .bool true, .bool false]) ∧ Below w.heap.size w w' := by
  have e1 := eqn22
  have e2 := eqn30
  have t1 := ta30
  have t2 := tn22
  have t3 := tn2
  have hsz : (ent1 (.slice vo vn vc)).size = 1 := rfl
  have hb2 := two_allocs hb
  have g1 : ∀ o1 o2, (Instr.lookup 29 (.map (some B)) (.string ⟨#[118]⟩) false).run Try.prog ((w.alloc o1).alloc o2) = .ok (.iface 30 (.slice vo vn vc)) ((w.alloc o1).alloc o2) := fun o1 o2 => run_get_hit _ _ 0 false Try.underlying29 Try.underlying9 (hb2 o1 o2) rfl
  have g2 : ∀ o1 o2, (Instr.lookup 29 (.map (some B)) (.string ⟨#[107]⟩) false).run Try.prog ((w.alloc o1).alloc o2) = .ok .nilIface ((w.alloc o1).alloc o2) := fun o1 o2 => run_get_miss _ _ false Try.underlying29 Try.underlying9 (zero20 _) (hb2 o1 o2) rfl
  have g3 : ∀ o1 o2, (Instr.lookup 29 (.map (some B)) (.string ⟨#[115, 101, 113]⟩) false).run Try.prog ((w.alloc o1).alloc o2) = .ok .nilIface ((w.alloc o1).alloc o2) := fun o1 o2 => run_get_miss _ _ false Try.underlying29 Try.underlying9 (zero20 _) (hb2 o1 o2) rfl
  have g4 : ∀ o1 o2, (Instr.lookup 29 (.map (some B)) (.string ⟨#[115, 105, 103]⟩) false).run Try.prog ((w.alloc o1).alloc o2) = .ok .nilIface ((w.alloc o1).alloc o2) := fun o1 o2 => run_get_miss _ _ false Try.underlying29 Try.underlying9 (zero20 _) (hb2 o1 o2) rfl
  have g5 : ∀ o1 o2, (Instr.lookup 29 (.map (some B)) (.string ⟨#[115, 97, 108, 116]⟩) true).run Try.prog ((w.alloc o1).alloc o2) = .ok (.tuple #[.nilIface, .bool false]) ((w.alloc o1).alloc o2) := fun o1 o2 => run_get_miss _ _ true Try.underlying29 Try.underlying9 (zero20 _) (hb2 o1 o2) rfl
  have HB : Hid _ := hb2
  clear hb2
  go_enter Try.func9, Try.ntmps9
  go_wp2_with (first
    | (at_len; refine wpList_len_map rfl (.tmp 14) rfl Try.underlying29 (es := ent1 (.slice vo vn vc)) (B := B) (c := 1) (HB.out _ _) rfl ?_))
  go_returns
  exact ⟨rfl, ((Below.refl _ _).alloc (Nat.le_refl _) _).alloc (by simp) _⟩

set_option maxHeartbeats 2000000 in
theorem read_four (w : World) (B : Nat) (q : Int) (vo ko go : Option Addr) (vn vc kn kc gn gc : Nat) (hb : w.heap[B]? = some (.map (ent4 (.slice vo vn vc) (.slice ko kn kc) (.slice go gn gc) q) 4)) :
    Calls Try.prog 9 #[.map (some B)] w fun e w' => e = .returned (.agg #[.int .i64 4, .bool true, .slice vo vn vc, .bool vo.isNone, .bool true, .slice ko kn kc, .bool ko.isNone, .bool true, .int .i64 q, .bool true, .slice go gn gc, .bool go.isNone, .bool false]) ∧ Below w.heap.size w w' := by
  have e1 := eqn22
  have e2 := eqn30
  have t1 := ta30
  have t2 := ta22
  have t3 := ta2
  have hsz : (ent4 (.slice vo vn vc) (.slice ko kn kc) (.slice go gn gc) q).size = 4 := rfl
  have hb2 := two_allocs hb
  have g1 : ∀ o1 o2, (Instr.lookup 29 (.map (some B)) (.string ⟨#[118]⟩) false).run Try.prog ((w.alloc o1).alloc o2) = .ok (.iface 30 (.slice vo vn vc)) ((w.alloc o1).alloc o2) := fun o1 o2 => run_get_hit _ _ 0 false Try.underlying29 Try.underlying9 (hb2 o1 o2) rfl
  have g2 : ∀ o1 o2, (Instr.lookup 29 (.map (some B)) (.string ⟨#[107]⟩) false).run Try.prog ((w.alloc o1).alloc o2) = .ok (.iface 22 (.slice ko kn kc)) ((w.alloc o1).alloc o2) := fun o1 o2 => run_get_hit _ _ 1 false Try.underlying29 Try.underlying9 (hb2 o1 o2) rfl
  have g3 : ∀ o1 o2, (Instr.lookup 29 (.map (some B)) (.string ⟨#[115, 101, 113]⟩) false).run Try.prog ((w.alloc o1).alloc o2) = .ok (.iface 2 (.int .i64 q)) ((w.alloc o1).alloc o2) := fun o1 o2 => run_get_hit _ _ 2 false Try.underlying29 Try.underlying9 (hb2 o1 o2) rfl
  have g4 : ∀ o1 o2, (Instr.lookup 29 (.map (some B)) (.string ⟨#[115, 105, 103]⟩) false).run Try.prog ((w.alloc o1).alloc o2) = .ok (.iface 22 (.slice go gn gc)) ((w.alloc o1).alloc o2) := fun o1 o2 => run_get_hit _ _ 3 false Try.underlying29 Try.underlying9 (hb2 o1 o2) rfl
  have g5 : ∀ o1 o2, (Instr.lookup 29 (.map (some B)) (.string ⟨#[115, 97, 108, 116]⟩) true).run Try.prog ((w.alloc o1).alloc o2) = .ok (.tuple #[.nilIface, .bool false]) ((w.alloc o1).alloc o2) := fun o1 o2 => run_get_miss _ _ true Try.underlying29 Try.underlying9 (zero20 _) (hb2 o1 o2) rfl
  have HB : Hid _ := hb2
  clear hb2
  go_enter Try.func9, Try.ntmps9
  go_wp2_with (first
    | (at_len; refine wpList_len_map rfl (.tmp 14) rfl Try.underlying29 (es := ent4 (.slice vo vn vc) (.slice ko kn kc) (.slice go gn gc) q) (B := B) (c := 4) (HB.out _ _) rfl ?_))
  go_returns
  exact ⟨rfl, ((Below.refl _ _).alloc (Nat.le_refl _) _).alloc (by simp) _⟩
end Go.Proofs.Qxb6609565a
