/-
  THE WALKS of ZZnewMachine and zzMatchesAre.
-/
import Derived.Test.Qxb6613362aMach
import Derived.RegionTactic
import Derived.ChangeAlike
import Derived.Laws.Tables
namespace Go.Proofs.Qxb6613362a
open Go.RowKit
set_option linter.unusedVariables false

def z105 : Value := .agg #[.int .i32 0, .int .i32 0, .int .u64 0]
def z107 : Value := .agg #[.int .i64 0, .int .i64 0, .int .i64 0, .int .i64 0, .int .i64 0, .int .i32 0, .bool false, .bool false, .bool false, .int .u64 0, .int .u64 0]
theorem Try.info105 : (Try.prog.info? 105).map (fun i => (i.zero, i.size, i.bytes)) = some (some z105, 3, 16) := by kernel_rfl
theorem Try.info107 : (Try.prog.info? 107).map (fun i => (i.zero, i.size, i.bytes)) = some (some z107, 11, 64) := by kernel_rfl

theorem mk69 (w : World) (p : Nat) (h : p ≤ 70000) : (Instr.makeSlice 69 (.int .i64 ((p : Int) + 1)) (.int .i64 ((p : Int) + 1))).run Try.prog w = .ok (.slice (some ⟨w.heap.size, 0, none⟩) (p + 1) (p + 1)) (w.alloc (.cells (madeCells z105.cells ((p + 1) * 3)) 105)) := by
  obtain ⟨i0, hi0, hz0, hz1, hz2⟩ := info_parts Try.info105
  have hr := run_make (P := Try.prog) w 69 105 i0 z105 Try.underlying69 hi0 hz0 .i64 .i64 ((p : Int) + 1) ((p : Int) + 1) (by omega) (Int.le_refl _) (by rw [hz2]; omega) (by omega)
  have e : ((p : Int) + 1).toNat = p + 1 := by omega
  rw [e, hz1] at hr
  exact hr

theorem mk70 (w : World) (n : Nat) (h : n ≤ 70000) : (Instr.makeSlice 70 (.int .i64 (n : Int)) (.int .i64 (n : Int))).run Try.prog w = .ok (.slice (some ⟨w.heap.size, 0, none⟩) n n) (w.alloc (.cells (madeCells z107.cells (n * 11)) 107)) := by
  obtain ⟨i0, hi0, hz0, hz1, hz2⟩ := info_parts Try.info107
  have hr := run_make (P := Try.prog) w 70 107 i0 z107 Try.underlying70 hi0 hz0 .i64 .i64 (n : Int) (n : Int) (by omega) (Int.le_refl _) (by rw [hz2]; omega) (by omega)
  have e : ((n : Int)).toNat = n := by omega
  rw [e, hz1] at hr
  exact hr

theorem made_at (z : Array Value) (n j : Nat) (hj : j < n) : (madeCells z n)[j]? = some (z[j % z.size]!) := by simp [madeCells, hj]

theorem built103 (p n c s : Nat) : ∃ F : Array Value, Try.prog.built 103 [(14, .slice (some ⟨c, 0, none⟩) (p + 1) (p + 1)), (13, .slice (some ⟨s, 0, none⟩) n n)] = some F ∧
    F[31]? = some (.slice (some ⟨s, 0, none⟩) n n) ∧ F[32]? = some (.slice (some ⟨c, 0, none⟩) (p + 1) (p + 1)) ∧ F[33]? = some (.slice none 0 0) ∧ F[37]? = some (.slice none 0 0) :=
  ⟨(Try.prog.built 103 [(14, .slice (some ⟨c, 0, none⟩) (p + 1) (p + 1)), (13, .slice (some ⟨s, 0, none⟩) n n)]).getD #[], by kernel_rfl, by kernel_rfl, by kernel_rfl, by kernel_rfl, by kernel_rfl⟩

/-- build, as the region's operation. -/
theorem exec_build103 {o : Oper} {a : Act} (x y : Operand) (ho : o.op = .build 103 #[(14, x), (13, y)]) (p n c s : Nat) (F : Array Value) (hF : Try.prog.built 103 [(14, .slice (some ⟨c, 0, none⟩) (p + 1) (p + 1)), (13, .slice (some ⟨s, 0, none⟩) n n)] = some F)
    (hx : a.eval x = .slice (some ⟨c, 0, none⟩) (p + 1) (p + 1)) (hy : a.eval y = .slice (some ⟨s, 0, none⟩) n n) (w : World) : (execOp a.eval o).run Try.prog w = .ok (.value (.agg F)) w := by
  have hr := run_build (P := Try.prog) w 103 #[(14, .slice (some ⟨c, 0, none⟩) (p + 1) (p + 1)), (13, .slice (some ⟨s, 0, none⟩) n n)] F hF
  simp [execOp, ho, hx, hy, hr, Result.andThen]

theorem ms_new {w : World} {M C S p n : Nat} {mc : Array Value} (hM : w.heap[M]? = some (.cells mc 103 (0, 0))) (h1 : mc[31]? = some (.slice (some ⟨S, 0, none⟩) n n)) (h2 : mc[32]? = some (.slice (some ⟨C, 0, none⟩) (p + 1) (p + 1))) (h3 : mc[33]? = some (.slice none 0 0)) (h4 : mc[37]? = some (.slice none 0 0))
    (hC : w.heap[C]? = some (.cells (madeCells z105.cells ((p + 1) * 3)) 105 (0, 0))) (hS : w.heap[S]? = some (.cells (madeCells z107.cells (n * 11)) 107 (0, 0))) :
    MS w M C S p n 0 0 (fun _ => ⟨false, 0, 0, 0⟩) (.slice none 0 0) (.slice none 0 0) := by
  refine ⟨⟨mc, hM, h1, h2, h3, h4⟩, ⟨_, hC, ?_, ?_⟩, ⟨_, hS, fun i hi => ?_⟩⟩
  · rw [made_at _ _ _ (by omega)]
    have e : p * 3 % z105.cells.size = 0 := by
      show p * 3 % 3 = 0
      omega
    rw [e]
    rfl
  · rw [made_at _ _ _ (by omega)]
    have e : (p * 3 + 1) % z105.cells.size = 1 := by
      show (p * 3 + 1) % 3 = 1
      omega
    rw [e]
    rfl
  · have e : ∀ r, r < 11 → (i * 11 + r) % z107.cells.size = r := by
      intro r hr
      show (i * 11 + r) % 11 = r
      omega
    refine ⟨?_, ?_, ?_, ?_⟩
    · rw [made_at _ _ _ (by omega), e 3 (by omega)]
      rfl
    · rw [made_at _ _ _ (by omega), e 4 (by omega)]
      rfl
    · rw [made_at _ _ _ (by omega), e 5 (by omega)]
      rfl
    · rw [made_at _ _ _ (by omega), e 6 (by omega)]
      rfl

theorem three_allocs (w : World) (a b c : Obj) : (((w.alloc a).alloc b).alloc c).heap[w.heap.size]? = some a ∧ (((w.alloc a).alloc b).alloc c).heap[w.heap.size + 1]? = some b ∧ (((w.alloc a).alloc b).alloc c).heap[w.heap.size + 2]? = some c := by
  have s1 : (w.alloc a).heap.size = w.heap.size + 1 := by simp
  have s2 : ((w.alloc a).alloc b).heap.size = w.heap.size + 2 := by simp
  refine ⟨?_, ?_, ?_⟩
  · rw [Below.heap_alloc _ _ _ (by omega)]
    exact heap_alloc2_old w a b
  · rw [Below.heap_alloc _ _ _ (by omega)]
    exact heap_alloc2_new w a b
  · have h := heap_alloc_new ((w.alloc a).alloc b) c
    rw [s2] at h
    exact h

set_option maxRecDepth 100000 in
set_option maxHeartbeats 1000000 in
theorem new_any (w : World) (p n : Nat) (hp : p ≤ 65536) (hn : n ≤ 65536) :
    Calls Try.prog 21 #[.int .i64 ((p : Int) + 1), .int .i64 n] w fun e w' => ∃ M C S, e = .returned (.pointer (some ⟨M, 0, none⟩)) ∧ MS w' M C S p n 0 0 (fun _ => ⟨false, 0, 0, 0⟩) (.slice none 0 0) (.slice none 0 0) ∧ Below w.heap.size w w' ∧ w.heap.size ≤ M ∧ w.heap.size ≤ C ∧ w.heap.size ≤ S := by
  have h1 := fun w' => mk69 w' p (by omega)
  have h2 := fun w' => mk70 w' n (by omega)
  obtain ⟨oc, hoc⟩ : ∃ oc, Hid (oc = Obj.cells (madeCells z105.cells ((p + 1) * 3)) 105) := ⟨_, rfl⟩
  obtain ⟨os, hos⟩ : ∃ os, Hid (os = Obj.cells (madeCells z107.cells (n * 11)) 107) := ⟨_, rfl⟩
  rw [← hoc.out] at h1
  rw [← hos.out] at h2
  have b3 : ∀ a b c : Obj, Below w.heap.size w (((w.alloc a).alloc b).alloc c) := fun a b c => (((Below.refl _ _).alloc (Nat.le_refl _) _).alloc (by simp) _).alloc (by simp; omega) _
  have B3 : Hid _ := b3
  clear b3
  obtain ⟨F1, hF1, f1, f2, f3, f4⟩ := built103 p n w.heap.size (w.heap.size + 1)
  obtain ⟨F2, hF2, e1, e2, e3, e4⟩ := built103 p n (w.heap.size + 1) w.heap.size
  go_enter Try.func21, Try.ntmps21
  go_wp2
  refine wp_region_any (by kernel_rfl) ?_
  change wpAny _ _ _ _ _ _ _ (World.drew _)
  refine wpAny_take (i := 0) (v := .int .i64 ((p : Int) + 1)) rfl (by kernel_rfl) (by kernel_rfl) (by kernel_rfl) (fun _ _ _ h => h) (Or.inl ⟨by rfl, fun _ => by rfl⟩) ?_
  refine wpAny_take (i := 2) (v := .int .i64 n) rfl (by kernel_rfl) (by kernel_rfl) (by kernel_rfl) (fun _ _ _ h => h) (Or.inl ⟨by rfl, fun _ => by rfl⟩) ?_
  refine wpAny_ready (rs := [1, 3]) (by kernel_rfl) (by simp) ?_
  refine AllReady.cons rfl (fun K hK => ?_) (AllReady.cons rfl (fun K hK => ?_) AllReady.nil)
  · go_simp
    refine hK _ _ ?_
    clear hK K
    refine wpAny_ready (rs := [3]) (by kernel_rfl) (by simp) ?_
    refine AllReady.cons rfl (fun K hK => ?_) AllReady.nil
    go_simp
    refine hK _ _ ?_
    clear hK K
    refine wpAny_take (i := 4) (v := .agg F1) rfl (by kernel_rfl) (by kernel_rfl) (by kernel_rfl) (fun _ _ _ h => h) (Or.inl ⟨by rfl, exec_build103 (.tmp 6) (.tmp 8) rfl p n w.heap.size (w.heap.size + 1) F1 hF1 rfl rfl⟩) ?_
    refine wpAny_ready (rs := [5]) (by kernel_rfl) (by simp) ?_
    refine AllReady.cons rfl (fun K hK => ?_) AllReady.nil
    go_simp
    refine hK _ _ ?_
    clear hK K
    refine wpAny_take (i := 6) (v := .pointer (some ⟨w.heap.size + 1 + 1, 0, none⟩)) rfl (by kernel_rfl) (by kernel_rfl) (by kernel_rfl) (fun _ _ _ h => h) (Or.inl ⟨by rfl, fun _ => by rfl⟩) ?_
    refine wpAny_done (by kernel_rfl) ?_ _
    go_wp2
    go_ret
    obtain ⟨t1, t2, t3⟩ := three_allocs w oc os (.cells F1 103)
    exact ⟨w.heap.size + 2, w.heap.size, w.heap.size + 1, rfl, (ms_new t3 f1 f2 f3 f4 (by rw [t1, hoc.out]) (by rw [t2, hos.out])).drew, (B3.out _ _ _).drew, by omega, by omega, by omega⟩
  · go_simp
    refine hK _ _ ?_
    clear hK K
    refine wpAny_ready (rs := [1]) (by kernel_rfl) (by simp) ?_
    refine AllReady.cons rfl (fun K hK => ?_) AllReady.nil
    go_simp
    refine hK _ _ ?_
    clear hK K
    refine wpAny_take (i := 4) (v := .agg F2) rfl (by kernel_rfl) (by kernel_rfl) (by kernel_rfl) (fun _ _ _ h => h) (Or.inl ⟨by rfl, exec_build103 (.tmp 6) (.tmp 8) rfl p n (w.heap.size + 1) w.heap.size F2 hF2 rfl rfl⟩) ?_
    refine wpAny_ready (rs := [5]) (by kernel_rfl) (by simp) ?_
    refine AllReady.cons rfl (fun K hK => ?_) AllReady.nil
    go_simp
    refine hK _ _ ?_
    clear hK K
    refine wpAny_take (i := 6) (v := .pointer (some ⟨w.heap.size + 1 + 1, 0, none⟩)) rfl (by kernel_rfl) (by kernel_rfl) (by kernel_rfl) (fun _ _ _ h => h) (Or.inl ⟨by rfl, fun _ => by rfl⟩) ?_
    refine wpAny_done (by kernel_rfl) ?_ _
    go_wp2
    go_ret
    obtain ⟨t1, t2, t3⟩ := three_allocs w os oc (.cells F2 103)
    exact ⟨w.heap.size + 2, w.heap.size + 1, w.heap.size, rfl, (ms_new t3 e1 e2 e3 e4 (by rw [t2, hoc.out]) (by rw [t1, hos.out])).drew, (B3.out _ _ _).drew, by omega, by omega, by omega⟩

theorem below_dN {B : Nat} {a w : World} (h : Below B a w) (q : Nat) : Below B a (w.drewN q) := ⟨h.os, h.tape, h.output, h.size, h.block⟩

/-- k matches of pattern p + 1 behind the address. -/
def Row3 (w : World) (go : Option Addr) (k : Nat) (p : Nat) (st en : Nat → Int) : Prop :=
  0 < k → ∃ b, go = some ⟨b, 0, none⟩ ∧ b < w.heap.size ∧ ∀ i, i < k → w.cell? ⟨b, i * 3, none⟩ = some (.int .i64 ((p : Int) + 1)) ∧ w.cell? ⟨b, i * 3 + 1, none⟩ = some (.int .i64 (st i)) ∧ w.cell? ⟨b, i * 3 + 2, none⟩ = some (.int .i64 (en i))

set_option maxHeartbeats 2000000 in
theorem matchesAre_any (w : World) (go so eo : Option Addr) (k p n cap sc ec : Nat) (st en : Nat → Int) (hg : Row3 w go k p st en) (hs : Row1 w so n (fun i => .int .i64 (st i))) (he : Row1 w eo n (fun i => .int .i64 (en i))) (hk : k ≤ n) (hn : n ≤ 65536) (hp : p ≤ 65536) :
    Calls Try.prog 29 #[.slice go k cap, .int .i64 0, .int .i64 p, .int .i64 k, .slice so n sc, .slice eo n ec] w fun e w' => e = .returned (.bool true) ∧ Below w.heap.size w w' := by
  have hk' : (k : Int) ≤ 65536 := by omega
  have hp' : (p : Int) ≤ 65536 := by omega
  go_enter Try.func29, Try.ntmps29
  go_wp2
  go_loopw [13] (fun i wr => ∃ j : Nat, j ≤ k ∧ i = .int .i64 j ∧ Below w.heap.size w wr) (fun i _ => k - (intOf i).toNat)
  case atStart => exact ⟨0, Nat.zero_le _, rfl, Below.refl _ _⟩
  case round =>
    obtain ⟨j, hj, rfl, hbel⟩ := hrel
    by_cases hlt : (j : Int) < (k : Int)
    · obtain ⟨b, rfl, hblt, hc⟩ := hg (by omega)
      obtain ⟨c1, c2, c3⟩ := hc j (by omega)
      obtain ⟨sb, sof, rfl, hslt, hsc⟩ := hs (by omega)
      obtain ⟨eb, eof, rfl, helt, hec⟩ := he (by omega)
      have s1 := hsc j (by omega)
      have s2 := hec j (by omega)
      rw [← hbel.cell (by exact hblt)] at c1 c2 c3
      rw [← hbel.cell (by exact hslt)] at s1
      rw [← hbel.cell (by exact helt)] at s2
      have hsz := hbel.size
      have l1 : b < wr.heap.size := by omega
      have l2 : sb < wr.heap.size := by omega
      have l3 : eb < wr.heap.size := by omega
      have j0 : (0 : Int) ≤ (j : Int) := Int.natCast_nonneg _
      have j1 : (j : Int) < (n : Int) := by omega
      have hw : IntKind.i64.wrap ((p : Int) + 1) = (p : Int) + 1 := by rw [IntKind.wrap_i64]; omega
      have HB : Hid (Below w.heap.size w wr) := hbel
      clear hc hsc hec hg hs he hbel
      go_wp2_with fail
      go_quiet (fail)
      go_wp2
      go_roundw
      case rel => exact ⟨j + 1, by omega, by go_num, below_dN (HB.out.alloc hsz _) _⟩
      case measure =>
        simp [intOf]
        omega
    · obtain rfl : j = k := by omega
      go_wp2
      go_ret
      exact ⟨rfl, hbel⟩
end Go.Proofs.Qxb6613362a
