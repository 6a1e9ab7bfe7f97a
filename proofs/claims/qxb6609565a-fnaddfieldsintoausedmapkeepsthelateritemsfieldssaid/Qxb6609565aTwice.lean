/-
  THE WALK of ZZaddFieldsTwice: four cases, by which of the two items is mutable.
-/
import Derived.Test.Qxb6609565aItem
import Derived.Laws.CopyOwn
import Derived.Laws.Tables
import Derived.Deep.RegionWith
namespace Go.Proofs.Qxb6609565a
open Go.RowKit
set_option linter.unusedVariables false

def zeros26 : Array Value := #[.int .i64 0, .bool false, .slice none 0 0, .bool false, .bool false, .slice none 0 0, .bool false, .bool false, .int .i64 0, .bool false, .slice none 0 0, .bool false, .bool false]
theorem size26 : (Try.prog.info? 26).map (fun i => i.size) = some 13 := by kernel_rfl

theorem setRow_at {w : World} {g : Nat} {old cs : Array Value} {t : TypeId} {fr : Nat × Nat} (h : w.heap[g]? = some (.cells old t fr)) : (w.setRow g cs).heap[g]? = some (.cells cs t fr) := by
  simp [World.setRow, Array.getElem?_modify, h]

def ent2 (V K : Value) : Array MapEntry := #[{ key := .string ⟨#[118]⟩, val := .iface 30 V, born := 0 }, { key := .string ⟨#[107]⟩, val := .iface 22 K, born := 1 }]
def ent3 (V K : Value) (q : Int) : Array MapEntry := #[{ key := .string ⟨#[118]⟩, val := .iface 30 V, born := 0 }, { key := .string ⟨#[107]⟩, val := .iface 22 K, born := 1 }, { key := .string ⟨#[115, 101, 113]⟩, val := .iface 2 (.int .i64 q), born := 2 }]

theorem put_v0 (V : Value) : Put #[] 0 ⟨#[118]⟩ (.iface 30 V) (ent1 V) 1 := .inl ⟨rfl, rfl, rfl⟩
theorem put_v1 (V V' : Value) : Put (ent1 V) 1 ⟨#[118]⟩ (.iface 30 V') (ent1 V') 1 := .inr ⟨0, _, rfl, rfl, rfl, rfl, rfl⟩
theorem put_k1 (V K : Value) : Put (ent1 V) 1 ⟨#[107]⟩ (.iface 22 K) (ent2 V K) 2 := .inl ⟨rfl, rfl, rfl⟩
theorem put_q2 (V K : Value) (q : Int) : Put (ent2 V K) 2 ⟨#[115, 101, 113]⟩ (.iface 2 (.int .i64 q)) (ent3 V K q) 3 := .inl ⟨rfl, rfl, rfl⟩
theorem put_g3 (V K G : Value) (q : Int) : Put (ent3 V K q) 3 ⟨#[115, 105, 103]⟩ (.iface 22 G) (ent4 V K G q) 4 := .inl ⟨rfl, rfl, rfl⟩
theorem put_v4 (V K G V' : Value) (q : Int) : Put (ent4 V K G q) 4 ⟨#[118]⟩ (.iface 30 V') (ent4 V' K G q) 4 := .inr ⟨0, _, rfl, rfl, rfl, rfl, rfl⟩
theorem put_k4 (V K G K' : Value) (q : Int) : Put (ent4 V K G q) 4 ⟨#[107]⟩ (.iface 22 K') (ent4 V K' G q) 4 := .inr ⟨1, _, rfl, rfl, rfl, rfl, rfl⟩
theorem put_q4 (V K G : Value) (q q' : Int) : Put (ent4 V K G q) 4 ⟨#[115, 101, 113]⟩ (.iface 2 (.int .i64 q')) (ent4 V K G q') 4 := .inr ⟨2, _, rfl, rfl, rfl, rfl, rfl⟩
theorem put_g4 (V K G G' : Value) (q : Int) : Put (ent4 V K G q) 4 ⟨#[115, 105, 103]⟩ (.iface 22 G') (ent4 V K G' q) 4 := .inr ⟨3, _, rfl, rfl, rfl, rfl, rfl⟩

set_option maxHeartbeats 2000000 in
theorem twice_ff (w : World) (aq bq : Int) (aka bka : Addr) (avo aso ago bvo bso bgo : Option Addr) (avn avc akn akc asn asc agn agc bvn bvc bkn bkc bsn bsc bgn bgc : Nat) :
    Calls Try.prog 6 #[.slice avo avn avc, .slice none 0 0, .slice aso asn asc, .int .i64 aq, .slice ago agn agc, .slice bvo bvn bvc, .slice none 0 0, .slice bso bsn bsc, .int .i64 bq, .slice bgo bgn bgc] w fun e w' =>
      e = .returned (.agg #[.int .i64 1, .bool true, .slice bvo bvn bvc, .bool bvo.isNone, .bool false, .slice none 0 0, .bool true, .bool false, .int .i64 0, .bool false, .slice none 0 0, .bool true, .bool false]) ∧ Below w.heap.size w w' := by
  have hmm := @run_makeMap Try.prog
  go_enter Try.func6, Try.ntmps6
  go_wp2_with (first
    | (go_at_call_of 8 (Value.agg #[.slice avo avn avc, .slice none 0 0, .slice aso asn asc, .int .i64 aq, .slice ago agn agc]); refine (add_imm _ (w.heap.size + 1) 0 1 #[] (ent1 (.slice avo avn avc)) aq avo aso ago avn avc asn asc agn agc (heap_alloc2_new w _ _) (put_v0 _)).mono ?_; rintro e w1 ⟨rfl, hb1, hg1⟩; have A1 : w1.heap[w.heap.size]? = some (.cells zeros26 26 (0, 0)) := (hg1.block w.heap.size (by simp; omega) (by simp)).trans (heap_alloc2_old w _ _))
    | (go_at_call_of 8 (Value.agg #[.slice bvo bvn bvc, .slice none 0 0, .slice bso bsn bsc, .int .i64 bq, .slice bgo bgn bgc]); refine (add_imm _ (w.heap.size + 1) 1 1 _ (ent1 (.slice bvo bvn bvc)) bq bvo bso bgo bvn bvc bsn bsc bgn bgc hb1 (put_v1 _ _)).mono ?_; rintro e w2 ⟨rfl, hb2, hg2⟩; have A2 := (hg2.block w.heap.size (lt_map A1) (by simp)).trans A1)
    | (go_at_call 9; refine (read_one _ (w.heap.size + 1) bvo bvn bvc hb2).mono ?_; rintro e w3 ⟨rfl, hb3⟩; have A3 := (hb3.block w.heap.size (lt_map A2)).trans A2)
    | (refine wpList_store_row rfl 26 (.tmp 20) (.tmp 40) rfl w.heap.size #[.int .i64 1, .bool true, .slice bvo bvn bvc, .bool bvo.isNone, .bool false, .slice none 0 0, .bool true, .bool false, .int .i64 0, .bool false, .slice none 0 0, .bool true, .bool false] rfl rfl 26 zeros26 A3 size26 rfl (by simp [Value.oneCell']) ?_))
  refine bodyPost_ret (results_cell_row rfl _ _ w.heap.size 26 #[.int .i64 1, .bool true, .slice bvo bvn bvc, .bool bvo.isNone, .bool false, .slice none 0 0, .bool true, .bool false, .int .i64 0, .bool false, .slice none 0 0, .bool true, .bool false] (0, 0) _ rfl (setRow_at A3) Try.underlying26 rfl size26) rfl ?_
  refine ⟨rfl, below_setRow ?_ (Nat.le_refl _) _⟩
  have b1 : Below w.heap.size w w1 := (((Below.refl _ _).alloc (Nat.le_refl _) _).alloc (by simp) _).grown hg1 (by simp; omega) (fun k h => by cases h; omega)
  have b2 : Below w.heap.size w w2 := b1.grown hg2 b1.size (fun k h => by cases h; omega)
  exact b2.trans (hb3.mono b2.size)

set_option maxHeartbeats 2000000 in
theorem twice_ft (w : World) (aq bq : Int) (aka bka : Addr) (avo aso ago bvo bso bgo : Option Addr) (avn avc akn akc asn asc agn agc bvn bvc bkn bkc bsn bsc bgn bgc : Nat) :
    Calls Try.prog 6 #[.slice avo avn avc, .slice none 0 0, .slice aso asn asc, .int .i64 aq, .slice ago agn agc, .slice bvo bvn bvc, .slice (some bka) bkn bkc, .slice bso bsn bsc, .int .i64 bq, .slice bgo bgn bgc] w fun e w' =>
      e = .returned (.agg #[.int .i64 4, .bool true, .slice bvo bvn bvc, .bool bvo.isNone, .bool true, .slice (some bka) bkn bkc, .bool false, .bool true, .int .i64 bq, .bool true, .slice bgo bgn bgc, .bool bgo.isNone, .bool false]) ∧ Below w.heap.size w w' := by
  have hmm := @run_makeMap Try.prog
  go_enter Try.func6, Try.ntmps6
  go_wp2_with (first
    | (go_at_call_of 8 (Value.agg #[.slice avo avn avc, .slice none 0 0, .slice aso asn asc, .int .i64 aq, .slice ago agn agc]); refine (add_imm _ (w.heap.size + 1) 0 1 #[] (ent1 (.slice avo avn avc)) aq avo aso ago avn avc asn asc agn agc (heap_alloc2_new w _ _) (put_v0 _)).mono ?_; rintro e w1 ⟨rfl, hb1, hg1⟩; have A1 : w1.heap[w.heap.size]? = some (.cells zeros26 26 (0, 0)) := (hg1.block w.heap.size (by simp; omega) (by simp)).trans (heap_alloc2_old w _ _))
    | (go_at_call_of 8 (Value.agg #[.slice bvo bvn bvc, .slice (some bka) bkn bkc, .slice bso bsn bsc, .int .i64 bq, .slice bgo bgn bgc]); refine (add_mut _ (w.heap.size + 1) 1 1 2 3 4 _ (ent1 (.slice bvo bvn bvc)) (ent2 (.slice bvo bvn bvc) (.slice (some bka) bkn bkc)) (ent3 (.slice bvo bvn bvc) (.slice (some bka) bkn bkc) bq) (ent4 (.slice bvo bvn bvc) (.slice (some bka) bkn bkc) (.slice bgo bgn bgc) bq) bq bka bvo bso bgo bvn bvc bkn bkc bsn bsc bgn bgc hb1 (put_v1 _ _) (put_k1 _ _) (put_q2 _ _ _) (put_g3 _ _ _ _)).mono ?_; rintro e w2 ⟨rfl, hb2, hg2⟩; have A2 := (hg2.block w.heap.size (lt_map A1) (by simp)).trans A1)
    | (go_at_call 9; refine (read_four _ (w.heap.size + 1) bq bvo (some bka) bgo bvn bvc bkn bkc bgn bgc hb2).mono ?_; rintro e w3 ⟨rfl, hb3⟩; have A3 := (hb3.block w.heap.size (lt_map A2)).trans A2)
    | (refine wpList_store_row rfl 26 (.tmp 20) (.tmp 40) rfl w.heap.size #[.int .i64 4, .bool true, .slice bvo bvn bvc, .bool bvo.isNone, .bool true, .slice (some bka) bkn bkc, .bool false, .bool true, .int .i64 bq, .bool true, .slice bgo bgn bgc, .bool bgo.isNone, .bool false] rfl rfl 26 zeros26 A3 size26 rfl (by simp [Value.oneCell']) ?_))
  refine bodyPost_ret (results_cell_row rfl _ _ w.heap.size 26 #[.int .i64 4, .bool true, .slice bvo bvn bvc, .bool bvo.isNone, .bool true, .slice (some bka) bkn bkc, .bool false, .bool true, .int .i64 bq, .bool true, .slice bgo bgn bgc, .bool bgo.isNone, .bool false] (0, 0) _ rfl (setRow_at A3) Try.underlying26 rfl size26) rfl ?_
  refine ⟨rfl, below_setRow ?_ (Nat.le_refl _) _⟩
  have b1 : Below w.heap.size w w1 := (((Below.refl _ _).alloc (Nat.le_refl _) _).alloc (by simp) _).grown hg1 (by simp; omega) (fun k h => by cases h; omega)
  have b2 : Below w.heap.size w w2 := b1.grown hg2 b1.size (fun k h => by cases h; omega)
  exact b2.trans (hb3.mono b2.size)

set_option maxHeartbeats 2000000 in
theorem twice_tf (w : World) (aq bq : Int) (aka bka : Addr) (avo aso ago bvo bso bgo : Option Addr) (avn avc akn akc asn asc agn agc bvn bvc bkn bkc bsn bsc bgn bgc : Nat) :
    Calls Try.prog 6 #[.slice avo avn avc, .slice (some aka) akn akc, .slice aso asn asc, .int .i64 aq, .slice ago agn agc, .slice bvo bvn bvc, .slice none 0 0, .slice bso bsn bsc, .int .i64 bq, .slice bgo bgn bgc] w fun e w' =>
      e = .returned (.agg #[.int .i64 4, .bool true, .slice bvo bvn bvc, .bool bvo.isNone, .bool true, .slice (some aka) akn akc, .bool false, .bool true, .int .i64 aq, .bool true, .slice ago agn agc, .bool ago.isNone, .bool false]) ∧ Below w.heap.size w w' := by
  have hmm := @run_makeMap Try.prog
  go_enter Try.func6, Try.ntmps6
  go_wp2_with (first
    | (go_at_call_of 8 (Value.agg #[.slice avo avn avc, .slice (some aka) akn akc, .slice aso asn asc, .int .i64 aq, .slice ago agn agc]); refine (add_mut _ (w.heap.size + 1) 0 1 2 3 4 #[] (ent1 (.slice avo avn avc)) (ent2 (.slice avo avn avc) (.slice (some aka) akn akc)) (ent3 (.slice avo avn avc) (.slice (some aka) akn akc) aq) (ent4 (.slice avo avn avc) (.slice (some aka) akn akc) (.slice ago agn agc) aq) aq aka avo aso ago avn avc akn akc asn asc agn agc (heap_alloc2_new w _ _) (put_v0 _) (put_k1 _ _) (put_q2 _ _ _) (put_g3 _ _ _ _)).mono ?_; rintro e w1 ⟨rfl, hb1, hg1⟩; have A1 : w1.heap[w.heap.size]? = some (.cells zeros26 26 (0, 0)) := (hg1.block w.heap.size (by simp; omega) (by simp)).trans (heap_alloc2_old w _ _))
    | (go_at_call_of 8 (Value.agg #[.slice bvo bvn bvc, .slice none 0 0, .slice bso bsn bsc, .int .i64 bq, .slice bgo bgn bgc]); refine (add_imm _ (w.heap.size + 1) 4 4 _ (ent4 (.slice bvo bvn bvc) (.slice (some aka) akn akc) (.slice ago agn agc) aq) bq bvo bso bgo bvn bvc bsn bsc bgn bgc hb1 (put_v4 _ _ _ _ _)).mono ?_; rintro e w2 ⟨rfl, hb2, hg2⟩; have A2 := (hg2.block w.heap.size (lt_map A1) (by simp)).trans A1)
    | (go_at_call 9; refine (read_four _ (w.heap.size + 1) aq bvo (some aka) ago bvn bvc akn akc agn agc hb2).mono ?_; rintro e w3 ⟨rfl, hb3⟩; have A3 := (hb3.block w.heap.size (lt_map A2)).trans A2)
    | (refine wpList_store_row rfl 26 (.tmp 20) (.tmp 40) rfl w.heap.size #[.int .i64 4, .bool true, .slice bvo bvn bvc, .bool bvo.isNone, .bool true, .slice (some aka) akn akc, .bool false, .bool true, .int .i64 aq, .bool true, .slice ago agn agc, .bool ago.isNone, .bool false] rfl rfl 26 zeros26 A3 size26 rfl (by simp [Value.oneCell']) ?_))
  refine bodyPost_ret (results_cell_row rfl _ _ w.heap.size 26 #[.int .i64 4, .bool true, .slice bvo bvn bvc, .bool bvo.isNone, .bool true, .slice (some aka) akn akc, .bool false, .bool true, .int .i64 aq, .bool true, .slice ago agn agc, .bool ago.isNone, .bool false] (0, 0) _ rfl (setRow_at A3) Try.underlying26 rfl size26) rfl ?_
  refine ⟨rfl, below_setRow ?_ (Nat.le_refl _) _⟩
  have b1 : Below w.heap.size w w1 := (((Below.refl _ _).alloc (Nat.le_refl _) _).alloc (by simp) _).grown hg1 (by simp; omega) (fun k h => by cases h; omega)
  have b2 : Below w.heap.size w w2 := b1.grown hg2 b1.size (fun k h => by cases h; omega)
  exact b2.trans (hb3.mono b2.size)

set_option maxHeartbeats 2000000 in
theorem twice_tt (w : World) (aq bq : Int) (aka bka : Addr) (avo aso ago bvo bso bgo : Option Addr) (avn avc akn akc asn asc agn agc bvn bvc bkn bkc bsn bsc bgn bgc : Nat) :
    Calls Try.prog 6 #[.slice avo avn avc, .slice (some aka) akn akc, .slice aso asn asc, .int .i64 aq, .slice ago agn agc, .slice bvo bvn bvc, .slice (some bka) bkn bkc, .slice bso bsn bsc, .int .i64 bq, .slice bgo bgn bgc] w fun e w' =>
      e = .returned (.agg #[.int .i64 4, .bool true, .slice bvo bvn bvc, .bool bvo.isNone, .bool true, .slice (some bka) bkn bkc, .bool false, .bool true, .int .i64 bq, .bool true, .slice bgo bgn bgc, .bool bgo.isNone, .bool false]) ∧ Below w.heap.size w w' := by
  have hmm := @run_makeMap Try.prog
  go_enter Try.func6, Try.ntmps6
  go_wp2_with (first
    | (go_at_call_of 8 (Value.agg #[.slice avo avn avc, .slice (some aka) akn akc, .slice aso asn asc, .int .i64 aq, .slice ago agn agc]); refine (add_mut _ (w.heap.size + 1) 0 1 2 3 4 #[] (ent1 (.slice avo avn avc)) (ent2 (.slice avo avn avc) (.slice (some aka) akn akc)) (ent3 (.slice avo avn avc) (.slice (some aka) akn akc) aq) (ent4 (.slice avo avn avc) (.slice (some aka) akn akc) (.slice ago agn agc) aq) aq aka avo aso ago avn avc akn akc asn asc agn agc (heap_alloc2_new w _ _) (put_v0 _) (put_k1 _ _) (put_q2 _ _ _) (put_g3 _ _ _ _)).mono ?_; rintro e w1 ⟨rfl, hb1, hg1⟩; have A1 : w1.heap[w.heap.size]? = some (.cells zeros26 26 (0, 0)) := (hg1.block w.heap.size (by simp; omega) (by simp)).trans (heap_alloc2_old w _ _))
    | (go_at_call_of 8 (Value.agg #[.slice bvo bvn bvc, .slice (some bka) bkn bkc, .slice bso bsn bsc, .int .i64 bq, .slice bgo bgn bgc]); refine (add_mut _ (w.heap.size + 1) 4 4 4 4 4 _ (ent4 (.slice bvo bvn bvc) (.slice (some aka) akn akc) (.slice ago agn agc) aq) (ent4 (.slice bvo bvn bvc) (.slice (some bka) bkn bkc) (.slice ago agn agc) aq) (ent4 (.slice bvo bvn bvc) (.slice (some bka) bkn bkc) (.slice ago agn agc) bq) (ent4 (.slice bvo bvn bvc) (.slice (some bka) bkn bkc) (.slice bgo bgn bgc) bq) bq bka bvo bso bgo bvn bvc bkn bkc bsn bsc bgn bgc hb1 (put_v4 _ _ _ _ _) (put_k4 _ _ _ _ _) (put_q4 _ _ _ _ _) (put_g4 _ _ _ _ _)).mono ?_; rintro e w2 ⟨rfl, hb2, hg2⟩; have A2 := (hg2.block w.heap.size (lt_map A1) (by simp)).trans A1)
    | (go_at_call 9; refine (read_four _ (w.heap.size + 1) bq bvo (some bka) bgo bvn bvc bkn bkc bgn bgc hb2).mono ?_; rintro e w3 ⟨rfl, hb3⟩; have A3 := (hb3.block w.heap.size (lt_map A2)).trans A2)
    | (refine wpList_store_row rfl 26 (.tmp 20) (.tmp 40) rfl w.heap.size #[.int .i64 4, .bool true, .slice bvo bvn bvc, .bool bvo.isNone, .bool true, .slice (some bka) bkn bkc, .bool false, .bool true, .int .i64 bq, .bool true, .slice bgo bgn bgc, .bool bgo.isNone, .bool false] rfl rfl 26 zeros26 A3 size26 rfl (by simp [Value.oneCell']) ?_))
  refine bodyPost_ret (results_cell_row rfl _ _ w.heap.size 26 #[.int .i64 4, .bool true, .slice bvo bvn bvc, .bool bvo.isNone, .bool true, .slice (some bka) bkn bkc, .bool false, .bool true, .int .i64 bq, .bool true, .slice bgo bgn bgc, .bool bgo.isNone, .bool false] (0, 0) _ rfl (setRow_at A3) Try.underlying26 rfl size26) rfl ?_
  refine ⟨rfl, below_setRow ?_ (Nat.le_refl _) _⟩
  have b1 : Below w.heap.size w w1 := (((Below.refl _ _).alloc (Nat.le_refl _) _).alloc (by simp) _).grown hg1 (by simp; omega) (fun k h => by cases h; omega)
  have b2 : Below w.heap.size w w2 := b1.grown hg2 b1.size (fun k h => by cases h; omega)
  exact b2.trans (hb3.mono b2.size)

end Go.Proofs.Qxb6609565a
