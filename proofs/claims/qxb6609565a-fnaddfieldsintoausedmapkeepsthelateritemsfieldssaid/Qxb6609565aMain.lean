/-
  THE WALK of FnAddFieldsIntoAUsedMapKeepsTheLaterItemsFields.
-/
import Derived.Test.Qxb6609565aTwice
import Derived.Test.Qxb6609565aBytes
namespace Go.Proofs.Qxb6609565a
open Go.RowKit
set_option linter.unusedVariables false

theorem below_next {a w w' : World} (h : Below a.heap.size a w) (h' : Below w.heap.size w w') : Below a.heap.size a w' := h.trans (h'.mono h.size)
theorem Bytes.alloc {w : World} {ao : Option Addr} {n : Nat} (h : Bytes w ao n) (o : Obj) : Bytes (w.alloc o) ao n := h.later ((Below.refl _ _).alloc (Nat.le_refl _) _)
theorem below_drewN' {B : Nat} {a w : World} (h : Below B a w) (q : Nat) : Below B a (w.drewN q) := ⟨h.os, h.tape, h.output, h.size, h.block⟩

set_option maxHeartbeats 1000000 in
theorem total_any (w : World) (a0 a1 a2 a4 a5 a6 a7 a9 : Option Addr) (n0 c0 n1 c1 n2 c2 n4 c4 n5 c5 n6 c6 n7 c7 n9 c9 : Nat) (q r : Int) :
    Calls Try.prog 4 #[.slice a0 n0 c0, .slice a1 n1 c1, .slice a2 n2 c2, .int .i64 q, .slice a4 n4 c4, .slice a5 n5 c5, .slice a6 n6 c6, .slice a7 n7 c7, .int .i64 r, .slice a9 n9 c9] w fun e w' => ∃ X, e = .returned (.bool X) ∧ w = w' := by
  go_enter Try.func4, Try.ntmps4
  go_wp2
  all_goals
    go_ret
    exact ⟨_, rfl, rfl⟩

set_option maxRecDepth 100000 in
set_option maxHeartbeats 2000000 in
theorem main_big (w : World) (aq bq : Int) (avo ako aso ago bvo bko bso bgo : Option Addr) (avn avc akn akc asn asc agn agc bvn bvc bkn bkc bsn bsc bgn bgc : Nat) (h : ¬ (avn ≤ 131072 ∧ akn ≤ 131072 ∧ asn ≤ 131072 ∧ agn ≤ 131072 ∧ bvn ≤ 131072 ∧ bkn ≤ 131072 ∧ bsn ≤ 131072 ∧ bgn ≤ 131072)) :
    Calls Try.prog 3 #[.slice avo avn avc, .slice ako akn akc, .slice aso asn asc, .int .i64 aq, .slice ago agn agc, .slice bvo bvn bvc, .slice bko bkn bkc, .slice bso bsn bsc, .int .i64 bq, .slice bgo bgn bgc] w fun e w' => e = .returned (.bool true) ∧ Below w.heap.size w w' := by
  by_cases g0 : (131072 : Int) < (avn : Int)
  · go_enter Try.func3, Try.ntmps3
    go_wp2_with (go_at_call 4; refine (total_any _ avo ako aso ago bvo bko bso bgo avn avc akn akc asn asc agn agc bvn bvc bkn bkc bsn bsc bgn bgc aq bq).mono ?_; rintro e w' ⟨X, rfl, rfl⟩)
    all_goals
      go_ret
      exact ⟨rfl, Below.refl _ _⟩
  by_cases g1 : (131072 : Int) < (akn : Int)
  · go_enter Try.func3, Try.ntmps3
    go_wp2_with (go_at_call 4; refine (total_any _ avo ako aso ago bvo bko bso bgo avn avc akn akc asn asc agn agc bvn bvc bkn bkc bsn bsc bgn bgc aq bq).mono ?_; rintro e w' ⟨X, rfl, rfl⟩)
    all_goals
      go_ret
      exact ⟨rfl, Below.refl _ _⟩
  by_cases g2 : (131072 : Int) < (asn : Int)
  · go_enter Try.func3, Try.ntmps3
    go_wp2_with (go_at_call 4; refine (total_any _ avo ako aso ago bvo bko bso bgo avn avc akn akc asn asc agn agc bvn bvc bkn bkc bsn bsc bgn bgc aq bq).mono ?_; rintro e w' ⟨X, rfl, rfl⟩)
    all_goals
      go_ret
      exact ⟨rfl, Below.refl _ _⟩
  by_cases g3 : (131072 : Int) < (agn : Int)
  · go_enter Try.func3, Try.ntmps3
    go_wp2_with (go_at_call 4; refine (total_any _ avo ako aso ago bvo bko bso bgo avn avc akn akc asn asc agn agc bvn bvc bkn bkc bsn bsc bgn bgc aq bq).mono ?_; rintro e w' ⟨X, rfl, rfl⟩)
    all_goals
      go_ret
      exact ⟨rfl, Below.refl _ _⟩
  by_cases g4 : (131072 : Int) < (bvn : Int)
  · go_enter Try.func3, Try.ntmps3
    go_wp2_with (go_at_call 4; refine (total_any _ avo ako aso ago bvo bko bso bgo avn avc akn akc asn asc agn agc bvn bvc bkn bkc bsn bsc bgn bgc aq bq).mono ?_; rintro e w' ⟨X, rfl, rfl⟩)
    all_goals
      go_ret
      exact ⟨rfl, Below.refl _ _⟩
  by_cases g5 : (131072 : Int) < (bkn : Int)
  · go_enter Try.func3, Try.ntmps3
    go_wp2_with (go_at_call 4; refine (total_any _ avo ako aso ago bvo bko bso bgo avn avc akn akc asn asc agn agc bvn bvc bkn bkc bsn bsc bgn bgc aq bq).mono ?_; rintro e w' ⟨X, rfl, rfl⟩)
    all_goals
      go_ret
      exact ⟨rfl, Below.refl _ _⟩
  by_cases g6 : (131072 : Int) < (bsn : Int)
  · go_enter Try.func3, Try.ntmps3
    go_wp2_with (go_at_call 4; refine (total_any _ avo ako aso ago bvo bko bso bgo avn avc akn akc asn asc agn agc bvn bvc bkn bkc bsn bsc bgn bgc aq bq).mono ?_; rintro e w' ⟨X, rfl, rfl⟩)
    all_goals
      go_ret
      exact ⟨rfl, Below.refl _ _⟩
  by_cases g7 : (131072 : Int) < (bgn : Int)
  · go_enter Try.func3, Try.ntmps3
    go_wp2_with (go_at_call 4; refine (total_any _ avo ako aso ago bvo bko bso bgo avn avc akn akc asn asc agn agc bvn bvc bkn bkc bsn bsc bgn bgc aq bq).mono ?_; rintro e w' ⟨X, rfl, rfl⟩)
    all_goals
      go_ret
      exact ⟨rfl, Below.refl _ _⟩
  omega

set_option maxRecDepth 100000 in
set_option maxHeartbeats 8000000 in
theorem main_ff (w : World) (aq bq : Int) (aka bka : Addr) (avo aso ago bvo bso bgo : Option Addr) (avn avc akn akc asn asc agn agc bvn bvc bkn bkc bsn bsc bgn bgc : Nat)
    (Hav : Bytes w avo avn) (Nav : avo = none → avn = 0 ∧ avc = 0) (Lav : avn ≤ 131072)
    (Has : Bytes w aso asn) (Nas : aso = none → asn = 0 ∧ asc = 0) (Las : asn ≤ 131072)
    (Hag : Bytes w ago agn) (Nag : ago = none → agn = 0 ∧ agc = 0) (Lag : agn ≤ 131072)
    (Hbv : Bytes w bvo bvn) (Nbv : bvo = none → bvn = 0 ∧ bvc = 0) (Lbv : bvn ≤ 131072)
    (Hbs : Bytes w bso bsn) (Nbs : bso = none → bsn = 0 ∧ bsc = 0) (Lbs : bsn ≤ 131072)
    (Hbg : Bytes w bgo bgn) (Nbg : bgo = none → bgn = 0 ∧ bgc = 0) (Lbg : bgn ≤ 131072)
    : Calls Try.prog 3 #[.slice avo avn avc, .slice none 0 0, .slice aso asn asc, .int .i64 aq, .slice ago agn agc, .slice bvo bvn bvc, .slice none 0 0, .slice bso bsn bsc, .int .i64 bq, .slice bgo bgn bgc] w fun e w' => e = .returned (.bool true) ∧ Below w.heap.size w w' := by
  have Iav : (avn : Int) ≤ 131072 := by omega
  have Ias : (asn : Int) ≤ 131072 := by omega
  have Iag : (agn : Int) ≤ 131072 := by omega
  have Ibv : (bvn : Int) ≤ 131072 := by omega
  have Ibs : (bsn : Int) ≤ 131072 := by omega
  have Ibg : (bgn : Int) ≤ 131072 := by omega
  have e1 := eqn22
  have e2 := nen22
  go_enter Try.func3, Try.ntmps3
  go_wp2_with (first
    | (go_at_call 4; refine (total_any _ avo none aso ago bvo none bso bgo avn avc 0 0 asn asc agn agc bvn bvc 0 0 bsn bsc bgn bgc aq bq).mono ?_; rintro e w' ⟨X, rfl, hw⟩; subst hw)
    | (go_at_call_of 5 (Value.slice avo avn avc); refine (clone_any _ avo avn avc Hav Nav Lav).mono ?_; rintro e w1 ⟨avo', avc', rfl, Zav, Yav, Dav⟩; have Bw1 : Below w.heap.size w w1 := Dav)
    | (go_at_call_of 5 (Value.slice none 0 0); refine (clone_nil _).mono ?_; rintro e w' ⟨rfl, hw⟩; subst hw)
    | (go_at_call_of 5 (Value.slice aso asn asc); refine (clone_any _ aso asn asc (Has.later Bw1) Nas Las).mono ?_; rintro e w3 ⟨aso', asc', rfl, Zas, Yas, Das⟩; have Bw3 := below_next Bw1 Das)
    | (go_at_call_of 5 (Value.slice ago agn agc); refine (clone_any _ ago agn agc (Hag.later Bw3) Nag Lag).mono ?_; rintro e w4 ⟨ago', agc', rfl, Zag, Yag, Dag⟩; have Bw4 := below_next Bw3 Dag)
    | (go_at_call_of 5 (Value.slice bvo bvn bvc); refine (clone_any _ bvo bvn bvc (Hbv.later Bw4) Nbv Lbv).mono ?_; rintro e w5 ⟨bvo', bvc', rfl, Zbv, Ybv, Dbv⟩; have Bw5 := below_next Bw4 Dbv)
    | (go_at_call_of 5 (Value.slice bso bsn bsc); refine (clone_any _ bso bsn bsc (Hbs.later Bw5) Nbs Lbs).mono ?_; rintro e w7 ⟨bso', bsc', rfl, Zbs, Ybs, Dbs⟩; have Bw7 := below_next Bw5 Dbs)
    | (go_at_call_of 5 (Value.slice bgo bgn bgc); refine (clone_any _ bgo bgn bgc (Hbg.later Bw7) Nbg Lbg).mono ?_; rintro e w8 ⟨bgo', bgc', rfl, Zbg, Ybg, Dbg⟩; have Bw8 := below_next Bw7 Dbg)
    | (go_at_call 6; refine (twice_ff _ aq bq ⟨0, 0, none⟩ ⟨0, 0, none⟩ avo' aso' ago' bvo' bso' bgo' avn avc' 0 0 asn asc' agn agc' bvn bvc' 0 0 bsn bsc' bgn bgc').mono ?_; rintro e w9 ⟨rfl, D9⟩; have B9 := below_next Bw8 D9; have FV : Bytes w9 bvo' bvn := Ybv.later (below_next (below_next Dbs Dbg) D9))
    | (go_at_call_of 7 (Value.slice bvo' bvn bvc'); refine (eq_self _ bvo' bvn bvc' (by first | exact FV.alloc _ | exact (FV.alloc _).drewN _ | exact ((FV.alloc _).drewN _).drewN _) Lbv).mono ?_; rintro e w' ⟨rfl, q0, rfl⟩))
  all_goals
    go_ret
    first
      | exact ⟨rfl, Below.refl _ _⟩
      | exact ⟨rfl, below_drewN' (B9.alloc B9.size _) _⟩
      | exact ⟨rfl, below_drewN' (below_drewN' (B9.alloc B9.size _) _) _⟩
      | exact ⟨rfl, below_drewN' (below_drewN' (below_drewN' (B9.alloc B9.size _) _) _) _⟩

set_option maxRecDepth 100000 in
set_option maxHeartbeats 8000000 in
theorem main_ft (w : World) (aq bq : Int) (aka bka : Addr) (avo aso ago bvo bso bgo : Option Addr) (avn avc akn akc asn asc agn agc bvn bvc bkn bkc bsn bsc bgn bgc : Nat)
    (Hav : Bytes w avo avn) (Nav : avo = none → avn = 0 ∧ avc = 0) (Lav : avn ≤ 131072)
    (Has : Bytes w aso asn) (Nas : aso = none → asn = 0 ∧ asc = 0) (Las : asn ≤ 131072)
    (Hag : Bytes w ago agn) (Nag : ago = none → agn = 0 ∧ agc = 0) (Lag : agn ≤ 131072)
    (Hbv : Bytes w bvo bvn) (Nbv : bvo = none → bvn = 0 ∧ bvc = 0) (Lbv : bvn ≤ 131072)
    (Hbs : Bytes w bso bsn) (Nbs : bso = none → bsn = 0 ∧ bsc = 0) (Lbs : bsn ≤ 131072)
    (Hbg : Bytes w bgo bgn) (Nbg : bgo = none → bgn = 0 ∧ bgc = 0) (Lbg : bgn ≤ 131072)
    (Hbk : Bytes w (some bka) bkn) (Lbk : bkn ≤ 131072)
    : Calls Try.prog 3 #[.slice avo avn avc, .slice none 0 0, .slice aso asn asc, .int .i64 aq, .slice ago agn agc, .slice bvo bvn bvc, .slice (some bka) bkn bkc, .slice bso bsn bsc, .int .i64 bq, .slice bgo bgn bgc] w fun e w' => e = .returned (.bool true) ∧ Below w.heap.size w w' := by
  have Iav : (avn : Int) ≤ 131072 := by omega
  have Ias : (asn : Int) ≤ 131072 := by omega
  have Iag : (agn : Int) ≤ 131072 := by omega
  have Ibv : (bvn : Int) ≤ 131072 := by omega
  have Ibs : (bsn : Int) ≤ 131072 := by omega
  have Ibg : (bgn : Int) ≤ 131072 := by omega
  have Ibk : (bkn : Int) ≤ 131072 := by omega
  have e1 := eqn22
  have e2 := nen22
  go_enter Try.func3, Try.ntmps3
  go_wp2_with (first
    | (go_at_call 4; refine (total_any _ avo none aso ago bvo (some bka) bso bgo avn avc 0 0 asn asc agn agc bvn bvc bkn bkc bsn bsc bgn bgc aq bq).mono ?_; rintro e w' ⟨X, rfl, hw⟩; subst hw)
    | (go_at_call_of 5 (Value.slice avo avn avc); refine (clone_any _ avo avn avc Hav Nav Lav).mono ?_; rintro e w1 ⟨avo', avc', rfl, Zav, Yav, Dav⟩; have Bw1 : Below w.heap.size w w1 := Dav)
    | (go_at_call_of 5 (Value.slice none 0 0); refine (clone_nil _).mono ?_; rintro e w' ⟨rfl, hw⟩; subst hw)
    | (go_at_call_of 5 (Value.slice aso asn asc); refine (clone_any _ aso asn asc (Has.later Bw1) Nas Las).mono ?_; rintro e w3 ⟨aso', asc', rfl, Zas, Yas, Das⟩; have Bw3 := below_next Bw1 Das)
    | (go_at_call_of 5 (Value.slice ago agn agc); refine (clone_any _ ago agn agc (Hag.later Bw3) Nag Lag).mono ?_; rintro e w4 ⟨ago', agc', rfl, Zag, Yag, Dag⟩; have Bw4 := below_next Bw3 Dag)
    | (go_at_call_of 5 (Value.slice bvo bvn bvc); refine (clone_any _ bvo bvn bvc (Hbv.later Bw4) Nbv Lbv).mono ?_; rintro e w5 ⟨bvo', bvc', rfl, Zbv, Ybv, Dbv⟩; have Bw5 := below_next Bw4 Dbv)
    | (go_at_call_of 5 (Value.slice (some bka) bkn bkc); refine (clone_some _ bka bkn bkc (Hbk.later Bw5) Lbk).mono ?_; rintro e w6 ⟨rfl, Ybk, Dbk⟩; have Bw6 := below_next Bw5 Dbk)
    | (go_at_call_of 5 (Value.slice bso bsn bsc); refine (clone_any _ bso bsn bsc (Hbs.later Bw6) Nbs Lbs).mono ?_; rintro e w7 ⟨bso', bsc', rfl, Zbs, Ybs, Dbs⟩; have Bw7 := below_next Bw6 Dbs)
    | (go_at_call_of 5 (Value.slice bgo bgn bgc); refine (clone_any _ bgo bgn bgc (Hbg.later Bw7) Nbg Lbg).mono ?_; rintro e w8 ⟨bgo', bgc', rfl, Zbg, Ybg, Dbg⟩; have Bw8 := below_next Bw7 Dbg)
    | (go_at_call 6; refine (twice_ft _ aq bq ⟨0, 0, none⟩ ⟨w5.heap.size, 0, none⟩ avo' aso' ago' bvo' bso' bgo' avn avc' 0 0 asn asc' agn agc' bvn bvc' bkn bkn bsn bsc' bgn bgc').mono ?_; rintro e w9 ⟨rfl, D9⟩; have B9 := below_next Bw8 D9; have FV : Bytes w9 bvo' bvn := Ybv.later (below_next (below_next (below_next Dbk Dbs) Dbg) D9); have FK : Bytes w9 (some ⟨w5.heap.size, 0, none⟩) bkn := Ybk.later (below_next (below_next Dbs Dbg) D9); have FG : Bytes w9 bgo' bgn := Ybg.later D9)
    | (go_at_call_of 7 (Value.slice bvo' bvn bvc'); refine (eq_self _ bvo' bvn bvc' (by first | exact FV.alloc _ | exact (FV.alloc _).drewN _ | exact ((FV.alloc _).drewN _).drewN _) Lbv).mono ?_; rintro e w' ⟨rfl, q0, rfl⟩)
    | (go_at_call_of 7 (Value.slice (some ⟨w5.heap.size, 0, none⟩) bkn bkn); refine (eq_self _ (some ⟨w5.heap.size, 0, none⟩) bkn bkn (by first | exact FK.alloc _ | exact (FK.alloc _).drewN _ | exact ((FK.alloc _).drewN _).drewN _) Lbk).mono ?_; rintro e w' ⟨rfl, q1, rfl⟩)
    | (go_at_call_of 7 (Value.slice bgo' bgn bgc'); refine (eq_self _ bgo' bgn bgc' (by first | exact FG.alloc _ | exact (FG.alloc _).drewN _ | exact ((FG.alloc _).drewN _).drewN _) Lbg).mono ?_; rintro e w' ⟨rfl, q2, rfl⟩))
  all_goals
    go_ret
    first
      | exact ⟨rfl, Below.refl _ _⟩
      | exact ⟨rfl, below_drewN' (B9.alloc B9.size _) _⟩
      | exact ⟨rfl, below_drewN' (below_drewN' (B9.alloc B9.size _) _) _⟩
      | exact ⟨rfl, below_drewN' (below_drewN' (below_drewN' (B9.alloc B9.size _) _) _) _⟩

set_option maxRecDepth 100000 in
set_option maxHeartbeats 8000000 in
theorem main_tf (w : World) (aq bq : Int) (aka bka : Addr) (avo aso ago bvo bso bgo : Option Addr) (avn avc akn akc asn asc agn agc bvn bvc bkn bkc bsn bsc bgn bgc : Nat)
    (Hav : Bytes w avo avn) (Nav : avo = none → avn = 0 ∧ avc = 0) (Lav : avn ≤ 131072)
    (Has : Bytes w aso asn) (Nas : aso = none → asn = 0 ∧ asc = 0) (Las : asn ≤ 131072)
    (Hag : Bytes w ago agn) (Nag : ago = none → agn = 0 ∧ agc = 0) (Lag : agn ≤ 131072)
    (Hbv : Bytes w bvo bvn) (Nbv : bvo = none → bvn = 0 ∧ bvc = 0) (Lbv : bvn ≤ 131072)
    (Hbs : Bytes w bso bsn) (Nbs : bso = none → bsn = 0 ∧ bsc = 0) (Lbs : bsn ≤ 131072)
    (Hbg : Bytes w bgo bgn) (Nbg : bgo = none → bgn = 0 ∧ bgc = 0) (Lbg : bgn ≤ 131072)
    (Hak : Bytes w (some aka) akn) (Lak : akn ≤ 131072)
    : Calls Try.prog 3 #[.slice avo avn avc, .slice (some aka) akn akc, .slice aso asn asc, .int .i64 aq, .slice ago agn agc, .slice bvo bvn bvc, .slice none 0 0, .slice bso bsn bsc, .int .i64 bq, .slice bgo bgn bgc] w fun e w' => e = .returned (.bool true) ∧ Below w.heap.size w w' := by
  have Iav : (avn : Int) ≤ 131072 := by omega
  have Ias : (asn : Int) ≤ 131072 := by omega
  have Iag : (agn : Int) ≤ 131072 := by omega
  have Ibv : (bvn : Int) ≤ 131072 := by omega
  have Ibs : (bsn : Int) ≤ 131072 := by omega
  have Ibg : (bgn : Int) ≤ 131072 := by omega
  have Iak : (akn : Int) ≤ 131072 := by omega
  have e1 := eqn22
  have e2 := nen22
  go_enter Try.func3, Try.ntmps3
  go_wp2_with (first
    | (go_at_call 4; refine (total_any _ avo (some aka) aso ago bvo none bso bgo avn avc akn akc asn asc agn agc bvn bvc 0 0 bsn bsc bgn bgc aq bq).mono ?_; rintro e w' ⟨X, rfl, hw⟩; subst hw)
    | (go_at_call_of 5 (Value.slice avo avn avc); refine (clone_any _ avo avn avc Hav Nav Lav).mono ?_; rintro e w1 ⟨avo', avc', rfl, Zav, Yav, Dav⟩; have Bw1 : Below w.heap.size w w1 := Dav)
    | (go_at_call_of 5 (Value.slice (some aka) akn akc); refine (clone_some _ aka akn akc (Hak.later Bw1) Lak).mono ?_; rintro e w2 ⟨rfl, Yak, Dak⟩; have Bw2 := below_next Bw1 Dak)
    | (go_at_call_of 5 (Value.slice aso asn asc); refine (clone_any _ aso asn asc (Has.later Bw2) Nas Las).mono ?_; rintro e w3 ⟨aso', asc', rfl, Zas, Yas, Das⟩; have Bw3 := below_next Bw2 Das)
    | (go_at_call_of 5 (Value.slice ago agn agc); refine (clone_any _ ago agn agc (Hag.later Bw3) Nag Lag).mono ?_; rintro e w4 ⟨ago', agc', rfl, Zag, Yag, Dag⟩; have Bw4 := below_next Bw3 Dag)
    | (go_at_call_of 5 (Value.slice bvo bvn bvc); refine (clone_any _ bvo bvn bvc (Hbv.later Bw4) Nbv Lbv).mono ?_; rintro e w5 ⟨bvo', bvc', rfl, Zbv, Ybv, Dbv⟩; have Bw5 := below_next Bw4 Dbv)
    | (go_at_call_of 5 (Value.slice none 0 0); refine (clone_nil _).mono ?_; rintro e w' ⟨rfl, hw⟩; subst hw)
    | (go_at_call_of 5 (Value.slice bso bsn bsc); refine (clone_any _ bso bsn bsc (Hbs.later Bw5) Nbs Lbs).mono ?_; rintro e w7 ⟨bso', bsc', rfl, Zbs, Ybs, Dbs⟩; have Bw7 := below_next Bw5 Dbs)
    | (go_at_call_of 5 (Value.slice bgo bgn bgc); refine (clone_any _ bgo bgn bgc (Hbg.later Bw7) Nbg Lbg).mono ?_; rintro e w8 ⟨bgo', bgc', rfl, Zbg, Ybg, Dbg⟩; have Bw8 := below_next Bw7 Dbg)
    | (go_at_call 6; refine (twice_tf _ aq bq ⟨w1.heap.size, 0, none⟩ ⟨0, 0, none⟩ avo' aso' ago' bvo' bso' bgo' avn avc' akn akn asn asc' agn agc' bvn bvc' 0 0 bsn bsc' bgn bgc').mono ?_; rintro e w9 ⟨rfl, D9⟩; have B9 := below_next Bw8 D9; have FV : Bytes w9 bvo' bvn := Ybv.later (below_next (below_next Dbs Dbg) D9); have FK : Bytes w9 (some ⟨w1.heap.size, 0, none⟩) akn := Yak.later (below_next (below_next (below_next (below_next (below_next Das Dag) Dbv) Dbs) Dbg) D9); have FG : Bytes w9 ago' agn := Yag.later (below_next (below_next (below_next Dbv Dbs) Dbg) D9))
    | (go_at_call_of 7 (Value.slice bvo' bvn bvc'); refine (eq_self _ bvo' bvn bvc' (by first | exact FV.alloc _ | exact (FV.alloc _).drewN _ | exact ((FV.alloc _).drewN _).drewN _) Lbv).mono ?_; rintro e w' ⟨rfl, q0, rfl⟩)
    | (go_at_call_of 7 (Value.slice (some ⟨w1.heap.size, 0, none⟩) akn akn); refine (eq_self _ (some ⟨w1.heap.size, 0, none⟩) akn akn (by first | exact FK.alloc _ | exact (FK.alloc _).drewN _ | exact ((FK.alloc _).drewN _).drewN _) Lak).mono ?_; rintro e w' ⟨rfl, q1, rfl⟩)
    | (go_at_call_of 7 (Value.slice ago' agn agc'); refine (eq_self _ ago' agn agc' (by first | exact FG.alloc _ | exact (FG.alloc _).drewN _ | exact ((FG.alloc _).drewN _).drewN _) Lag).mono ?_; rintro e w' ⟨rfl, q2, rfl⟩))
  all_goals
    go_ret
    first
      | exact ⟨rfl, Below.refl _ _⟩
      | exact ⟨rfl, below_drewN' (B9.alloc B9.size _) _⟩
      | exact ⟨rfl, below_drewN' (below_drewN' (B9.alloc B9.size _) _) _⟩
      | exact ⟨rfl, below_drewN' (below_drewN' (below_drewN' (B9.alloc B9.size _) _) _) _⟩

set_option maxRecDepth 100000 in
set_option maxHeartbeats 8000000 in
theorem main_tt (w : World) (aq bq : Int) (aka bka : Addr) (avo aso ago bvo bso bgo : Option Addr) (avn avc akn akc asn asc agn agc bvn bvc bkn bkc bsn bsc bgn bgc : Nat)
    (Hav : Bytes w avo avn) (Nav : avo = none → avn = 0 ∧ avc = 0) (Lav : avn ≤ 131072)
    (Has : Bytes w aso asn) (Nas : aso = none → asn = 0 ∧ asc = 0) (Las : asn ≤ 131072)
    (Hag : Bytes w ago agn) (Nag : ago = none → agn = 0 ∧ agc = 0) (Lag : agn ≤ 131072)
    (Hbv : Bytes w bvo bvn) (Nbv : bvo = none → bvn = 0 ∧ bvc = 0) (Lbv : bvn ≤ 131072)
    (Hbs : Bytes w bso bsn) (Nbs : bso = none → bsn = 0 ∧ bsc = 0) (Lbs : bsn ≤ 131072)
    (Hbg : Bytes w bgo bgn) (Nbg : bgo = none → bgn = 0 ∧ bgc = 0) (Lbg : bgn ≤ 131072)
    (Hak : Bytes w (some aka) akn) (Lak : akn ≤ 131072)
    (Hbk : Bytes w (some bka) bkn) (Lbk : bkn ≤ 131072)
    : Calls Try.prog 3 #[.slice avo avn avc, .slice (some aka) akn akc, .slice aso asn asc, .int .i64 aq, .slice ago agn agc, .slice bvo bvn bvc, .slice (some bka) bkn bkc, .slice bso bsn bsc, .int .i64 bq, .slice bgo bgn bgc] w fun e w' => e = .returned (.bool true) ∧ Below w.heap.size w w' := by
  have Iav : (avn : Int) ≤ 131072 := by omega
  have Ias : (asn : Int) ≤ 131072 := by omega
  have Iag : (agn : Int) ≤ 131072 := by omega
  have Ibv : (bvn : Int) ≤ 131072 := by omega
  have Ibs : (bsn : Int) ≤ 131072 := by omega
  have Ibg : (bgn : Int) ≤ 131072 := by omega
  have Iak : (akn : Int) ≤ 131072 := by omega
  have Ibk : (bkn : Int) ≤ 131072 := by omega
  have e1 := eqn22
  have e2 := nen22
  go_enter Try.func3, Try.ntmps3
  go_wp2_with (first
    | (go_at_call 4; refine (total_any _ avo (some aka) aso ago bvo (some bka) bso bgo avn avc akn akc asn asc agn agc bvn bvc bkn bkc bsn bsc bgn bgc aq bq).mono ?_; rintro e w' ⟨X, rfl, hw⟩; subst hw)
    | (go_at_call_of 5 (Value.slice avo avn avc); refine (clone_any _ avo avn avc Hav Nav Lav).mono ?_; rintro e w1 ⟨avo', avc', rfl, Zav, Yav, Dav⟩; have Bw1 : Below w.heap.size w w1 := Dav)
    | (go_at_call_of 5 (Value.slice (some aka) akn akc); refine (clone_some _ aka akn akc (Hak.later Bw1) Lak).mono ?_; rintro e w2 ⟨rfl, Yak, Dak⟩; have Bw2 := below_next Bw1 Dak)
    | (go_at_call_of 5 (Value.slice aso asn asc); refine (clone_any _ aso asn asc (Has.later Bw2) Nas Las).mono ?_; rintro e w3 ⟨aso', asc', rfl, Zas, Yas, Das⟩; have Bw3 := below_next Bw2 Das)
    | (go_at_call_of 5 (Value.slice ago agn agc); refine (clone_any _ ago agn agc (Hag.later Bw3) Nag Lag).mono ?_; rintro e w4 ⟨ago', agc', rfl, Zag, Yag, Dag⟩; have Bw4 := below_next Bw3 Dag)
    | (go_at_call_of 5 (Value.slice bvo bvn bvc); refine (clone_any _ bvo bvn bvc (Hbv.later Bw4) Nbv Lbv).mono ?_; rintro e w5 ⟨bvo', bvc', rfl, Zbv, Ybv, Dbv⟩; have Bw5 := below_next Bw4 Dbv)
    | (go_at_call_of 5 (Value.slice (some bka) bkn bkc); refine (clone_some _ bka bkn bkc (Hbk.later Bw5) Lbk).mono ?_; rintro e w6 ⟨rfl, Ybk, Dbk⟩; have Bw6 := below_next Bw5 Dbk)
    | (go_at_call_of 5 (Value.slice bso bsn bsc); refine (clone_any _ bso bsn bsc (Hbs.later Bw6) Nbs Lbs).mono ?_; rintro e w7 ⟨bso', bsc', rfl, Zbs, Ybs, Dbs⟩; have Bw7 := below_next Bw6 Dbs)
    | (go_at_call_of 5 (Value.slice bgo bgn bgc); refine (clone_any _ bgo bgn bgc (Hbg.later Bw7) Nbg Lbg).mono ?_; rintro e w8 ⟨bgo', bgc', rfl, Zbg, Ybg, Dbg⟩; have Bw8 := below_next Bw7 Dbg)
    | (go_at_call 6; refine (twice_tt _ aq bq ⟨w1.heap.size, 0, none⟩ ⟨w5.heap.size, 0, none⟩ avo' aso' ago' bvo' bso' bgo' avn avc' akn akn asn asc' agn agc' bvn bvc' bkn bkn bsn bsc' bgn bgc').mono ?_; rintro e w9 ⟨rfl, D9⟩; have B9 := below_next Bw8 D9; have FV : Bytes w9 bvo' bvn := Ybv.later (below_next (below_next (below_next Dbk Dbs) Dbg) D9); have FK : Bytes w9 (some ⟨w5.heap.size, 0, none⟩) bkn := Ybk.later (below_next (below_next Dbs Dbg) D9); have FG : Bytes w9 bgo' bgn := Ybg.later D9)
    | (go_at_call_of 7 (Value.slice bvo' bvn bvc'); refine (eq_self _ bvo' bvn bvc' (by first | exact FV.alloc _ | exact (FV.alloc _).drewN _ | exact ((FV.alloc _).drewN _).drewN _) Lbv).mono ?_; rintro e w' ⟨rfl, q0, rfl⟩)
    | (go_at_call_of 7 (Value.slice (some ⟨w5.heap.size, 0, none⟩) bkn bkn); refine (eq_self _ (some ⟨w5.heap.size, 0, none⟩) bkn bkn (by first | exact FK.alloc _ | exact (FK.alloc _).drewN _ | exact ((FK.alloc _).drewN _).drewN _) Lbk).mono ?_; rintro e w' ⟨rfl, q1, rfl⟩)
    | (go_at_call_of 7 (Value.slice bgo' bgn bgc'); refine (eq_self _ bgo' bgn bgc' (by first | exact FG.alloc _ | exact (FG.alloc _).drewN _ | exact ((FG.alloc _).drewN _).drewN _) Lbg).mono ?_; rintro e w' ⟨rfl, q2, rfl⟩))
  all_goals
    go_ret
    first
      | exact ⟨rfl, Below.refl _ _⟩
      | exact ⟨rfl, below_drewN' (B9.alloc B9.size _) _⟩
      | exact ⟨rfl, below_drewN' (below_drewN' (B9.alloc B9.size _) _) _⟩
      | exact ⟨rfl, below_drewN' (below_drewN' (below_drewN' (B9.alloc B9.size _) _) _) _⟩

end Go.Proofs.Qxb6609565a
