/-
  THE WALK of FnHandshakingPrependAndSplit.
-/
import Derived.Test.Qxb6612543aCounts
namespace Go.Proofs.Qxb6612543a
open Go.RowKit
set_option linter.unusedVariables false

def boxO (a b c : Bool) : Obj := .cells #[.bool a, .bool b, .bool c] 25

theorem ret_bool {a b : Bool} (h : a = b) : Ending.returned (.bool a) = .returned (.bool b) := by rw [h]

theorem bytes2_any (w : World) (a b c : Bool) (ao bo : Option Addr) (n m cap cbp : Nat) (hn : n ≤ 9223372036854775807) (hm : m ≤ 9223372036854775807) :
    Calls Try.prog 7 #[.agg #[.bool a, .bool b, .bool c], .slice ao n cap, .slice bo m cbp] w fun e w' => e = .returned (.bool (decide ((n : Int) ≤ 1048576) && (decide ((m : Int) ≤ 1048576) && decide ((n : Int) + m ≤ 1048576)))) ∧ Below w.heap.size w w' := by
  go_enter Try.func7, Try.ntmps7
  go_wp2
  all_goals
    go_ret
    refine ⟨ret_bool ?_, (Below.refl _ _).alloc (Nat.le_refl _) _⟩
    rw [Bool.eq_iff_iff]
    simp
    omega

theorem one_any (w : World) (a b c SE : Bool) (h : SE = (a && (b && !c))) :
    Calls Try.prog 8 #[.agg #[.bool a, .bool b, .bool c]] w fun e w' => e = .returned (.tuple #[.bool a, .bool SE]) ∧ Below w.heap.size w w' := by
  subst h
  cases a <;> cases b <;> cases c
  all_goals
    go_enter Try.func8, Try.ntmps8
    go_wp2
    go_ret2
    exact ⟨rfl, (Below.refl _ _).alloc (Nat.le_refl _) _⟩

theorem below_next {a w w' : World} (h : Below a.heap.size a w) (h' : Below w.heap.size w w') : Below a.heap.size a w' := h.trans (h'.mono h.size)

/-- The box of the entrant e, still as it was. -/
theorem box_cells {w w' : World} {a b c : Bool} (h : Below (w.alloc (boxO a b c)).heap.size (w.alloc (boxO a b c)) w') :
    w'.cell? ⟨w.heap.size, 0, none⟩ = some (.bool a) ∧ w'.cell? ⟨w.heap.size, 1, none⟩ = some (.bool b) ∧ w'.cell? ⟨w.heap.size, 2, none⟩ = some (.bool c) := by
  have lt : w.heap.size < (w.alloc (boxO a b c)).heap.size := by simp
  refine ⟨?_, ?_, ?_⟩
  · rw [h.cell (by exact lt)]
    simp [boxO, go_sem]
  · rw [h.cell (by exact lt)]
    simp [boxO, go_sem]
  · rw [h.cell (by exact lt)]
    simp [boxO, go_sem]

theorem withE_any (w : World) (v : Value) (a b c SE : Bool) (hSE : SE = (a && (b && !c))) (l : List E3) (h : IsEnts w v (⟨a, b, c⟩ :: l)) (hn : l.length ≤ 65536) :
    Calls Try.prog 6 #[v] w fun e w' => e = .returned (.tuple #[.bool (a || runB l), .bool (SE || stB l)]) ∧ Below w.heap.size w w' := by
  have h6 := hs_any w v _ h (by simp; omega)
  have e1 : runB (⟨a, b, c⟩ :: l) = (a || runB l) := by simp [runB]
  have e2 : stB (⟨a, b, c⟩ :: l) = (SE || stB l) := by simp [stB, hSE]
  rw [e1, e2] at h6
  exact h6

theorem joined_any (w : World) (v : Value) (l m : List E3) (h : IsEnts w v (l ++ m)) (hn : l.length ≤ 65536) (hm : m.length ≤ 65536) :
    Calls Try.prog 6 #[v] w fun e w' => e = .returned (.tuple #[.bool (runB l || runB m), .bool (stB l || stB m)]) ∧ Below w.heap.size w w' := by
  have h6 := hs_any w v _ h (by simp; omega)
  rw [runB_append, stB_append] at h6
  exact h6

theorem nil_any (w : World) : Calls Try.prog 6 #[.slice none 0 0] w fun e w' => e = .returned (.tuple #[.bool false, .bool false]) ∧ Below w.heap.size w w' :=
  hs_any w _ [] ⟨_, _, rfl, fun _ => ⟨rfl, rfl⟩, fun h => absurd h (by simp)⟩ (by simp)

theorem split_big (w : World) (a b c : Bool) (ao bo : Option Addr) (n m cap cbp : Nat) (hn : n ≤ 9223372036854775807) (hm : m ≤ 9223372036854775807) (hbig : (65536 : Int) < (n : Int) ∨ ((n : Int) ≤ 65536 ∧ (65536 : Int) < (m : Int))) :
    Calls Try.prog 4 #[.agg #[.bool a, .bool b, .bool c], .slice ao n cap, .slice bo m cbp] w fun e w' => e = .returned (.bool true) ∧ Below w.heap.size w w' := by
  have h7 := fun w' => bytes2_any w' a b c ao bo n m cap cbp hn hm
  generalize (decide ((n : Int) ≤ 1048576) && (decide ((m : Int) ≤ 1048576) && decide ((n : Int) + m ≤ 1048576))) = X at h7
  rcases hbig with h | ⟨h, h'⟩ <;> cases X
  all_goals
    go_enter Try.func4, Try.ntmps4
    go_wp2_with (go_at_call 7; refine (h7 _).mono ?_; rintro e w1 ⟨rfl, hb1⟩)
    go_ret
    exact ⟨rfl, ((Below.refl _ _).alloc (Nat.le_refl _) _).trans (hb1.mono (by simp))⟩

set_option maxRecDepth 100000 in
set_option maxHeartbeats 8000000 in
theorem split_in (w : World) (a b c : Bool) (ao bo : Option Addr) (cap cbp : Nat) (l m : List E3) (hes0 : IsEnts w (.slice ao l.length cap) l) (hfs0 : IsEnts w (.slice bo m.length cbp) m) (hn : l.length ≤ 65536) (hm : m.length ≤ 65536) :
    Calls Try.prog 4 #[.agg #[.bool a, .bool b, .bool c], .slice ao l.length cap, .slice bo m.length cbp] w fun e w' => e = .returned (.bool true) ∧ Below w.heap.size w w' := by
  have hn' : (l.length : Int) ≤ 65536 := by omega
  have hm' : (m.length : Int) ≤ 65536 := by omega
  have hno := hes0.nil
  have hmo := hfs0.nil
  have hB0 : Hid (Below w.heap.size w (w.alloc (boxO a b c))) := (Below.refl _ _).alloc (Nat.le_refl _) _
  have hes := hes0.later hB0.out
  have hfs := hfs0.later hB0.out
  clear hes0 hfs0
  have h7 := fun w' => bytes2_any w' a b c ao bo l.length m.length cap cbp (by omega) (by omega)
  have eX : (decide ((l.length : Int) ≤ 1048576) && (decide ((m.length : Int) ≤ 1048576) && decide ((l.length : Int) + m.length ≤ 1048576))) = true := by simp; omega
  rw [eX] at h7
  clear eX
  obtain ⟨SE, hSE⟩ : ∃ SE, Hid (SE = (a && (b && !c))) := ⟨_, rfl⟩
  obtain ⟨i0, hi0, hz0, hz1, hz2⟩ := info_parts Try.info25
  go_enter Try.func4, Try.ntmps4
  go_wp2_with (first
    | (go_at_call 7; refine (h7 _).mono ?_; rintro e w1 ⟨rfl, hb1⟩; clear h7)
    | (refine wpList_make_own _ rfl _ (.tmp 34) 22 rfl w1.heap.size 25 i0 _ 3 Try.underlying22 hi0 hz0 hz1 _ _ _ (l.length + 1) rfl rfl (by omega) (by rw [hz2]; omega) (by unfold maxLen; omega) (Nat.le_refl _) ?_; intro w2 hown2 hgrow2; have A2 : Below (w.alloc (boxO a b c)).heap.size (w.alloc (boxO a b c)) w2 := hb1.grown hgrow2 hb1.size (fun k h => by cases h); obtain ⟨x0, x1, x2⟩ := box_cells A2)
    | (at_builtin; refine wpList_append_fits _ rfl (.tmp 36) (.tmp 38) 22 rfl w1.heap.size 25 i0 3 Try.underlying22 hi0 hz1 w1.heap.size 0 (l.length + 1) [] rfl (hown2.alloc _) ⟨w2.heap.size, 0, none⟩ 1 1 [.bool a, .bool b, .bool c] rfl rfl (World.news_of_block (cs := #[.bool a, .bool b, .bool c]) (t := 25) (fr := (0, 0)) (heap_alloc_new w2 _)) (by simp [Value.oneCell']) (by omega) ?_; intro w3 hown3 hgrow3; simp only [Nat.zero_add, List.nil_append] at hown3; have A3 : Below (w.alloc (boxO a b c)).heap.size (w.alloc (boxO a b c)) w3 := (A2.alloc A2.size _).grown hgrow3 (Nat.le_trans A2.size (by simp)) (fun k h => by cases h; exact hb1.size); have H3 : Hid _ := (hes.later A3).cells)
    | (at_builtin; refine wpList_append_fits_any _ rfl (.tmp 40) (.tmp 41) 22 rfl w1.heap.size 25 i0 3 Try.underlying22 hi0 hz1 w1.heap.size 1 (l.length + 1) [.bool a, .bool b, .bool c] rfl hown3 ao l.length cap (entCells l) rfl (entCells_length l) hno H3.out (entCells_oneCell l) (by omega) ?_; intro w4 hown4 hgrow4; have A4 : Below (w.alloc (boxO a b c)).heap.size (w.alloc (boxO a b c)) w4 := A3.grown hgrow4 A3.size (fun k h => by cases h; exact hb1.size))
    | (refine wpList_make_own _ rfl _ (.tmp 47) 22 rfl w4.heap.size 25 i0 _ 3 Try.underlying22 hi0 hz0 hz1 _ _ _ (l.length + m.length) rfl rfl (by omega) (by rw [hz2]; omega) (by unfold maxLen; omega) (Nat.le_refl _) ?_; intro w5 hown5 hgrow5; have B5 : Below w4.heap.size w4 w5 := (Below.refl _ _).grown hgrow5 (Nat.le_refl _) (fun k h => by cases h); have H5 : Hid _ := (hes.later (below_next A4 B5)).cells)
    | (at_builtin; refine wpList_append_fits_any _ rfl (.tmp 49) (.tmp 50) 22 rfl w4.heap.size 25 i0 3 Try.underlying22 hi0 hz1 w4.heap.size 0 (l.length + m.length) [] rfl hown5 ao l.length cap (entCells l) rfl (entCells_length l) hno H5.out (entCells_oneCell l) (by omega) ?_; intro w6 hown6 hgrow6; simp only [Nat.zero_add, List.nil_append] at hown6; have B6 : Below w4.heap.size w4 w6 := B5.grown hgrow6 B5.size (fun k h => by cases h; exact Nat.le_refl _); have H6 : Hid _ := (hfs.later (below_next A4 B6)).cells)
    | (at_builtin; refine wpList_append_fits_any _ rfl (.tmp 52) (.tmp 53) 22 rfl w4.heap.size 25 i0 3 Try.underlying22 hi0 hz1 w4.heap.size l.length (l.length + m.length) (entCells l) rfl hown6 bo m.length cbp (entCells m) rfl (entCells_length m) hmo H6.out (entCells_oneCell m) (by omega) ?_; intro w7 hown7 hgrow7; have B7 : Below w4.heap.size w4 w7 := B6.grown hgrow7 B6.size (fun k h => by cases h; exact Nat.le_refl _))
    | (go_at_call_of 6 (Value.slice ao l.length cap); refine (hs_any _ _ l (hes.later (below_next A4 B7)) (by omega)).mono ?_; rintro e w8 ⟨rfl, C8⟩)
    | (go_at_call_of 6 (Value.slice bo m.length cbp); refine (hs_any _ _ m (hfs.later (below_next A4 (below_next B7 C8))) (by omega)).mono ?_; rintro e w9 ⟨rfl, D9⟩; have C9 := below_next C8 D9; obtain ⟨y0, y1, y2⟩ := box_cells (below_next A4 (below_next B7 C9)))
    | (go_at_call 8; refine (one_any _ a b c SE hSE.out).mono ?_; rintro e w10 ⟨rfl, D10⟩; have C10 := below_next C9 D10)
    | (go_at_call_of 6 (Value.slice (some ⟨w4.heap.size, 0, none⟩) (l.length + m.length) (l.length + m.length)); refine (joined_any _ _ l m ((isEnts_of_own (l := l ++ m) (by rw [entCells_append]; exact hown7) (by simp)).later C11) hn hm).mono ?_; rintro e w12 ⟨rfl, D12⟩; have C12 := below_next C11 D12)
    | (go_at_call_of 6 (Value.slice none 0 0); refine (nil_any _).mono ?_; rintro e w13 ⟨rfl, D13⟩; have C13 := below_next C12 D13)
    | (go_at_call 6; refine (withE_any _ _ a b c SE hSE.out l ((isEnts_of_own (l := ⟨a, b, c⟩ :: l) hown4 (by rw [List.length_cons]; omega)).later (below_next B7 C10)) hn).mono ?_; rintro e w11 ⟨rfl, D11⟩; have C11 := below_next C10 D11))
  all_goals
    go_ret
    exact ⟨rfl, hB0.out.trans ((below_next A4 (below_next B7 C13)).mono (by simp))⟩
end Go.Proofs.Qxb6612543a
