/-
  THE MACHINE IN MEMORY, and the walks of ZZsetChain, ZZsetSearch, ZZmatches, ZZfree, ZZhead.
-/
import Derived.Test.Qxb6613362aRows
import Derived.WalkKit
import Derived.WalkSpells
import Derived.Below
import Derived.Laws.Rows
import Derived.OwnWalk
import Derived.Maps.AppendAt
import Derived.Deep.QuietTactic
import Derived.BigQuiet
import Derived.LoopTactic
import Derived.Deep.LoopGhost
namespace Go.Proofs.Qxb6613362a
open Go.RowKit
set_option linter.unusedVariables false

/-- One search, as report reads it. -/
structure SR where
  sett : Bool
  st : Int
  en : Int
  nx : Int

/-- The machine at block M: its searches (n of them, at block S), the chain p of its chains (at block C), its matches mv and free fv. -/
structure MS (w : World) (M C S p n : Nat) (hd tl : Int) (f : Nat → SR) (mv fv : Value) : Prop where
  m : ∃ mc, w.heap[M]? = some (.cells mc 103 (0, 0)) ∧ mc[31]? = some (.slice (some ⟨S, 0, none⟩) n n) ∧ mc[32]? = some (.slice (some ⟨C, 0, none⟩) (p + 1) (p + 1)) ∧ mc[33]? = some fv ∧ mc[37]? = some mv
  c : ∃ cc, w.heap[C]? = some (.cells cc 105 (0, 0)) ∧ cc[p * 3]? = some (.int .i32 hd) ∧ cc[p * 3 + 1]? = some (.int .i32 tl)
  s : ∃ sc, w.heap[S]? = some (.cells sc 107 (0, 0)) ∧ ∀ i, i < n → sc[i * 11 + 3]? = some (.int .i64 (f i).st) ∧ sc[i * 11 + 4]? = some (.int .i64 (f i).en) ∧ sc[i * 11 + 5]? = some (.int .i32 (f i).nx) ∧ sc[i * 11 + 6]? = some (.bool (f i).sett)

section
variable {w w' : World} {M C S p n : Nat} {hd tl : Int} {f : Nat → SR} {mv fv : Value}

theorem MS.ne (h : MS w M C S p n hd tl f mv fv) : M ≠ C ∧ M ≠ S ∧ C ≠ S := by
  obtain ⟨mc, hm, -⟩ := h.m
  obtain ⟨cc, hc, -⟩ := h.c
  obtain ⟨sc, hs, -⟩ := h.s
  refine ⟨fun e => ?_, fun e => ?_, fun e => ?_⟩
  · subst e
    rw [hm] at hc
    simp at hc
  · subst e
    rw [hm] at hs
    simp at hs
  · subst e
    rw [hc] at hs
    simp at hs

theorem MS.lt (h : MS w M C S p n hd tl f mv fv) : M < w.heap.size ∧ C < w.heap.size ∧ S < w.heap.size := by
  obtain ⟨mc, hm, -⟩ := h.m
  obtain ⟨cc, hc, -⟩ := h.c
  obtain ⟨sc, hs, -⟩ := h.s
  exact ⟨lt_of_block hm, lt_of_block hc, lt_of_block hs⟩

theorem MS.mcell (h : MS w M C S p n hd tl f mv fv) : w.cell? ⟨M, 31, none⟩ = some (.slice (some ⟨S, 0, none⟩) n n) ∧ w.cell? ⟨M, 32, none⟩ = some (.slice (some ⟨C, 0, none⟩) (p + 1) (p + 1)) ∧ w.cell? ⟨M, 33, none⟩ = some fv ∧ w.cell? ⟨M, 37, none⟩ = some mv := by
  obtain ⟨mc, hm, h1, h2, h3, h4⟩ := h.m
  have hc := fun j => cell_of_row w M j mc 103 (0, 0) hm
  exact ⟨by rw [hc]; exact h1, by rw [hc]; exact h2, by rw [hc]; exact h3, by rw [hc]; exact h4⟩

theorem MS.mfree (h : MS w M C S p n hd tl f mv fv) (j : Nat) : w.frozen? ⟨M, j, none⟩ = false := by
  obtain ⟨mc, hm, -⟩ := h.m
  exact frozen_of_row w M j mc 103 hm

theorem MS.ccell (h : MS w M C S p n hd tl f mv fv) : w.cell? ⟨C, p * 3, none⟩ = some (.int .i32 hd) ∧ w.cell? ⟨C, p * 3 + 1, none⟩ = some (.int .i32 tl) := by
  obtain ⟨cc, hc, h1, h2⟩ := h.c
  have hr := fun j => cell_of_row w C j cc 105 (0, 0) hc
  exact ⟨by rw [hr]; exact h1, by rw [hr]; exact h2⟩

theorem MS.cfree (h : MS w M C S p n hd tl f mv fv) (j : Nat) : w.frozen? ⟨C, j, none⟩ = false := by
  obtain ⟨cc, hc, -⟩ := h.c
  exact frozen_of_row w C j cc 105 hc

theorem MS.scell (h : MS w M C S p n hd tl f mv fv) (i : Nat) (hi : i < n) : w.cell? ⟨S, i * 11 + 3, none⟩ = some (.int .i64 (f i).st) ∧ w.cell? ⟨S, i * 11 + 4, none⟩ = some (.int .i64 (f i).en) ∧ w.cell? ⟨S, i * 11 + 5, none⟩ = some (.int .i32 (f i).nx) ∧ w.cell? ⟨S, i * 11 + 6, none⟩ = some (.bool (f i).sett) := by
  obtain ⟨sc, hs, hf⟩ := h.s
  have hr := fun j => cell_of_row w S j sc 107 (0, 0) hs
  obtain ⟨h1, h2, h3, h4⟩ := hf i hi
  exact ⟨by rw [hr]; exact h1, by rw [hr]; exact h2, by rw [hr]; exact h3, by rw [hr]; exact h4⟩

theorem MS.sfree (h : MS w M C S p n hd tl f mv fv) (j : Nat) : w.frozen? ⟨S, j, none⟩ = false := by
  obtain ⟨sc, hs, -⟩ := h.s
  exact frozen_of_row w S j sc 107 hs

/-- The three blocks are as they were. -/
theorem MS.kept (h : MS w M C S p n hd tl f mv fv) (hM : w'.heap[M]? = w.heap[M]?) (hC : w'.heap[C]? = w.heap[C]?) (hS : w'.heap[S]? = w.heap[S]?) : MS w' M C S p n hd tl f mv fv := by
  refine ⟨?_, ?_, ?_⟩
  · rw [hM]
    exact h.m
  · rw [hC]
    exact h.c
  · rw [hS]
    exact h.s

theorem MS.below (h : MS w M C S p n hd tl f mv fv) (hb : Below w.heap.size w w') : MS w' M C S p n hd tl f mv fv :=
  h.kept (hb.block _ h.lt.1) (hb.block _ h.lt.2.1) (hb.block _ h.lt.2.2)

theorem MS.drew (h : MS w M C S p n hd tl f mv fv) : MS w.drew M C S p n hd tl f mv fv := ⟨h.m, h.c, h.s⟩
theorem MS.drewN (h : MS w M C S p n hd tl f mv fv) (q : Nat) : MS (w.drewN q) M C S p n hd tl f mv fv := ⟨h.m, h.c, h.s⟩

theorem MS.alloc (h : MS w M C S p n hd tl f mv fv) (o : Obj) : MS (w.alloc o) M C S p n hd tl f mv fv :=
  h.below ((Below.refl _ _).alloc (Nat.le_refl _) _)

theorem MS.grown (h : MS w M C S p n hd tl f mv fv) {r : Option Nat} (hg : w.grownBy w' r) (h1 : r ≠ some M) (h2 : r ≠ some C) (h3 : r ≠ some S) : MS w' M C S p n hd tl f mv fv :=
  h.kept (hg.block _ h.lt.1 (Ne.symm h1)) (hg.block _ h.lt.2.1 (Ne.symm h2)) (hg.block _ h.lt.2.2 (Ne.symm h3))

/-- A store into one of the machine's own cells. -/
theorem MS.setMatches (h : MS w M C S p n hd tl f mv fv) (v : Value) : MS (w.setCell ⟨M, 37, none⟩ v) M C S p n hd tl f v fv := by
  obtain ⟨n1, n2, n3⟩ := h.ne
  obtain ⟨mc, hm, h1, h2, h3, h4⟩ := h.m
  refine ⟨⟨_, heap_setCell_same w M 37 mc 103 v hm, ?_, ?_, ?_, ?_⟩, ?_, ?_⟩
  · rw [Array.getElem?_setIfInBounds_ne (by omega)]; exact h1
  · rw [Array.getElem?_setIfInBounds_ne (by omega)]; exact h2
  · rw [Array.getElem?_setIfInBounds_ne (by omega)]; exact h3
  · have := (Array.getElem?_eq_some_iff.1 h4).1
    simp [this]
  · rw [heap_setCell_other w _ C v (by exact Ne.symm n1)]; exact h.c
  · rw [heap_setCell_other w _ S v (by exact Ne.symm n2)]; exact h.s

theorem MS.setFree (h : MS w M C S p n hd tl f mv fv) (v : Value) : MS (w.setCell ⟨M, 33, none⟩ v) M C S p n hd tl f mv v := by
  obtain ⟨n1, n2, n3⟩ := h.ne
  obtain ⟨mc, hm, h1, h2, h3, h4⟩ := h.m
  refine ⟨⟨_, heap_setCell_same w M 33 mc 103 v hm, ?_, ?_, ?_, ?_⟩, ?_, ?_⟩
  · rw [Array.getElem?_setIfInBounds_ne (by omega)]; exact h1
  · rw [Array.getElem?_setIfInBounds_ne (by omega)]; exact h2
  · have := (Array.getElem?_eq_some_iff.1 h3).1
    simp [this]
  · rw [Array.getElem?_setIfInBounds_ne (by omega)]; exact h4
  · rw [heap_setCell_other w _ C v (by exact Ne.symm n1)]; exact h.c
  · rw [heap_setCell_other w _ S v (by exact Ne.symm n2)]; exact h.s

theorem MS.setHead (h : MS w M C S p n hd tl f mv fv) (x : Int) : MS (w.setCell ⟨C, p * 3, none⟩ (.int .i32 x)) M C S p n x tl f mv fv := by
  obtain ⟨n1, n2, n3⟩ := h.ne
  obtain ⟨cc, hc, h1, h2⟩ := h.c
  refine ⟨?_, ⟨_, heap_setCell_same w C (p * 3) cc 105 _ hc, ?_, ?_⟩, ?_⟩
  · rw [heap_setCell_other w _ M _ (by exact n1)]; exact h.m
  · have := (Array.getElem?_eq_some_iff.1 h1).1
    simp [this]
  · rw [Array.getElem?_setIfInBounds_ne (by omega)]; exact h2
  · rw [heap_setCell_other w _ S _ (by exact Ne.symm n3)]; exact h.s

theorem MS.setTail (h : MS w M C S p n hd tl f mv fv) (x : Int) : MS (w.setCell ⟨C, p * 3 + 1, none⟩ (.int .i32 x)) M C S p n hd x f mv fv := by
  obtain ⟨n1, n2, n3⟩ := h.ne
  obtain ⟨cc, hc, h1, h2⟩ := h.c
  refine ⟨?_, ⟨_, heap_setCell_same w C (p * 3 + 1) cc 105 _ hc, ?_, ?_⟩, ?_⟩
  · rw [heap_setCell_other w _ M _ (by exact n1)]; exact h.m
  · rw [Array.getElem?_setIfInBounds_ne (by omega)]; exact h1
  · have := (Array.getElem?_eq_some_iff.1 h2).1
    simp [this]
  · rw [heap_setCell_other w _ S _ (by exact Ne.symm n3)]; exact h.s

/-- All four cells of search i are written. -/
theorem MS.setSearch (h : MS w M C S p n hd tl f mv fv) (i : Nat) (hi : i < n) (b : Bool) (s e x : Int) :
    MS ((((w.setCell ⟨S, i * 11 + 6, none⟩ (.bool b)).setCell ⟨S, i * 11 + 3, none⟩ (.int .i64 s)).setCell ⟨S, i * 11 + 4, none⟩ (.int .i64 e)).setCell ⟨S, i * 11 + 5, none⟩ (.int .i32 x)) M C S p n hd tl (fun j => if j = i then ⟨b, s, e, x⟩ else f j) mv fv := by
  obtain ⟨n1, n2, n3⟩ := h.ne
  obtain ⟨sc, hs, hf⟩ := h.s
  have o := fun (w : World) (k j : Nat) (v : Value) (hk : k ≠ S) => heap_setCell_other w ⟨S, j, none⟩ k v hk
  have s1 := heap_setCell_same w S (i * 11 + 6) sc 107 (.bool b) hs
  have s2 := heap_setCell_same _ S (i * 11 + 3) _ 107 (.int .i64 s) s1
  have s3 := heap_setCell_same _ S (i * 11 + 4) _ 107 (.int .i64 e) s2
  have s4 := heap_setCell_same _ S (i * 11 + 5) _ 107 (.int .i32 x) s3
  refine ⟨?_, ?_, ⟨_, s4, fun j hj => ?_⟩⟩
  · rw [o _ _ _ _ n2, o _ _ _ _ n2, o _ _ _ _ n2, o _ _ _ _ n2]; exact h.m
  · rw [o _ _ _ _ n3, o _ _ _ _ n3, o _ _ _ _ n3, o _ _ _ _ n3]; exact h.c
  · obtain ⟨h1, h2, h3, h4⟩ := hf j hj
    by_cases e : j = i
    · subst e
      have l1 := (Array.getElem?_eq_some_iff.1 h1).1
      have l2 := (Array.getElem?_eq_some_iff.1 h2).1
      have l3 := (Array.getElem?_eq_some_iff.1 h3).1
      have l4 := (Array.getElem?_eq_some_iff.1 h4).1
      simp [l1, l2, l3, l4]
    · simp only [if_neg e]
      have d : ∀ a b : Nat, a < 11 → b < 11 → i * 11 + a ≠ j * 11 + b := by
        intro a b ha hb
        omega
      simp only [Array.getElem?_setIfInBounds, if_neg (d 3 3 (by omega) (by omega)), if_neg (d 3 4 (by omega) (by omega)), if_neg (d 3 5 (by omega) (by omega)), if_neg (d 3 6 (by omega) (by omega)), if_neg (d 4 3 (by omega) (by omega)), if_neg (d 4 4 (by omega) (by omega)), if_neg (d 4 5 (by omega) (by omega)), if_neg (d 4 6 (by omega) (by omega)), if_neg (d 5 3 (by omega) (by omega)), if_neg (d 5 4 (by omega) (by omega)), if_neg (d 5 5 (by omega) (by omega)), if_neg (d 5 6 (by omega) (by omega)), if_neg (d 6 3 (by omega) (by omega)), if_neg (d 6 4 (by omega) (by omega)), if_neg (d 6 5 (by omega) (by omega)), if_neg (d 6 6 (by omega) (by omega))]
      exact ⟨h1, h2, h3, h4⟩
end

theorem matches_any (w : World) (M C S p n : Nat) (hd tl : Int) (f : Nat → SR) (mv fv : Value) (h : MS w M C S p n hd tl f mv fv) :
    Calls Try.prog 26 #[.pointer (some ⟨M, 0, none⟩)] w fun e w' => e = .returned mv ∧ w = w' := by
  obtain ⟨c1, c2, c3, c4⟩ := h.mcell
  go_enter Try.func26, Try.ntmps26
  go_wp2
  go_ret
  exact ⟨rfl, rfl⟩

theorem free_any (w : World) (M C S p n : Nat) (hd tl : Int) (f : Nat → SR) (mv fv : Value) (h : MS w M C S p n hd tl f mv fv) :
    Calls Try.prog 27 #[.pointer (some ⟨M, 0, none⟩)] w fun e w' => e = .returned fv ∧ w = w' := by
  obtain ⟨c1, c2, c3, c4⟩ := h.mcell
  go_enter Try.func27, Try.ntmps27
  go_wp2
  go_ret
  exact ⟨rfl, rfl⟩

theorem head_any (w : World) (M C S p n : Nat) (hd tl : Int) (f : Nat → SR) (mv fv : Value) (h : MS w M C S p n hd tl f mv fv) :
    Calls Try.prog 28 #[.pointer (some ⟨M, 0, none⟩), .int .i64 p] w fun e w' => e = .returned (.int .i32 hd) ∧ w = w' := by
  obtain ⟨c1, c2, c3, c4⟩ := h.mcell
  obtain ⟨d1, d2⟩ := h.ccell
  have p0 : (0 : Int) ≤ (p : Int) := Int.natCast_nonneg _
  have p1 : (p : Int) < ((p + 1 : Nat) : Int) := by omega
  go_enter Try.func28, Try.ntmps28
  go_wp2
  go_ret
  exact ⟨rfl, rfl⟩

theorem grown_setCell (w : World) (B j : Nat) (v : Value) : w.grownBy (w.setCell ⟨B, j, none⟩ v) (some B) :=
  ⟨rfl, rfl, rfl, by simp [World.setCell], fun k hk hne => heap_setCell_other w _ k v (fun e => hne (by rw [e]))⟩

theorem setChain_any (w : World) (M C S p n : Nat) (hd tl : Int) (f : Nat → SR) (mv fv : Value) (x y : Int) (h : MS w M C S p n hd tl f mv fv) :
    Calls Try.prog 22 #[.pointer (some ⟨M, 0, none⟩), .int .i64 p, .int .i32 x, .int .i32 y] w fun e w' => e = .returned (.tuple #[]) ∧ MS w' M C S p n x y f mv fv ∧ w.grownBy w' (some C) := by
  obtain ⟨c1, c2, c3, c4⟩ := h.mcell
  obtain ⟨d1, d2⟩ := h.ccell
  obtain ⟨n1, n2, n3⟩ := h.ne
  have f1 := h.cfree
  have p0 : (0 : Int) ≤ (p : Int) := Int.natCast_nonneg _
  have p1 : (p : Int) < ((p + 1 : Nat) : Int) := by omega
  go_enter Try.func22, Try.ntmps22
  go_wp2
  go_end0
  exact ⟨rfl, (h.setHead x).setTail y, (grown_setCell _ _ _ _).trans (grown_setCell _ _ _ _)⟩

theorem setSearch_any (w : World) (M C S p n : Nat) (hd tl : Int) (f : Nat → SR) (mv fv : Value) (i : Nat) (hi : i < n) (b : Bool) (s e x : Int) (h : MS w M C S p n hd tl f mv fv) :
    Calls Try.prog 23 #[.pointer (some ⟨M, 0, none⟩), .int .i64 i, .bool b, .int .i64 s, .int .i64 e, .int .i32 x] w fun e' w' => e' = .returned (.tuple #[]) ∧ MS w' M C S p n hd tl (fun j => if j = i then ⟨b, s, e, x⟩ else f j) mv fv ∧ w.grownBy w' (some S) := by
  obtain ⟨c1, c2, c3, c4⟩ := h.mcell
  obtain ⟨d1, d2, d3, d4⟩ := h.scell i hi
  obtain ⟨n1, n2, n3⟩ := h.ne
  have f1 := h.sfree
  have p0 : (0 : Int) ≤ (i : Int) := Int.natCast_nonneg _
  have p1 : (i : Int) < (n : Int) := by omega
  go_enter Try.func23, Try.ntmps23
  go_wp2
  go_end0
  exact ⟨rfl, h.setSearch i hi b s e x, (((grown_setCell _ _ _ _).trans (grown_setCell _ _ _ _)).trans (grown_setCell _ _ _ _)).trans (grown_setCell _ _ _ _)⟩

/-- n cells behind the address read as V says. -/
def Row1 (w : World) (ao : Option Addr) (n : Nat) (V : Nat → Value) : Prop := 0 < n → ∃ b o, ao = some ⟨b, o, none⟩ ∧ b < w.heap.size ∧ ∀ i, i < n → w.cell? ⟨b, o + i, none⟩ = some (V i)

theorem Row1.later {w w' : World} {ao : Option Addr} {n : Nat} {V : Nat → Value} (h : Row1 w ao n V) (hb : Below w.heap.size w w') : Row1 w' ao n V := by
  intro h0
  obtain ⟨b, o, e, hlt, hc⟩ := h h0
  refine ⟨b, o, e, Nat.lt_of_lt_of_le hlt hb.size, fun i hi => ?_⟩
  rw [hb.cell (by exact hlt)]
  exact hc i hi

/-- L is the length of the run of settled ones at the front, short of the last. -/
structure Lead (g : Nat → Bool) (n L : Nat) : Prop where
  le : L + 1 ≤ n
  all : ∀ i, i < L → g i = true
  stop : L + 1 = n ∨ g L = false

theorem lead_exists (g : Nat → Bool) (n : Nat) (hn : 1 ≤ n) : ∃ L, Lead g n L := by
  have key : ∀ k, k + 1 ≤ n → (∀ i, i < k → g i = true) ∨ ∃ L, Lead g n L := by
    intro k
    induction k with
    | zero => exact fun _ => .inl (fun i hi => by omega)
    | succ k ih =>
      intro hk
      rcases ih (by omega) with h | h
      · cases hg : g k
        · exact .inr ⟨k, by omega, h, .inr hg⟩
        · refine .inl (fun i hi => ?_)
          by_cases e : i = k
          · rw [e]
            exact hg
          · exact h i (by omega)
      · exact .inr h
  rcases key (n - 1) (by omega) with h | h
  · exact ⟨n - 1, by omega, h, .inl (by omega)⟩
  · exact h

theorem lead_unique {g : Nat → Bool} {n a b : Nat} (ha : Lead g n a) (hb : Lead g n b) : a = b := by
  rcases Nat.lt_trichotomy a b with h | h | h
  · rcases ha.stop with e | e
    · have := hb.le
      omega
    · rw [hb.all a h] at e
      cases e
  · exact h
  · rcases hb.stop with e | e
    · have := ha.le
      omega
    · rw [ha.all b h] at e
      cases e

set_option maxHeartbeats 1000000 in
theorem leading_any (w : World) (ao : Option Addr) (n cap L : Nat) (g : Nat → Bool) (h : Row1 w ao n (fun i => .bool (g i))) (hL : Lead g n L) (hn : n ≤ 65536) :
    Calls Try.prog 25 #[.slice ao n cap] w fun e w' => e = .returned (.int .i64 L) ∧ w = w' := by
  have hn' : (n : Int) ≤ 65536 := by omega
  have hle := hL.le
  have hle' : (L : Int) + 1 ≤ (n : Int) := by omega
  go_enter Try.func25, Try.ntmps25
  go_wp2
  go_loop [3] (fun i => ∃ k : Nat, k ≤ L ∧ i = .int .i64 k) (fun i => L + 1 - (intOf i).toNat)
  case atStart => exact ⟨0, Nat.zero_le _, rfl⟩
  case round =>
    obtain ⟨k, hk, rfl⟩ := hrel
    obtain ⟨b, o, rfl, hblt, hc⟩ := h (by omega)
    have hc' := hc k (by omega)
    by_cases hlt : k < L
    · simp only [hL.all k hlt] at hc'
      have t1 : (k : Int) < (n : Int) - 1 := by omega
      clear hc h
      go_wp2
      go_round
      case rel => exact ⟨k + 1, by omega, by go_num⟩
      case measure =>
        simp [intOf]
        omega
    · obtain rfl : k = L := by omega
      rcases hL.stop with e | e
      · have t1 : ¬ (k : Int) < (n : Int) - 1 := by omega
        clear hc h hc' e
        go_wp2
        go_ret
        exact ⟨rfl, rfl⟩
      · simp only [e] at hc'
        by_cases t1 : (k : Int) < (n : Int) - 1
        · clear hc h e
          go_wp2
          go_ret
          exact ⟨rfl, rfl⟩
        · clear hc h e hc'
          go_wp2
          go_ret
          exact ⟨rfl, rfl⟩

set_option maxHeartbeats 1000000 in
theorem freeAre_any (w : World) (fo : Option Addr) (k cap : Nat) (h : Row1 w fo k (fun i => .int .i32 i)) (hk : k ≤ 65536) :
    Calls Try.prog 30 #[.slice fo k cap, .int .i64 0, .int .i64 0, .int .i64 k] w fun e w' => e = .returned (.bool true) ∧ w = w' := by
  have hk' : (k : Int) ≤ 65536 := by omega
  go_enter Try.func30, Try.ntmps30
  go_wp2
  go_loop [9] (fun i => ∃ j : Nat, j ≤ k ∧ i = .int .i64 j) (fun i => k - (intOf i).toNat)
  case atStart => exact ⟨0, Nat.zero_le _, rfl⟩
  case round =>
    obtain ⟨j, hj, rfl⟩ := hrel
    by_cases hlt : (j : Int) < (k : Int)
    · obtain ⟨b, o, rfl, hblt, hc⟩ := h (by omega)
      have hc' := hc j (by omega)
      have j0 : (0 : Int) ≤ (j : Int) := Int.natCast_nonneg _
      clear hc h
      go_wp2
      go_round
      case rel => exact ⟨j + 1, by omega, by go_num⟩
      case measure =>
        simp [intOf]
        omega
    · obtain rfl : j = k := by omega
      go_wp2
      go_ret
      exact ⟨rfl, rfl⟩
end Go.Proofs.Qxb6613362a
