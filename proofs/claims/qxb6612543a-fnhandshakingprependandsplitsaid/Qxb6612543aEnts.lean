/-
  THE WALKS of ZZnewEntrant, ZZraceOf, handshaking, ZZhandshaking; what a list of entrants is in memory.
-/
import Derived.Test.Qxb6612543aRows
import Derived.WalkKit
import Derived.WalkSpells
import Derived.Below
import Derived.LoopTactic
namespace Go.Proofs.Qxb6612543a
open Go.RowKit
set_option linter.unusedVariables false

/-- One entrant, as handshaking reads it. -/
structure E3 where
  sh : Bool
  st : Bool
  pr : Bool

def runB (l : List E3) : Bool := l.any fun e => e.sh
def stB (l : List E3) : Bool := l.any fun e => e.sh && (e.st && !e.pr)

theorem runB_append (l m : List E3) : runB (l ++ m) = (runB l || runB m) := by simp [runB]
theorem stB_append (l m : List E3) : stB (l ++ m) = (stB l || stB m) := by simp [stB]
theorem runB_one (e : E3) : runB [e] = e.sh := by simp [runB]
theorem stB_one (e : E3) : stB [e] = (e.sh && (e.st && !e.pr)) := by simp [stB]
theorem take_succ' (l : List E3) (k : Nat) (h : k < l.length) : l.take (k + 1) = l.take k ++ [l[k]] := by
  rw [List.take_add_one, List.getElem?_eq_getElem h]
  rfl

/-- The block of one entrant. -/
def entObj (a b c : Bool) : Obj := .cells #[.int .u8 0, .int .u64 0, .int .i64 0, .pointer none, .int .u64 0, .int .i64 0, .pointer none, .nilIface, .bool false, .bool a, .bool b, .bool c, .chan none] 45

structure EntAt (w : World) (p : Nat) (e : E3) : Prop where
  sh : w.cell? ⟨p, 9, none⟩ = some (.bool e.sh)
  st : w.cell? ⟨p, 10, none⟩ = some (.bool e.st)
  pr : w.cell? ⟨p, 11, none⟩ = some (.bool e.pr)

/-- The pointers vs lead to the entrants l; none of them lies in block B. -/
structure Pts (w : World) (B : Nat) (vs : List Value) (l : List E3) : Prop where
  len : vs.length = l.length
  pts : ∀ j (h : j < l.length), ∃ p, vs[j]? = some (.pointer (some ⟨p, 0, none⟩)) ∧ p ≠ B ∧ p < w.heap.size ∧ EntAt w p l[j]

theorem newEnt_any (w : World) (a b c : Bool) :
    Calls Try.prog 9 #[.bool a, .bool b, .bool c] w fun e w' => e = .returned (.pointer (some ⟨w.heap.size, 0, none⟩)) ∧ w' = w.alloc (entObj a b c) := by
  go_enter Try.func9, Try.ntmps9
  go_wp2
  go_ret
  exact ⟨rfl, rfl⟩

theorem race_any (w : World) (v : Option Addr) (n c : Nat) :
    Calls Try.prog 11 #[.slice v n c] w fun e w' => e = .returned (.pointer (some ⟨w.heap.size, 0, none⟩)) ∧ w'.cell? ⟨w.heap.size, 8, none⟩ = some (.slice v n c) ∧ ∃ o, w' = w.alloc o := by
  go_enter Try.func11, Try.ntmps11
  go_wp2
  go_ret
  exact ⟨rfl, by simp [go_sem], _, rfl⟩

set_option maxHeartbeats 1000000 in
theorem shake_any (w : World) (b B c : Nat) (vs : List Value) (l : List E3) (hr : w.cell? ⟨b, 8, none⟩ = some (.slice (some ⟨B, 0, none⟩) l.length c))
    (hrow : ∀ j u, vs[j]? = some u → w.cell? ⟨B, j, none⟩ = some u) (hp : Pts w B vs l) (hn : l.length ≤ 200000) :
    Calls Try.prog 12 #[.pointer (some ⟨b, 0, none⟩)] w fun e w' => e = .returned (.tuple #[.bool (runB l), .bool (stB l)]) ∧ w' = w := by
  go_enter Try.func12, Try.ntmps12
  go_wp2
  go_loop [2, 3, 11] (fun r s i => ∃ k : Nat, k ≤ l.length ∧ i = .int .i64 k ∧ r = .bool (runB (l.take k)) ∧ s = .bool (stB (l.take k))) (fun r s i => l.length - (intOf i).toNat)
  case atStart => exact ⟨0, Nat.zero_le _, rfl, rfl, rfl⟩
  case round =>
    obtain ⟨k, hk, rfl, rfl, rfl⟩ := hrel
    by_cases hlt : (k : Int) < (l.length : Int)
    · have hlt' : k < l.length := by omega
      obtain ⟨p, h1, -, -, hE⟩ := hp.pts k hlt'
      have hc := hrow k _ h1
      have ht := take_succ' l k hlt'
      obtain ⟨⟨sh, st, pr⟩, he⟩ : ∃ e, l[k] = e := ⟨_, rfl⟩
      rw [he] at hE ht
      have hR : Hid (runB (l.take (k + 1)) = (runB (l.take k) || sh)) := by
        show runB (l.take (k + 1)) = _
        rw [ht, runB_append, runB_one]
      have hS : Hid (stB (l.take (k + 1)) = (stB (l.take k) || (sh && (st && !pr)))) := by
        show stB (l.take (k + 1)) = _
        rw [ht, stB_append, stB_one]
      obtain ⟨e1, e2, e3⟩ := hE
      generalize runB (l.take k) = R at hR ⊢
      generalize stB (l.take k) = S at hS ⊢
      clear ht he h1
      cases sh <;> cases S <;> cases st <;> cases pr
      all_goals
        go_wp2
        go_round
        case rel => exact ⟨k + 1, by omega, by go_num, by rw [hR.out]; simp, by rw [hS.out]; simp⟩
        case measure =>
          simp [intOf]
          omega
    · obtain rfl : k = l.length := by omega
      go_wp2
      go_ret2
      exact ⟨rfl, rfl⟩

theorem zshake_any (w : World) (b B c : Nat) (vs : List Value) (l : List E3) (hr : w.cell? ⟨b, 8, none⟩ = some (.slice (some ⟨B, 0, none⟩) l.length c))
    (hrow : ∀ j u, vs[j]? = some u → w.cell? ⟨B, j, none⟩ = some u) (hp : Pts w B vs l) (hn : l.length ≤ 200000) :
    Calls Try.prog 10 #[.pointer (some ⟨b, 0, none⟩)] w fun e w' => e = .returned (.tuple #[.bool (runB l), .bool (stB l)]) ∧ w' = w := by
  go_enter Try.func10, Try.ntmps10
  go_wp2_with (go_at_call 12; refine (shake_any _ b B c vs l hr hrow hp hn).mono ?_; rintro e w' ⟨rfl, rfl⟩)
  go_ret2
  exact ⟨rfl, rfl⟩
end Go.Proofs.Qxb6612543a
