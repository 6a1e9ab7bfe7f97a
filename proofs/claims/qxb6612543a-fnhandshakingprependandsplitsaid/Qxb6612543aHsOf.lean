/-
  THE WALK of handshakingOf.
-/
import Derived.Test.Qxb6612543aEnts
import Derived.OwnWalk
import Derived.Deep.RegionHeld3
import Derived.Deep.AppendLies
namespace Go.Proofs.Qxb6612543a
open Go.RowKit
set_option linter.unusedVariables false

theorem Try.info31 : (Try.prog.info? 31).map (fun i => (i.zero, i.size, i.bytes)) = some (some (.pointer none), 1, 8) := by kernel_rfl

/-- append WITHIN THE CAPACITY onto a slice of the call's own, as one step of a region that draws. -/
theorem step_append_fits {P : Program} {ops : Array Oper} {o : Oper} {a : Act} {w : World} {K : Act → World → Prop} {Q : Exit → Act → World → Prop} {E : Prop}
    (hg : o.guard = none) (s x : Operand) (t : TypeId) (hop : o.op = Op.call { callee := Callee.builtin Builtin.append, args := #[s, x], argTypes := #[t, t] })
    (base : Nat) (e : TypeId) (i : TypeInfo) (size : Nat) (h1 : P.underlying t = some (.slice e)) (h2 : P.info? e = some i) (h4 : i.size = size)
    (g k cap : Nat) (xs : List Value) (hs : a.eval s = .slice (some ⟨g, 0, none⟩) k cap) (hown : w.ownsRow base e size (.slice (some ⟨g, 0, none⟩) k cap) k xs) (ad : Addr) (m c : Nat) (news : List Value) (hx : a.eval x = .slice (some ad) m c) (hn : news.length = m * size)
    (hc : ∀ j u, news[j]? = some u → w.cell? (ad.add j) = some u) (h1c : ∀ u ∈ news, u.oneCell' = true) (b1 : k + m ≤ cap)
    (hK : ∀ w', w'.ownsRow base e size (.slice (some ⟨g, 0, none⟩) (k + m) cap) (k + m) (xs ++ news) → w.grownBy w' (some g) → K (a.put o.dst (.slice (some ⟨g, 0, none⟩) (k + m) cap)) w') :
    if Region.wanted o (yielded ops a.tmps) = true then Oper.wp P o a w K Q else E := by
  have hw : Region.wanted o (yielded ops a.tmps) = true := by simp [Region.wanted, hg]
  rw [if_pos hw]
  obtain ⟨w', hrun, r1, r2⟩ := run_append_fits (P := P) w base t o.type e i size h1 h2 h4 g k cap xs hown ad m c news hn hc h1c b1
  unfold Oper.wp
  simp [execOp, hop, resolve, invoke, builtin, hs, hx, hrun, Result.andThen]
  exact hK w' r1 r2

def entCells (l : List E3) : List Value := l.flatMap fun e => [.bool e.sh, .bool e.st, .bool e.pr]

/-- The slice value v of entrants reads as l in w. -/
def IsEnts (w : World) (v : Value) (l : List E3) : Prop :=
  ∃ ao cap, v = .slice ao l.length cap ∧ (ao = none → l.length = 0 ∧ cap = 0) ∧
    (0 < l.length → ∃ b o, ao = some ⟨b, o, none⟩ ∧ b < w.heap.size ∧ ∀ j u, (entCells l)[j]? = some u → w.cell? ⟨b, o + j, none⟩ = some u)

theorem entCells_length (l : List E3) : (entCells l).length = l.length * 3 := by
  induction l with
  | nil => rfl
  | cons e l ih =>
    have h : entCells (e :: l) = [.bool e.sh, .bool e.st, .bool e.pr] ++ entCells l := rfl
    rw [h, List.length_append, ih]
    simp
    omega

theorem entCells_at (l : List E3) (k : Nat) (h : k < l.length) : (entCells l)[k * 3]? = some (.bool l[k].sh) ∧ (entCells l)[k * 3 + 1]? = some (.bool l[k].st) ∧ (entCells l)[k * 3 + 2]? = some (.bool l[k].pr) := by
  induction l generalizing k with
  | nil => simp at h
  | cons e l ih =>
    have h0 : entCells (e :: l) = [.bool e.sh, .bool e.st, .bool e.pr] ++ entCells l := rfl
    cases k with
    | zero => simp [h0]
    | succ k =>
      obtain ⟨i1, i2, i3⟩ := ih k (by simpa using h)
      have e1 : (k + 1) * 3 = 3 + k * 3 := by omega
      have e2 : (k + 1) * 3 + 1 = 3 + (k * 3 + 1) := by omega
      have e3 : (k + 1) * 3 + 2 = 3 + (k * 3 + 2) := by omega
      rw [e2, e3, e1, h0]
      simp only [List.getElem?_append_right (show ([Value.bool e.sh, .bool e.st, .bool e.pr] : List Value).length ≤ 3 + k * 3 by simp), List.getElem?_append_right (show ([Value.bool e.sh, .bool e.st, .bool e.pr] : List Value).length ≤ 3 + (k * 3 + 1) by simp), List.getElem?_append_right (show ([Value.bool e.sh, .bool e.st, .bool e.pr] : List Value).length ≤ 3 + (k * 3 + 2) by simp)]
      simp [i1, i2, i3]

theorem IsEnts.later {w w' : World} {v : Value} {l : List E3} (h : IsEnts w v l) (hb : Below w.heap.size w w') : IsEnts w' v l := by
  obtain ⟨ao, cap, rfl, h1, h2⟩ := h
  refine ⟨ao, cap, rfl, h1, fun h0 => ?_⟩
  obtain ⟨b, o, e, hlt, hc⟩ := h2 h0
  refine ⟨b, o, e, Nat.lt_of_lt_of_le hlt hb.size, fun j u hu => ?_⟩
  rw [hb.cell (by exact hlt)]
  exact hc j u hu

theorem pts_step {wr w1 : World} {B : Nat} {vs : List Value} {l : List E3} {k : Nat} {a b c : Bool} {O2 : Obj} (hp : Pts wr B vs (l.take k)) (hk : k < l.length) (he : l[k] = ⟨a, b, c⟩) (hB : B < wr.heap.size)
    (hg : ((wr.alloc (entObj a b c)).alloc O2).grownBy w1 (some B)) : Pts w1 B (vs ++ [.pointer (some ⟨wr.heap.size, 0, none⟩)]) (l.take (k + 1)) := by
  have hlen : vs.length = k := by rw [hp.len, List.length_take]; omega
  have hsz := hg.size
  simp at hsz
  rw [take_succ' l k hk]
  refine ⟨by rw [List.length_append, List.length_append, hp.len]; rfl, fun j hj => ?_⟩
  have hj' : j ≤ k := by simp at hj; omega
  by_cases e : j = k
  · subst e
    refine ⟨wr.heap.size, by rw [List.getElem?_append_right (by omega)]; simp [hlen], by omega, by omega, ?_⟩
    have hl : (List.take j l ++ [l[j]])[j] = ⟨a, b, c⟩ := by
      rw [List.getElem_append_right (by simp; omega)]
      simp [he]
    rw [hl]
    have far := fun (o : Nat) => hg.cell_far ⟨wr.heap.size, o, none⟩ (by simp; omega) (by simp; omega)
    constructor
    · rw [far]
      simp [entObj, go_sem]
    · rw [far]
      simp [entObj, go_sem]
    · rw [far]
      simp [entObj, go_sem]
  · have hjk : j < (l.take k).length := by rw [List.length_take]; omega
    obtain ⟨p, h1, h2, h3, hE⟩ := hp.pts j hjk
    refine ⟨p, by rw [List.getElem?_append_left (by omega)]; exact h1, h2, by omega, ?_⟩
    have hl : (List.take k l ++ [l[k]])[j] = (l.take k)[j] := List.getElem_append_left hjk
    rw [hl]
    have far := fun (o : Nat) => hg.cell_far ⟨p, o, none⟩ (by simp; omega) (by simp; omega)
    have old := fun (o : Nat) => World.cell?_alloc_lt (wr.alloc (entObj a b c)) O2 ⟨p, o, none⟩ (by simp; omega)
    have old2 := fun (o : Nat) => World.cell?_alloc_lt wr (entObj a b c) ⟨p, o, none⟩ h3
    constructor
    · rw [far, old, old2]
      exact hE.sh
    · rw [far, old, old2]
      exact hE.st
    · rw [far, old, old2]
      exact hE.pr

theorem heap_two_new (w : World) (a b : Obj) : ((w.alloc a).alloc b).heap[w.heap.size + 1]? = some b := by
  have h := heap_alloc_new (w.alloc a) b
  simpa using h

theorem Pts.alloc {w : World} {B : Nat} {vs : List Value} {l : List E3} (h : Pts w B vs l) (o : Obj) : Pts (w.alloc o) B vs l := by
  refine ⟨h.len, fun j hj => ?_⟩
  obtain ⟨p, h1, h2, h3, hE⟩ := h.pts j hj
  have old := fun (x : Nat) => World.cell?_alloc_lt w o ⟨p, x, none⟩ h3
  exact ⟨p, h1, h2, by simp; omega, ⟨by rw [old]; exact hE.sh, by rw [old]; exact hE.st, by rw [old]; exact hE.pr⟩⟩

theorem own_row {w : World} {B n c : Nat} {vs : List Value} (h : w.ownsRow B 31 1 (.slice (some ⟨B, 0, none⟩) n c) n vs) : B < w.heap.size ∧ ∀ j u, vs[j]? = some u → w.cell? ⟨B, j, none⟩ = some u := by
  rcases h.2 with ⟨x, -⟩ | ⟨g, cp, cur, hv, -, hh, -, -, -, ht⟩
  · cases x
  · have hv' : B = g ∧ c = cp := by simpa using hv
    obtain ⟨rfl, rfl⟩ := hv'
    refine ⟨lt_of_block hh, fun j u hu => ?_⟩
    rw [cell_of_row w B j cur 31 (0, 0) hh]
    rw [← ht] at hu
    obtain ⟨hj, e⟩ := List.getElem?_eq_some_iff.1 hu
    simp at hj e
    rw [← e]
    simp

theorem grown_undrew {x w1 : World} {r : Option Nat} (h : x.drew.grownBy w1 r) : x.grownBy w1 r := ⟨h.os, h.tape, h.output, h.size, h.block⟩

set_option maxRecDepth 100000 in
set_option maxHeartbeats 3200000 in
theorem hs_any (w : World) (v : Value) (l : List E3) (h : IsEnts w v l) (hn : l.length ≤ 200000) :
    Calls Try.prog 6 #[v] w fun e w' => e = .returned (.tuple #[.bool (runB l), .bool (stB l)]) ∧ Below w.heap.size w w' := by
  obtain ⟨ao, cap, rfl, h1, h2⟩ := h
  obtain ⟨i0, hi0, hz0, hz1, hz2⟩ := info_parts Try.info31
  go_enter Try.func6, Try.ntmps6
  go_wp2_with (refine wpList_make_own _ rfl _ _ 30 rfl w.heap.size 31 i0 _ 1 Try.underlying30 hi0 hz0 hz1 _ _ _ l.length rfl rfl rfl (by rw [hz2]; omega) (by unfold maxLen; omega) (Nat.le_refl _) ?_; intro w0 hown0 hgrow0)
  have hb0 : Below w.heap.size w w0 := (Below.refl _ _).grown hgrow0 (Nat.le_refl _) (fun k h => by cases h)
  go_loopw [4, 5] (fun ps i wr => ∃ (k : Nat) (vs : List Value), k ≤ l.length ∧ i = .int .i64 k ∧ ps = .slice (some ⟨w.heap.size, 0, none⟩) k l.length ∧
      wr.ownsRow w.heap.size 31 1 (.slice (some ⟨w.heap.size, 0, none⟩) k l.length) k vs ∧ Pts wr w.heap.size vs (l.take k) ∧ Below w.heap.size w wr) (fun _ i _ => l.length - (intOf i).toNat)
  case atStart => exact ⟨0, [], Nat.zero_le _, rfl, rfl, hown0, ⟨rfl, fun j h => by simp at h⟩, hb0⟩
  case round =>
    obtain ⟨k, vs, hk, rfl, rfl, hown, hp, hbel⟩ := hrel
    by_cases hlt : (k : Int) < (l.length : Int)
    · have hlt' : k < l.length := by omega
      obtain ⟨b, o, rfl, hblt, hc⟩ := h2 (by omega)
      obtain ⟨d1, d2, d3⟩ := entCells_at l k hlt'
      have c1 := hc _ _ d1
      have c2 := hc _ _ d2
      have c3 := hc _ _ d3
      rw [← Nat.add_assoc] at c2 c3
      obtain ⟨⟨sh, st, pr⟩, he⟩ : ∃ e, l[k] = e := ⟨_, rfl⟩
      rw [he] at c1 c2 c3
      rw [← hbel.cell (by exact hblt)] at c1 c2 c3
      have HE : Hid (l[k] = ⟨sh, st, pr⟩) := he
      clear he d1 d2 d3 hc h1 h2 hown0 hgrow0 hb0
      have k0 : (0 : Int) ≤ (k : Int) := Int.natCast_nonneg _
      have hBlt := (own_row hown).1
      go_wp2_with fail
      go_region_held3 (fun w' => w'.cell? ⟨b, o + k * 3, none⟩ = some (.bool sh) ∧ w'.cell? ⟨b, o + k * 3 + 1, none⟩ = some (.bool st) ∧ w'.cell? ⟨b, o + k * 3 + 2, none⟩ = some (.bool pr))
        (first
          | go_keep
          | (go_split_ands; refine ⟨?_, ?_, ?_⟩ <;> (rw [hgrow.cell_far _ (by simp; omega) (by simp; omega)]; assumption)))
        (first
          | (go_at_call 9; refine (newEnt_any _ sh st pr).mono ?_; rintro e w' ⟨rfl, rfl⟩)
          | (refine step_append_fits (by rfl) _ _ _ (by rfl) w.heap.size 31 i0 1 Try.underlying30 hi0 hz1 w.heap.size k l.length vs (by rfl) (((hown.alloc _).alloc _).drew) ⟨wr.heap.size + 1, 0, none⟩ 1 1 [.pointer (some ⟨wr.heap.size, 0, none⟩)] (by rfl) (by rfl) (World.news_of_block (cs := #[.pointer (some ⟨wr.heap.size, 0, none⟩)]) (t := 31) (fr := (0, 0)) (heap_two_new _ _ _)) (by simp [Value.oneCell']) (by omega) ?_; intro w1 hown1 hgrow))
      have R := pts_step hp hlt' HE.out hBlt (grown_undrew hgrow)
      have hb2 : Below w.heap.size w w1 := (((hbel.alloc (by omega) _).alloc (by simp; omega) _).drew).grown hgrow (by simp; omega) (fun k h => by cases h; omega)
      clear hgrow hown hp hbel c1 c2 c3
      go_wp2
      go_roundw
      case rel => exact ⟨k + 1, _, by omega, by go_num, rfl, hown1, R, hb2⟩
      case measure =>
        simp [intOf]
        omega
    · obtain rfl : k = l.length := by omega
      rw [List.take_length] at hp
      obtain ⟨hBlt, hrow⟩ := own_row hown
      go_wp2_with (first
        | (go_at_call 11; refine (race_any _ _ _ _).mono ?_; rintro e w2 ⟨rfl, hr2, o, rfl⟩)
        | (go_at_call 10; refine (zshake_any _ wr.heap.size w.heap.size _ vs l hr2 (fun j u hu => (World.cell?_alloc_lt _ _ _ hBlt).trans (hrow j u hu)) (hp.alloc _) hn).mono ?_; rintro e w' ⟨rfl, rfl⟩))
      go_ret2
      exact ⟨rfl, hbel.alloc (by omega) _⟩
end Go.Proofs.Qxb6612543a
