/-
  THE WALK of (*Machine).report.
-/
import Derived.Test.Qxb6613362aNew
import Derived.Deep.RegionLaw
import Derived.Deep.CutRange
import Derived.Deep.AppendLies
namespace Go.Proofs.Qxb6613362a
open Go.RowKit
set_option linter.unusedVariables false

def mcells (p : Nat) (st en : Nat → Int) (k : Nat) : List Value := (List.range k).flatMap fun i => [.int .i64 ((p : Int) + 1), .int .i64 (st i), .int .i64 (en i)]
def fcells (k : Nat) : List Value := (List.range k).map fun (i : Nat) => Value.int .i32 (i : Int)
theorem mcells_succ (p : Nat) (st en : Nat → Int) (k : Nat) : mcells p st en (k + 1) = mcells p st en k ++ [.int .i64 ((p : Int) + 1), .int .i64 (st k), .int .i64 (en k)] := by
  simp [mcells, List.range_succ]
theorem fcells_succ (k : Nat) : fcells (k + 1) = fcells k ++ [.int .i32 (k : Int)] := by
  simp [fcells, List.range_succ]

/-- The searches of the law: search i leads to i + 1. -/
def srs (g : Nat → Bool) (st en : Nat → Int) : Nat → SR := fun i => ⟨g i, st i, en i, (i : Int) + 1⟩

theorem Try.info110 : (Try.prog.info? 110).map (fun i => (i.zero, i.size, i.bytes)) = some (some (.agg #[.int .i64 0, .int .i64 0, .int .i64 0]), 3, 24) := by kernel_rfl
theorem Try.info21 : (Try.prog.info? 21).map (fun i => (i.zero, i.size, i.bytes)) = some (some (.int .i32 0), 1, 4) := by kernel_rfl

theorem own_ne {w : World} {B e size n M t : Nat} {v : Value} {xs : List Value} {mc : Array Value} (h : w.ownsRow B e size v n xs) (hM : w.heap[M]? = some (.cells mc t (0, 0))) (hne : t ≠ e) : v.ownBlock ≠ some M := by
  rcases h.2 with ⟨rfl, -⟩ | ⟨g, cap, cur, rfl, -, hg, -⟩
  · simp [Value.ownBlock]
  · intro h'
    have e1 : g = M := by simpa [Value.ownBlock] using h'
    rw [e1, hM] at hg
    simp at hg
    exact hne hg.2

theorem MS.own_ne {w : World} {M C S p n : Nat} {hd tl : Int} {f : Nat → SR} {mv fv v : Value} {B e size k : Nat} {xs : List Value} (h : MS w M C S p n hd tl f mv fv) (ho : w.ownsRow B e size v k xs) (h1 : 103 ≠ e) (h2 : 105 ≠ e) (h3 : 107 ≠ e) :
    v.ownBlock ≠ some M ∧ v.ownBlock ≠ some C ∧ v.ownBlock ≠ some S := by
  obtain ⟨mc, hm, -⟩ := h.m
  obtain ⟨cc, hc, -⟩ := h.c
  obtain ⟨sc, hs, -⟩ := h.s
  exact ⟨Qxb6613362a.own_ne ho hm h1, Qxb6613362a.own_ne ho hc h2, Qxb6613362a.own_ne ho hs h3⟩

/-- What one value owns stays owned while another's row grows. -/
theorem own_keep {w w' : World} {B e e' size size' n n' : Nat} {v v' : Value} {xs xs' : List Value} (h : w.ownsRow B e size v n xs) (h' : w.ownsRow B e' size' v' n' xs') (hne : e ≠ e') (hg : w.grownBy w' v'.ownBlock) : w'.ownsRow B e size v n xs := by
  obtain ⟨h1, h2⟩ := h
  refine ⟨h1, ?_⟩
  rcases h2 with h2 | ⟨g, cap, cur, hv, hb, hh, r⟩
  · exact .inl h2
  · refine .inr ⟨g, cap, cur, hv, hb, ?_, r⟩
    rw [hg.block g (lt_of_block hh) (Ne.symm (own_ne h' hh hne))]
    exact hh

/-- .. and while a cell of a block of another kind is written. -/
theorem own_set {w : World} {B e size n M t j : Nat} {v u : Value} {xs : List Value} {mc : Array Value} (h : w.ownsRow B e size v n xs) (hM : w.heap[M]? = some (.cells mc t (0, 0))) (hne : t ≠ e) : (w.setCell ⟨M, j, none⟩ u).ownsRow B e size v n xs := by
  have hn := own_ne h hM hne
  obtain ⟨h1, h2⟩ := h
  refine ⟨h1, ?_⟩
  rcases h2 with h2 | ⟨g, cap, cur, hv, hb, hh, r⟩
  · exact .inl h2
  · refine .inr ⟨g, cap, cur, hv, hb, ?_, r⟩
    subst hv
    have hgm : g ≠ M := by
      intro e1
      exact hn (by rw [← e1]; rfl)
    rw [heap_setCell_other w _ g u (by exact hgm)]
    exact hh

theorem own_base {w : World} {B e size n : Nat} {v : Value} {xs : List Value} (h : w.ownsRow B e size v n xs) : ∀ k, v.ownBlock = some k → B ≤ k := by
  intro k hk
  rcases h.2 with ⟨rfl, -⟩ | ⟨g, cap, cur, rfl, hb, -⟩
  · simp [Value.ownBlock] at hk
  · have e1 : g = k := by simpa [Value.ownBlock] using hk
    omega

/-- Behind 'm.matches = append(m.matches, ..)'. -/
theorem after_matches {w X w1 : World} {B M C S p n t j gg cap : Nat} {g : Nat → Bool} {st en : Nat → Int} {mv fv : Value} {o : Obj} (ms2 : MS X M C S p n j t (srs g st en) mv fv) (mo2 : X.ownsRow B 110 3 mv j (mcells p st en j)) (fo2 : X.ownsRow B 21 1 fv j (fcells j)) (be2 : Below B w X) (hBM : B ≤ M)
    (hown1 : w1.ownsRow B 110 3 (.slice (some ⟨gg, 0, none⟩) (j + 1) cap) (j + 1) (mcells p st en j ++ [.int .i64 ((p : Int) + 1), .int .i64 (st j), .int .i64 (en j)])) (hgrow : (X.alloc o).drew.grownBy w1 mv.ownBlock) :
    MS (w1.setCell ⟨M, 37, none⟩ (.slice (some ⟨gg, 0, none⟩) (j + 1) cap)) M C S p n j t (srs g st en) (.slice (some ⟨gg, 0, none⟩) (j + 1) cap) fv ∧
    (w1.setCell ⟨M, 37, none⟩ (.slice (some ⟨gg, 0, none⟩) (j + 1) cap)).ownsRow B 110 3 (.slice (some ⟨gg, 0, none⟩) (j + 1) cap) (j + 1) (mcells p st en (j + 1)) ∧
    (w1.setCell ⟨M, 37, none⟩ (.slice (some ⟨gg, 0, none⟩) (j + 1) cap)).ownsRow B 21 1 fv j (fcells j) ∧
    Below B w (w1.setCell ⟨M, 37, none⟩ (.slice (some ⟨gg, 0, none⟩) (j + 1) cap)) := by
  obtain ⟨o1, o2, o3⟩ := ms2.own_ne mo2 (by decide) (by decide) (by decide)
  have ms3 := ((ms2.alloc o).drew).grown hgrow o1 o2 o3
  obtain ⟨mc, hm, -⟩ := ms3.m
  have hX : B ≤ X.heap.size := by
    have := ms2.lt.1
    omega
  refine ⟨ms3.setMatches _, ?_, ?_, ?_⟩
  · rw [mcells_succ]
    exact own_set hown1 hm (by decide)
  · exact own_set (own_keep (fo2.alloc o).drew (mo2.alloc o).drew (by decide) hgrow) hm (by decide)
  · exact (((be2.alloc hX o).drew).grown hgrow (by simp; omega) (own_base mo2)).setCell hBM _

/-- Behind 'm.free = append(m.free, ..)'. -/
theorem after_free {w X w1 : World} {B M C S p n t j gg cap : Nat} {g : Nat → Bool} {st en : Nat → Int} {mv fv : Value} {o : Obj} (ms2 : MS X M C S p n j t (srs g st en) mv fv) (mo2 : X.ownsRow B 110 3 mv (j + 1) (mcells p st en (j + 1))) (fo2 : X.ownsRow B 21 1 fv j (fcells j)) (be2 : Below B w X) (hBM : B ≤ M)
    (hown1 : w1.ownsRow B 21 1 (.slice (some ⟨gg, 0, none⟩) (j + 1) cap) (j + 1) (fcells j ++ [.int .i32 (j : Int)])) (hgrow : (X.alloc o).drew.grownBy w1 fv.ownBlock) :
    MS (w1.setCell ⟨M, 33, none⟩ (.slice (some ⟨gg, 0, none⟩) (j + 1) cap)) M C S p n j t (srs g st en) mv (.slice (some ⟨gg, 0, none⟩) (j + 1) cap) ∧
    (w1.setCell ⟨M, 33, none⟩ (.slice (some ⟨gg, 0, none⟩) (j + 1) cap)).ownsRow B 110 3 mv (j + 1) (mcells p st en (j + 1)) ∧
    (w1.setCell ⟨M, 33, none⟩ (.slice (some ⟨gg, 0, none⟩) (j + 1) cap)).ownsRow B 21 1 (.slice (some ⟨gg, 0, none⟩) (j + 1) cap) (j + 1) (fcells (j + 1)) ∧
    Below B w (w1.setCell ⟨M, 33, none⟩ (.slice (some ⟨gg, 0, none⟩) (j + 1) cap)) := by
  obtain ⟨o1, o2, o3⟩ := ms2.own_ne fo2 (by decide) (by decide) (by decide)
  have ms3 := ((ms2.alloc o).drew).grown hgrow o1 o2 o3
  obtain ⟨mc, hm, -⟩ := ms3.m
  have hX : B ≤ X.heap.size := by
    have := ms2.lt.1
    omega
  refine ⟨ms3.setFree _, ?_, ?_, ?_⟩
  · exact own_set (own_keep (mo2.alloc o).drew (fo2.alloc o).drew (by decide) hgrow) hm (by decide)
  · rw [fcells_succ]
    exact own_set hown1 hm (by decide)
  · exact (((be2.alloc hX o).drew).grown hgrow (by simp; omega) (own_base fo2)).setCell hBM _

/-- Behind 'c.head = s.next'. -/
theorem after_head {w X : World} {B M C S p n t j k : Nat} {g : Nat → Bool} {st en : Nat → Int} {mv fv : Value} (x : Int) (ms2 : MS X M C S p n j t (srs g st en) mv fv) (mo2 : X.ownsRow B 110 3 mv k (mcells p st en k)) (fo2 : X.ownsRow B 21 1 fv k (fcells k)) (be2 : Below B w X) (hBC : B ≤ C) :
    MS (X.setCell ⟨C, p * 3, none⟩ (.int .i32 x)) M C S p n x t (srs g st en) mv fv ∧ (X.setCell ⟨C, p * 3, none⟩ (.int .i32 x)).ownsRow B 110 3 mv k (mcells p st en k) ∧ (X.setCell ⟨C, p * 3, none⟩ (.int .i32 x)).ownsRow B 21 1 fv k (fcells k) ∧ Below B w (X.setCell ⟨C, p * 3, none⟩ (.int .i32 x)) := by
  obtain ⟨cc, hc, -⟩ := ms2.c
  exact ⟨ms2.setHead x, own_set mo2 hc (by decide), own_set fo2 hc (by decide), be2.setCell hBC _⟩

set_option maxRecDepth 100000 in
set_option maxHeartbeats 8000000 in
theorem report_any (w : World) (B M C S p n t j0 L : Nat) (g : Nat → Bool) (st en : Nat → Int) (mv0 fv0 : Value) (hn : n ≤ 65536) (hp : p ≤ 65536) (ht : t + 1 = n) (hL : Lead g n L) (hj0 : j0 ≤ L)
    (hms0 : MS w M C S p n j0 t (srs g st en) mv0 fv0) (hmo0 : w.ownsRow B 110 3 mv0 j0 (mcells p st en j0)) (hfo0 : w.ownsRow B 21 1 fv0 j0 (fcells j0)) (hBM : B ≤ M) (hBC : B ≤ C) :
    Calls Try.prog 36 #[.pointer (some ⟨M, 0, none⟩), .int .i64 p] w fun e w' => e = .returned (.tuple #[]) ∧ ∃ mv fv, MS w' M C S p n L t (srs g st en) mv fv ∧ w'.ownsRow B 110 3 mv L (mcells p st en L) ∧ w'.ownsRow B 21 1 fv L (fcells L) ∧ Below B w w' := by
  obtain ⟨i0, hi0, hz0, hz1, hz2⟩ := info_parts Try.info110
  obtain ⟨k0, hk0, hy0, hy1, hy2⟩ := info_parts Try.info21
  obtain ⟨a1, a2, a3, a4⟩ := hms0.mcell
  obtain ⟨a5, a6⟩ := hms0.ccell
  have p0 : (0 : Int) ≤ (p : Int) := Int.natCast_nonneg _
  have p1 : (p : Int) < ((p + 1 : Nat) : Int) := by omega
  go_enter Try.func36, Try.ntmps36
  go_wp2
  go_loopg [5] (L - j0) (fun gk _ wr => ∃ (j : Nat) (mv fv : Value), gk = L - j ∧ j ≤ L ∧ MS wr M C S p n j t (srs g st en) mv fv ∧ wr.ownsRow B 110 3 mv j (mcells p st en j) ∧ wr.ownsRow B 21 1 fv j (fcells j) ∧ Below B w wr)
  case atStart => exact ⟨j0, mv0, fv0, rfl, hj0, hms0, hmo0, hfo0, Below.refl _ _⟩
  case round =>
    obtain ⟨j, mv, fv, rfl, hj, hms, hmo, hfo, hbel⟩ := hrel
    clear hms0 hmo0 hfo0 a1 a2 a3 a4 a5 a6 hj0
    obtain ⟨a1, a2, a3, a4⟩ := hms.mcell
    obtain ⟨a5, a6⟩ := hms.ccell
    have hLe := hL.le
    obtain ⟨b1, b2, b3, b4⟩ := hms.scell j (by omega)
    obtain ⟨n1, n2, n3⟩ := hms.ne
    obtain ⟨l1, l2, l3⟩ := hms.lt
    simp only [srs] at b1 b2 b3 b4
    have j0 : (0 : Int) ≤ (j : Int) := Int.natCast_nonneg _
    have j1 : (j : Int) < (n : Int) := by omega
    by_cases hlt : j < L
    · rw [hL.all j hlt] at b4
      have hne : ((j : Int) == (t : Int)) = false := by simp; omega
      have hne' : ((j : Int) != (t : Int)) = true := by simp; omega
      go_wp2_with fail
      go_quiet (fail)
      rename Nat => nq1
      go_wp2_with fail
      go_quiet (fail)
      rename Nat => nq2
      go_wp2_with fail
      have ms2 := (hms.drewN nq1).drewN nq2
      have mo2 : ((wr.drewN nq1).drewN nq2).ownsRow B 110 3 mv j (mcells p st en j) := hmo
      have fo2 : ((wr.drewN nq1).drewN nq2).ownsRow B 21 1 fv j (fcells j) := hfo
      have be2 := below_dN (below_dN hbel nq1) nq2
      generalize (wr.drewN nq1).drewN nq2 = X at ms2 mo2 fo2 be2 ⊢
      clear a1 a2 a3 a4 a5 a6 b1 b2 b3 b4 l1 l2 l3 hms hmo hfo hbel
      obtain ⟨a1, a2, a3, a4⟩ := ms2.mcell
      obtain ⟨a5, a6⟩ := ms2.ccell
      obtain ⟨b1, b2, b3, b4⟩ := ms2.scell j (by omega)
      obtain ⟨l1, l2, l3⟩ := ms2.lt
      simp only [srs] at b1 b2 b3 b4
      obtain ⟨o1, o2, o3⟩ := ms2.own_ne mo2 (by decide) (by decide) (by decide)
      have hw : IntKind.i64.wrap ((p : Int) + 1) = (p : Int) + 1 := by rw [IntKind.wrap_i64]; omega
      have hBX : B ≤ X.heap.size := by omega
      go_cut [5] from 12 to 82 (fun sp wc => sp = .pointer (some ⟨S, j * 11, none⟩) ∧ ∃ mv', MS wc M C S p n j t (srs g st en) mv' fv ∧ wc.ownsRow B 110 3 mv' (j + 1) (mcells p st en (j + 1)) ∧ wc.ownsRow B 21 1 fv j (fcells j) ∧ Below B w wc)
      case first =>
        go_region_law ((refine step_append_lies _ (by rfl) _ _ _ (by rfl) B 110 i0 _ 3 24 Try.underlying52 hi0 hz0 hz1 hz2 rfl (by omega) mv j (mcells p st en j) (by simp [Act.eval]) ((mo2.alloc _).drew) ⟨X.heap.size, 0, none⟩ 1 1 [.int .i64 ((p : Int) + 1), .int .i64 (st j), .int .i64 (en j)] (by simp [Act.eval]) (by rfl) (World.news_of_block (cs := #[.int .i64 ((p : Int) + 1), .int .i64 (st j), .int .i64 (en j)]) (t := 110) (fr := (0, 0)) (heap_alloc_new X _)) (by simp [Value.oneCell']) (by omega) (by unfold maxLen; omega) (by omega) (by simp; omega) (X.heap.size + 1) (by simp) ?_; intro gg cap w1 hown1 hgrow hat hglt; have ms3 := ((ms2.alloc _).drew).grown hgrow o1 o2 o3; have cM := ms3.mcell.2.2.2; have fM := ms3.mfree 37))
        all_goals
          have R := after_matches ms2 mo2 fo2 be2 hBM hown1 hgrow
          clear hown1 hgrow ms3 cM fM
          go_wp2_with fail
          go_meet
          case rel => exact ⟨rfl, _, R⟩
      case rest =>
        obtain ⟨rfl, mv', ms4, mo4, fo4, be4⟩ := hcut
        clear a1 a2 a3 a4 a5 a6 b1 b2 b3 b4 l1 l2 l3 o1 o2 o3 ms2 mo2 fo2 be2 hBX hw
        obtain ⟨a1, a2, a3, a4⟩ := ms4.mcell
        obtain ⟨a5, a6⟩ := ms4.ccell
        obtain ⟨l1, l2, l3⟩ := ms4.lt
        obtain ⟨o1, o2, o3⟩ := ms4.own_ne fo4 (by decide) (by decide) (by decide)
        have hBX : B ≤ wc.heap.size := by omega
        go_wp2_with fail
        go_cut [5] from 12 to 82 (fun sp wd => sp = .pointer (some ⟨S, j * 11, none⟩) ∧ ∃ fv', MS wd M C S p n j t (srs g st en) mv' fv' ∧ wd.ownsRow B 110 3 mv' (j + 1) (mcells p st en (j + 1)) ∧ wd.ownsRow B 21 1 fv' (j + 1) (fcells (j + 1)) ∧ Below B w wd)
        case first =>
          go_region_law ((refine step_append_lies _ (by rfl) _ _ _ (by rfl) B 21 k0 _ 1 4 Try.underlying36 hk0 hy0 hy1 hy2 rfl (by omega) fv j (fcells j) (by simp [Act.eval]) ((fo4.alloc _).drew) ⟨wc.heap.size, 0, none⟩ 1 1 [.int .i32 (j : Int)] (by simp [Act.eval]) (by rfl) (World.news_of_block (cs := #[.int .i32 (j : Int)]) (t := 21) (fr := (0, 0)) (heap_alloc_new wc _)) (by simp [Value.oneCell']) (by omega) (by unfold maxLen; omega) (by omega) (by simp; omega) (wc.heap.size + 1) (by simp) ?_; intro gg cap w1 hown1 hgrow hat hglt; have ms3 := ((ms4.alloc _).drew).grown hgrow o1 o2 o3; have cM := ms3.mcell.2.2.1; have fM := ms3.mfree 33))
          all_goals
            have R := after_free ms4 mo4 fo4 be4 hBM hown1 hgrow
            clear hown1 hgrow ms3 cM fM
            go_wp2_with fail
            go_meet
            case rel => exact ⟨rfl, _, R⟩
        case rest =>
          obtain ⟨rfl, fv', ms5, mo5, fo5, be5⟩ := hcut
          clear a1 a2 a3 a4 a5 a6 l1 l2 l3 o1 o2 o3 ms4 mo4 fo4 be4 hBX
          obtain ⟨a1, a2, a3, a4⟩ := ms5.mcell
          obtain ⟨a5, a6⟩ := ms5.ccell
          obtain ⟨b1, b2, b3, b4⟩ := ms5.scell j (by omega)
          simp only [srs] at b1 b2 b3 b4
          have fC := ms5.cfree (p * 3)
          have R := after_head ((j : Int) + 1) ms5 mo5 fo5 be5 hBC
          have HR : Hid _ := R
          clear R ms5 mo5 fo5 be5
          go_wp2
          go_roundg (L - (j + 1))
          case measure => omega
          case rel =>
            obtain ⟨r1, r2, r3, r4⟩ := HR.out
            exact ⟨j + 1, mv', fv', rfl, by omega, by have e : ((j + 1 : Nat) : Int) = (j : Int) + 1 := by omega
                                                      rw [e]; exact r1, r2, r3, r4⟩
    · obtain rfl : j = L := by omega
      by_cases hjt : j = t
      · subst hjt
        have hself : ((j : Int) != (j : Int)) = false := by simp
        go_wp2_with fail
        go_quiet (fail)
        go_wp2
        go_end0
        exact ⟨rfl, mv, fv, hms.drewN _, hmo, hfo, below_dN hbel _⟩
      · rw [hL.stop.resolve_left (by omega)] at b4
        have hne : ((j : Int) == (t : Int)) = false := by simp; omega
        have hne' : ((j : Int) != (t : Int)) = true := by simp; omega
        go_wp2_with fail
        go_quiet (fail)
        go_wp2
        go_end0
        exact ⟨rfl, mv, fv, hms.drewN _, hmo, hfo, below_dN hbel _⟩

theorem zreport_any (w : World) (B M C S p n t j0 L : Nat) (g : Nat → Bool) (st en : Nat → Int) (mv0 fv0 : Value) (hn : n ≤ 65536) (hp : p ≤ 65536) (ht : t + 1 = n) (hL : Lead g n L) (hj0 : j0 ≤ L)
    (hms0 : MS w M C S p n j0 t (srs g st en) mv0 fv0) (hmo0 : w.ownsRow B 110 3 mv0 j0 (mcells p st en j0)) (hfo0 : w.ownsRow B 21 1 fv0 j0 (fcells j0)) (hBM : B ≤ M) (hBC : B ≤ C) :
    Calls Try.prog 24 #[.pointer (some ⟨M, 0, none⟩), .int .i64 p] w fun e w' => e = .returned (.tuple #[]) ∧ ∃ mv fv, MS w' M C S p n L t (srs g st en) mv fv ∧ w'.ownsRow B 110 3 mv L (mcells p st en L) ∧ w'.ownsRow B 21 1 fv L (fcells L) ∧ Below B w w' := by
  go_enter Try.func24, Try.ntmps24
  go_wp2_with (go_at_call 36; refine (report_any _ B M C S p n t j0 L g st en mv0 fv0 hn hp ht hL hj0 hms0 hmo0 hfo0 hBM hBC).mono ?_; rintro e w' ⟨rfl, hpost⟩)
  go_end0
  exact ⟨rfl, hpost⟩
end Go.Proofs.Qxb6613362a
