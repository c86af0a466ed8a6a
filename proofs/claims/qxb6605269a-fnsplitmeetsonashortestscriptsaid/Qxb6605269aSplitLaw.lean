import Derived.Test.Qxb6605269aSplitWalk
import Derived.Test.Qxb6605269aSplitZZ
import Derived.Test.Qxb6605269aClone
import Derived.Deep.RegionHeld3
import Derived.Deep.DrawnRows
namespace Go.Proofs.Qxb6605269a.SplitLaw
open Go.ChangeShapes Go.WideShapes Go.ChangeAt Go.RowKit
open Go.Proofs.Qxb6605269a.SplitMath
open Go.Proofs.Qxb6605269a.SplitInv
open Go.Proofs.Qxb6605269a.SplitWalk
open Go.Proofs.Qxb6605269a.Clone
open Go.Proofs.Qxb6605269a.Lcs (hide rowIs_drewN set_int eqs lcs_any info3)
attribute [local go_sem ↓] Go.wp_at_zero Go.wp_at_succ

def mrel (n m p q : Nat) (A B : Nat → Int) (i j : Nat) : Bool := decide (i < n) && decide (j < m) && (A (p + i) == B (q + j))
def parsOf (n m p q : Nat) (A B : Nat → Int) (S : Int) : Pars := { n := n, m := m, h := (n + m + 1) / 2, M := mrel n m p q A B, p := p, q := q, S := S }

theorem mbox (n m p q : Nat) (A B : Nat → Int) : InBox n m (mrel n m p q A B) := by
  intro i j h
  simp only [mrel, Bool.and_eq_true, decide_eq_true_eq] at h
  exact h.1

/-- what the two runs of split come to, and the three lengths -/
theorem plain (n m p q : Nat) (A B : Nat → Int) (hn1 : 1 ≤ n) (hm1 : 1 ≤ m) (hn : n ≤ 4096) (hm : m ≤ 4096) (h0 : (A p == B q) = false) (h1 : (A (p + n - 1) == B (q + m - 1)) = false) :
    ∃ (X Y : Nat) (C : Int), X ≤ n ∧ Y ≤ m ∧ ¬ (X = 0 ∧ Y = 0) ∧ ¬ (X = n ∧ Y = m) ∧ 0 ≤ C ∧ C ≤ 1000000000000 ∧
      ((P (eqs (fun i => A (p + i)) (fun j => B (q + j))) X Y : Int) + (P (eqs (fun i => A (p + X + i)) (fun j => B (q + Y + j))) (n - X) (m - Y) : Int) = (P (eqs (fun i => A (p + i)) (fun j => B (q + j))) n m : Int)) ∧
      ∀ S, (C ≤ S → (parsOf n m p q A B S).whole = some ((p : Int) + X, (q : Int) + Y, true, S - C)) ∧
        (S < C → ∃ left, (parsOf n m p q A B S).whole = some (0, 0, false, left) ∧ left < 0 ∧ S - C ≤ left) := by
  have hb := mbox n m p q A B
  have e0 : mrel n m p q A B 0 0 = false := by simp only [mrel, Nat.add_zero, h0, Bool.and_false]
  have e1 : mrel n m p q A B (n - 1) (m - 1) = false := by
    simp only [mrel, show p + (n - 1) = p + n - 1 from by omega, show q + (m - 1) = q + m - 1 from by omega, h1, Bool.and_false]
  obtain ⟨X, Y, C, ⟨g1, g2, g3, g4, g5⟩, c0, c1, cl⟩ := split_law n m (mrel n m p q A B) p q hb e0 hn1 hm1 e1 hn hm
  refine ⟨X, Y, C, g1, g2, g4, g5, c0, c1, ?_, cl⟩
  have k1 : P (eqs (fun i => A (p + i)) (fun j => B (q + j))) X Y = P (mrel n m p q A B) X Y := by
    apply P_congr
    intro i j hi hj
    simp only [eqs, mrel, show i < n from by omega, show j < m from by omega, decide_true, Bool.true_and]
  have k3 : P (eqs (fun i => A (p + i)) (fun j => B (q + j))) n m = P (mrel n m p q A B) n m := by
    apply P_congr
    intro i j hi hj
    simp only [eqs, mrel, hi, hj, decide_true, Bool.true_and]
  have k2 : P (eqs (fun i => A (p + X + i)) (fun j => B (q + Y + j))) (n - X) (m - Y) = P (R n m (mrel n m p q A B)) (n - X) (m - Y) := by
    rw [← P_shift n m _ hb X Y g1 g2]
    apply P_congr
    intro i j hi hj
    simp only [eqs, shift, mrel, show X + i < n from by omega, show Y + j < m from by omega, decide_true, Bool.true_and, Nat.add_assoc]
  rw [k1, k2, k3]; omega

/-- ZZSplit over four rows of the call's own -/
theorem zz_at (n m p q : Nat) (A B F G : Nat → Int) (S : Int) (ga gb gf gg la lb lf lg : Nat) (w : World)
    (rA : w.rowIs ga 3 la (fun i => .int .i64 (A i))) (rB : w.rowIs gb 3 lb (fun i => .int .i64 (B i))) (rF : w.rowIs gf 3 lf (fun i => .int .i64 (F i))) (rG : w.rowIs gg 3 lg (fun i => .int .i64 (G i)))
    (d1 : gf ≠ gg) (d2 : ga ≠ gf) (d3 : ga ≠ gg) (d4 : gb ≠ gf) (d5 : gb ≠ gg)
    (l1 : la ≤ 32768) (l2 : lb ≤ 32768) (l3 : lf ≤ 32768) (l4 : lg ≤ 32768) (hpn : p + n ≤ la) (hqm : q + m ≤ lb) (hn1 : 1 ≤ n) (hm1 : 1 ≤ m) (hn : n ≤ 4096) (hm : m ≤ 4096)
    (hlf : 2 * ((n + m + 1) / 2) + 3 ≤ lf) (hlg : 2 * ((n + m + 1) / 2) + 3 ≤ lg) (hS0 : 0 ≤ S) (hS1 : S ≤ 9223372036854775807) (hne : (parsOf n m p q A B S).whole ≠ none) :
    Calls Try.prog 9 #[.slice (some ⟨ga, 0, none⟩) la la, .slice (some ⟨gb, 0, none⟩) lb lb, .int .i64 S, .slice (some ⟨gf, 0, none⟩) lf lf, .slice (some ⟨gg, 0, none⟩) lg lg, .int .i64 (p : Int), .int .i64 ((p : Int) + (n : Int)), .int .i64 (q : Int), .int .i64 ((q : Int) + (m : Int))] w fun e w' =>
      PostZ (parsOf n m p q A B S) w gf gg e w' := by
  have hfz := rF.lt
  have hgz := rG.lt
  have haz := rA.lt
  have hbz := rB.lt
  refine zzsplit (parsOf n m p q A B S) (some ⟨ga, 0, none⟩) (some ⟨gb, 0, none⟩) la lb la lb gf gg lf lg p _ q _ w ?_
  refine split_any (parsOf n m p q A B S) w.heap.size ga gb 0 0 la lb la lb gf gg lf lg p q n m ((n + m + 1) / 2) (fun i => A (p + i)) (fun i => B (q + i)) F G _ _ rfl rfl rfl rfl rfl hS0 hS1 rfl rfl rfl rfl hpn hqm (Nat.le_refl _) (Nat.le_refl _)
    (by omega) (by omega) hn hm hn1 hm1 rfl hlf hlg (by omega) (by omega) (zz_inv w _ _ _ _ S gf gg lf lg F G rF rG) d1 (by omega) (by omega) d2 d3 (by omega) d4 d5 (by omega) ?_ ?_ (fun i j => rfl) hne
  · intro i hi
    rw [World.cell?_alloc_past _ _ _ haz, Nat.zero_add]
    exact rA.cell (by omega)
  · intro i hi
    rw [World.cell?_alloc_past _ _ _ hbz, Nat.zero_add]
    exact rB.cell (by omega)

theorem src {w wx : World} {b o l : Nat} {L : Nat → Int} (hb : Below w.heap.size w wx) (h : ∀ i, i < l → w.cell? ⟨b, o + i, none⟩ = some (.int .i64 (L i))) :
    ∀ i, i < l → wx.cell? ((⟨b, o, none⟩ : Addr).add i) = some (.int .i64 (L i)) := by
  intro i hi
  rw [add_plain, hb.cell (World.block_lt_of_cell? w _ (h i hi))]
  exact h i hi
theorem row_below {w wx : World} {B b t n : Nat} {f : Nat → Value} (h : w.rowIs b t n f) (hb : Below B w wx) (hB : b < B) : wx.rowIs b t n f := h.of_block (hb.block b hB)

/-- the second call, over two rows that were just made, in whatever order -/
theorem zz_two (n m p q h : Nat) (A B : Nat → Int) (X Y : Nat) (l2 : Int) (ga gb gf gg la lb : Nat) (w : World) (hg : (gf = w.heap.size ∧ gg = w.heap.size + 1) ∨ (gf = w.heap.size + 1 ∧ gg = w.heap.size))
    (rA : w.rowIs ga 3 la (fun i => .int .i64 (A i))) (rB : w.rowIs gb 3 lb (fun i => .int .i64 (B i)))
    (l1 : la ≤ 32768) (l2' : lb ≤ 32768) (hpn : p + n ≤ la) (hqm : q + m ≤ lb) (hn1 : 1 ≤ n) (hm1 : 1 ≤ m) (hn : n ≤ 4096) (hm : m ≤ 4096) (hh : h = (n + m + 1) / 2)
    (hrun : (parsOf n m p q A B 9223372036854775807).whole = some ((p : Int) + X, (q : Int) + Y, true, l2)) :
    Calls Try.prog 9 #[.slice (some ⟨ga, 0, none⟩) la la, .slice (some ⟨gb, 0, none⟩) lb lb, .int .i64 9223372036854775807, .slice (some ⟨gf, 0, none⟩) (2 * h + 3) (2 * h + 3), .slice (some ⟨gg, 0, none⟩) (2 * h + 3) (2 * h + 3), .int .i64 (p : Int), .int .i64 ((p : Int) + (n : Int)), .int .i64 (q : Int), .int .i64 ((q : Int) + (m : Int))]
      ((w.alloc (.cells (madeCells #[.int .i64 0] (2 * h + 3)) 3)).alloc (.cells (madeCells #[.int .i64 0] (2 * h + 3)) 3)).drew fun e w' =>
      e = .returned (.tuple #[.int .i64 ((p : Int) + X), .int .i64 ((q : Int) + Y), .bool true, .int .i64 l2]) ∧ Below w.heap.size w w' := by
  have r1 : ((w.alloc (.cells (madeCells #[.int .i64 0] (2 * h + 3)) 3)).alloc (.cells (madeCells #[.int .i64 0] (2 * h + 3)) 3)).drew.rowIs w.heap.size 3 (2 * h + 3) (fun i => .int .i64 ((fun _ => 0) i)) :=
    ((World.rowIs_made w (.int .i64 0) (2 * h + 3) 3).alloc _).drew
  have r2 : ((w.alloc (.cells (madeCells #[.int .i64 0] (2 * h + 3)) 3)).alloc (.cells (madeCells #[.int .i64 0] (2 * h + 3)) 3)).drew.rowIs (w.heap.size + 1) 3 (2 * h + 3) (fun i => .int .i64 ((fun _ => 0) i)) := by
    have e := (World.rowIs_made (w.alloc (.cells (madeCells #[.int .i64 0] (2 * h + 3)) 3)) (.int .i64 0) (2 * h + 3) 3).drew
    rw [World.size_alloc] at e
    exact e
  have hb : Below w.heap.size w ((w.alloc (.cells (madeCells #[.int .i64 0] (2 * h + 3)) 3)).alloc (.cells (madeCells #[.int .i64 0] (2 * h + 3)) 3)).drew := (((Below.refl _ _).alloc (Nat.le_refl _) _).alloc (by simp) _).drew
  have hfz := rA.lt
  have hgz := rB.lt
  have rA' := ((rA.alloc (.cells (madeCells #[.int .i64 0] (2 * h + 3)) 3)).alloc (.cells (madeCells #[.int .i64 0] (2 * h + 3)) 3)).drew
  have rB' := ((rB.alloc (.cells (madeCells #[.int .i64 0] (2 * h + 3)) 3)).alloc (.cells (madeCells #[.int .i64 0] (2 * h + 3)) 3)).drew
  subst hh
  generalize ((w.alloc (.cells (madeCells #[.int .i64 0] (2 * ((n + m + 1) / 2) + 3)) 3)).alloc (.cells (madeCells #[.int .i64 0] (2 * ((n + m + 1) / 2) + 3)) 3)).drew = wx at *
  have hne : (parsOf n m p q A B 9223372036854775807).whole ≠ none := by rw [hrun]; intro hx; cases hx
  have fin : ∀ e w', PostZ (parsOf n m p q A B 9223372036854775807) wx gf gg e w' → e = .returned (.tuple #[.int .i64 ((p : Int) + X), .int .i64 ((q : Int) + Y), .bool true, .int .i64 l2]) ∧ Below w.heap.size w w' := by
    rintro e w' ⟨x, y, ok, left, rfl, hw, hbb⟩
    rw [hrun] at hw
    simp only [Option.some.injEq, Prod.mk.injEq] at hw
    obtain ⟨rfl, rfl, rfl, rfl⟩ := hw
    exact ⟨rfl, hb.trans (hbb w.heap.size (by omega) (by omega) hb.size)⟩
  rcases hg with ⟨rfl, rfl⟩ | ⟨rfl, rfl⟩
  · exact (zz_at n m p q A B (fun _ => 0) (fun _ => 0) 9223372036854775807 ga gb _ _ la lb _ _ wx rA' rB' r1 r2 (by omega) (by omega) (by omega) (by omega) (by omega) l1 l2' (by omega) (by omega) hpn hqm hn1 hm1 hn hm (by omega) (by omega) (by omega) (by omega) hne).mono fin
  · exact (zz_at n m p q A B (fun _ => 0) (fun _ => 0) 9223372036854775807 ga gb _ _ la lb _ _ wx rA' rB' r2 r1 (by omega) (by omega) (by omega) (by omega) (by omega) l1 l2' (by omega) (by omega) hpn hqm hn1 hm1 hn hm (by omega) (by omega) (by omega) (by omega) hne).mono fin

/-- what the three reckonings need of the world -/
def SS (w5 : World) (ga gb la lb : Nat) (A B : Nat → Int) (wx : World) : Prop := wx.rowIs ga 3 la (fun i => .int .i64 (A i)) ∧ wx.rowIs gb 3 lb (fun i => .int .i64 (B i)) ∧ Below w5.heap.size w5 wx
theorem SS_a {w5 wx : World} {ga gb la lb : Nat} {A B : Nat → Int} (h : SS w5 ga gb la lb A B wx) : wx.rowIs ga 3 la (fun i => .int .i64 (A i)) := h.1
theorem SS_b {w5 wx : World} {ga gb la lb : Nat} {A B : Nat → Int} (h : SS w5 ga gb la lb A B wx) : wx.rowIs gb 3 lb (fun i => .int .i64 (B i)) := h.2.1
theorem SS_drew {w5 wx : World} {ga gb la lb : Nat} {A B : Nat → Int} (h : SS w5 ga gb la lb A B wx) : SS w5 ga gb la lb A B wx.drew := ⟨h.1.drew, h.2.1.drew, h.2.2.drew⟩
theorem SS_below {w5 wx wy : World} {ga gb la lb : Nat} {A B : Nat → Int} (h : SS w5 ga gb la lb A B wx) (hb : Below wx.heap.size wx wy) : SS w5 ga gb la lb A B wy :=
  ⟨row_below h.1 hb h.1.lt, row_below h.2.1 hb h.2.1.lt, h.2.2.trans (hb.mono h.2.2.size)⟩

/-- zzb1LCS over parts of two rows -/
theorem lcs_off (ga gb LA LB : Nat) (A B : Nat → Int) (o1 o2 l1 l2 c1 c2 : Nat) (w : World) (rA : w.rowIs ga 3 LA (fun i => .int .i64 (A i))) (rB : w.rowIs gb 3 LB (fun i => .int .i64 (B i))) (h1 : o1 + l1 ≤ LA) (h2 : o2 + l2 ≤ LB) (h3 : l1 ≤ 4096) (h4 : l2 ≤ 4096) :
    Calls Try.prog 10 #[.slice (some ⟨ga, o1, none⟩) l1 c1, .slice (some ⟨gb, o2, none⟩) l2 c2] w fun e w' => e = .returned (.int .i64 (P (eqs (fun i => A (o1 + i)) (fun j => B (o2 + j))) l1 l2)) ∧ Below w.heap.size w w' :=
  lcs_any _ _ l1 l2 c1 c2 _ _ w h3 h4 (fun _ => ⟨ga, o1, rfl, fun i hi => rA.cell (by omega)⟩) (fun _ => ⟨gb, o2, rfl, fun i hi => rB.cell (by omega)⟩)


theorem wrap_ne (k : Nat) (h : (k : Int) ≤ 4096) : (IntKind.i64.wrap (k : Int) != (k : Int)) = false := by
  have e : IntKind.i64.wrap (k : Int) = (k : Int) := by
    have hm : (k : Int) % 18446744073709551616 = (k : Int) := by omega
    unfold IntKind.wrap
    simp [IntKind.bits, IntKind.signed, hm]
    omega
  rw [e]
  simp
theorem sum_at (n m p q X Y o1 o2 : Nat) (A B : Nat → Int) (h1 : o1 = p + X ∨ X = n) (h2 : o2 = q + Y ∨ Y = m)
    (hs : (P (eqs (fun i => A (p + i)) (fun j => B (q + j))) X Y : Int) + (P (eqs (fun i => A (p + X + i)) (fun j => B (q + Y + j))) (n - X) (m - Y) : Int) = (P (eqs (fun i => A (p + i)) (fun j => B (q + j))) n m : Int)) :
    (P (eqs (fun i => A (p + i)) (fun j => B (q + j))) X Y : Int) + (P (eqs (fun i => A (o1 + i)) (fun j => B (o2 + j))) (n - X) (m - Y) : Int) = (P (eqs (fun i => A (p + i)) (fun j => B (q + j))) n m : Int) := by
  rw [← hs]
  congr 2
  rcases h1 with rfl | rfl
  · rcases h2 with rfl | rfl
    · rfl
    · rw [Nat.sub_self, P_zr, P_zr]
  · rw [Nat.sub_self, P_zl, P_zl]

set_option maxRecDepth 100000 in
set_option maxHeartbeats 40000000 in
theorem law_in (p q n m : Nat) (S : Int) (ba oa la ca bb ob lb cb bf of_ lf cf bg og lg cg : Nat) (A B F G : Nat → Int) (w : World)
    (hl : la + lb + lf + lg ≤ 1048576) (l1 : la ≤ 32768) (l2' : lb ≤ 32768) (l3 : lf ≤ 32768) (l4 : lg ≤ 32768) (hn1 : 1 ≤ n) (hm1 : 1 ≤ m) (hpn : p + n ≤ la) (hqm : q + m ≤ lb) (hn : n ≤ 4096) (hm : m ≤ 4096)
    (hA : ∀ i, i < la → w.cell? ⟨ba, oa + i, none⟩ = some (.int .i64 (A i))) (hB : ∀ i, i < lb → w.cell? ⟨bb, ob + i, none⟩ = some (.int .i64 (B i)))
    (hF : ∀ i, i < lf → w.cell? ⟨bf, of_ + i, none⟩ = some (.int .i64 (F i))) (hG : ∀ i, i < lg → w.cell? ⟨bg, og + i, none⟩ = some (.int .i64 (G i)))
    (e0 : (A p == B q) = false) (e1 : (A (p + n - 1) == B (q + m - 1)) = false) (hlf : 2 * ((n + m + 1) / 2) + 3 ≤ lf) (hlg : 2 * ((n + m + 1) / 2) + 3 ≤ lg) (hS0 : 0 ≤ S) (hS1 : S ≤ 9223372036854775807) :
    Calls Try.prog 3 #[.slice (some ⟨ba, oa, none⟩) la ca, .slice (some ⟨bb, ob, none⟩) lb cb, .int .i64 S, .slice (some ⟨bf, of_, none⟩) lf cf, .slice (some ⟨bg, og, none⟩) lg cg, .int .i64 (p : Int), .int .i64 ((p : Int) + (n : Int)), .int .i64 (q : Int), .int .i64 ((q : Int) + (m : Int))] w fun e w' =>
      e = .returned (.bool true) ∧ Below w.heap.size w w' := by
  have PL := hide (plain n m p q A B hn1 hm1 hn hm e0 e1)
  have i1 : (p : Int) < (p : Int) + (n : Int) := by omega
  have i2 : (p : Int) + (n : Int) ≤ (la : Int) := by omega
  have i3 : (q : Int) < (q : Int) + (m : Int) := by omega
  have i4 : (q : Int) + (m : Int) ≤ (lb : Int) := by omega
  obtain ⟨h, hh⟩ : ∃ h, h = (n + m + 1) / 2 := ⟨_, rfl⟩
  rw [← hh] at hlf hlg
  have i5 : ((n : Int) + (m : Int) + 1) / 2 = (h : Int) := by omega
  have i12 : (p : Int) + (n : Int) - (p : Int) = (n : Int) := by omega
  have i13 : (q : Int) + (m : Int) - (q : Int) = (m : Int) := by omega
  have hmk := fun wx => run_make_row' (P := Try.prog) 22 3 (.int .i64 0) 8 Try.underlying22 info3 rfl .i64 .i64 (2 * h + 3) (by omega) (by omega) wx
  rw [show ((2 * h + 3 : Nat) : Int) = 2 * (h : Int) + 3 from by omega] at hmk
  have i6 : (2 : Int) * h + 3 ≤ (lf : Int) := by omega
  have i7 : (2 : Int) * h + 3 ≤ (lg : Int) := by omega
  have i8 : (p : Int) + (n : Int) - 1 = ((p + n - 1 : Nat) : Int) := by omega
  have i9 : (q : Int) + (m : Int) - 1 = ((q + m - 1 : Nat) : Int) := by omega
  have i10 : ((p + n - 1 : Nat) : Int) < (la : Int) := by omega
  have i11 : ((q + m - 1 : Nat) : Int) < (lb : Int) := by omega
  have g1 := hA p (by omega)
  have g2 := hB q (by omega)
  have g3 := hA (p + n - 1) (by omega)
  have g4 := hB (q + m - 1) (by omega)
  obtain ⟨pe, hpe⟩ : ∃ pe, pe = p + n - 1 := ⟨_, rfl⟩
  obtain ⟨qe, hqe⟩ : ∃ qe, qe = q + m - 1 := ⟨_, rfl⟩
  rw [← hpe] at i8 i10 g3 e1
  rw [← hqe] at i9 i11 g4 e1
  have HA := hide hA
  have HB := hide hB
  have HF := hide hF
  have HG := hide hG
  have HPE := hide hpe
  have HQE := hide hqe
  have HH := hide hh
  clear hA hB hF hG hpe hqe hh
  go_enter Try.func3, Try.ntmps3
  go_wp2_with (go_at_call 7; refine (zzbytes_yes _ _ _ _ _ _ _ _ _ _ _ _ _ _ _ _ _ _ hl).mono ?_; rintro e w' ⟨rfl, rfl⟩)
  go_quiet (fail)
  go_wp2_with fail
  have hb0 : Below w'.heap.size w' (w'.drewN nq) := below_drewN (Below.refl _ _) nq
  refine (clone_row _ _ _ A _ (by omega) (src hb0 HA.out)).mono ?_
  rintro e w1 ⟨ga, rfl, c1⟩
  have hb1 := hb0.trans c1.below
  have H0 := hide hb1
  clear hb0 hb1
  have H1 := hide c1
  clear c1
  go_wp2_with fail
  refine (clone_row _ _ _ B _ (by omega) (src H0.out HB.out)).mono ?_
  rintro e w2 ⟨gb, rfl, c2⟩
  have H2 := hide c2
  clear c2
  go_wp2_with fail
  refine (clone_row _ _ _ F _ (by omega) (src (H0.out.trans (H2.out.below.mono H0.out.size)) HF.out)).mono ?_
  rintro e w3 ⟨gf, rfl, c3⟩
  have H3 := hide c3
  clear c3
  go_wp2_with fail
  have HB3 := hide ((H0.out.trans (H2.out.below.mono H0.out.size)).trans (H3.out.below.mono (Nat.le_trans H0.out.size H2.out.below.size)))
  refine (clone_row _ _ _ G _ (by omega) (src HB3.out HG.out)).mono ?_
  rintro e w4 ⟨gg, rfl, c4⟩
  have HB4 := hide (HB3.out.trans (c4.below.mono HB3.out.size))
  have o1 : ga < w1.heap.size ∧ w1.heap.size ≤ gb ∧ gb < w2.heap.size ∧ w2.heap.size ≤ gf ∧ gf < w3.heap.size ∧ w3.heap.size ≤ gg ∧ gg < w4.heap.size := ⟨H1.out.hi, H2.out.lo, H2.out.hi, H3.out.lo, H3.out.hi, c4.lo, c4.hi⟩
  have RG := hide c4.row
  have RF := hide (row_below H3.out.row c4.below H3.out.hi)
  have RB := hide (row_below (row_below H2.out.row H3.out.below H2.out.hi) c4.below (by omega))
  have RA := hide (row_below (row_below (row_below H1.out.row H2.out.below H1.out.hi) H3.out.below (by omega)) c4.below (by omega))
  have hw0 : w'.heap.size ≤ ga := by have := H1.out.lo; simpa using this
  clear c4 H1 H2 H3 HB3 H0 HA HB HF HG g1 g2 g3 g4 i8 i9 i10 i11 HPE HQE
  obtain ⟨X, Y, C, x1, y1, hz, hz2, C0, C1, hsum, hruns⟩ := PL.out
  have HR := hide hruns
  have HS := hide hsum
  clear hruns hsum PL
  go_wp2_with fail
  refine (zz_at n m p q A B F G S ga gb gf gg la lb lf lg _ RA.out RB.out RF.out RG.out (by omega) (by omega) (by omega) (by omega) (by omega) l1 l2' l3 l4 hpn hqm hn1 hm1 hn hm (by rw [← HH.out]; exact hlf) (by rw [← HH.out]; exact hlg) hS0 hS1 ?_).mono ?_
  · intro hx
    by_cases hc : C ≤ S
    · rw [(HR.out S).1 hc] at hx; cases hx
    · obtain ⟨lf5, e1, _⟩ := (HR.out S).2 (by omega)
      rw [e1] at hx; cases hx
  rintro e w5 ⟨x5, y5, ok5, left5, rfl, hw5, hb5⟩
  have HW5 := hide hw5
  have R5 := hide (hb5 w2.heap.size (by omega) (by omega) (by omega))
  have H55 := hide (hb5 0 (by omega) (by omega) (by omega)).size
  clear hw5 hb5
  go_wp2_with fail
  obtain ⟨l2, hl2⟩ : ∃ l2 : Int, l2 = 9223372036854775807 - C := ⟨_, rfl⟩
  have HL2 := hide hl2
  have hl2b : 0 ≤ l2 ∧ l2 ≤ 9223372036854775807 := by omega
  clear hl2
  go_cut [26, 27, 28, 29] from 35 (fun x y ok l wx => x = .int .i64 ((p : Int) + (X : Int)) ∧ y = .int .i64 ((q : Int) + (Y : Int)) ∧ ok = .bool true ∧ l = .int .i64 l2 ∧ Below w5.heap.size w5 wx)
  case first =>
    have A5 := hide (row_below RA.out R5.out (by omega))
    have B5 := hide (row_below RB.out R5.out (by omega))
    have HRUN := hide ((HR.out 9223372036854775807).1 (by omega))
    rw [← HL2.out] at HRUN
    go_region_with ((go_at_call 9; refine (zz_two n m p q h A B X Y l2 ga gb _ _ la lb w5 (by first | exact Or.inl ⟨rfl, rfl⟩ | exact Or.inr ⟨rfl, rfl⟩) A5.out B5.out l1 l2' hpn hqm hn1 hm1 hn hm HH.out HRUN.out).mono ?_; rintro e w6 ⟨rfl, hb6⟩))
    all_goals
      go_simp
      go_wp2_with fail
      go_meet
      exact ⟨rfl, rfl, rfl, rfl, hb6⟩
  case rest => as_aux_lemma =>
    obtain ⟨rfl, rfl, rfl, rfl, hbc⟩ := hcut
    have HBC := hide hbc
    clear hbc hmk
    have rC : 9223372036854775807 - l2 = C := by have := HL2.out; omega
    have i14 : (p : Int) + (X : Int) - (p : Int) = (X : Int) := by omega
    have i15 : (q : Int) + (Y : Int) - (q : Int) = (Y : Int) := by omega
    have hXi : (X : Int) ≤ (n : Int) := by omega
    have hYi : (Y : Int) ≤ (m : Int) := by omega
    have HZ := hide hz
    have HZ2 := hide hz2
    clear hz hz2
    go_upto_region 25 with fail
    go_cut [233] from 35 (fun c wx => c = .bool false ∧ wx = wc)
    case first => as_aux_lemma =>
      have u1 : ((X : Int) == 0 && (Y : Int) == 0) = false := by
        have := HZ.out
        by_cases e1 : X = 0
        · have e2 : ¬ Y = 0 := fun e => this ⟨e1, e⟩
          simp [e2]
        · simp [e1]
      have u2 : ((X : Int) == (n : Int) && (Y : Int) == (m : Int)) = false := by
        have := HZ2.out
        by_cases e1 : X = n
        · have e2 : ¬ Y = m := fun e => this ⟨e1, e⟩
          simp [e2, Int.ofNat_inj]
        · simp [e1, Int.ofNat_inj]
      cases t1 : ((X : Int) == 0)
      all_goals
        cases t2 : ((X : Int) == (n : Int))
      all_goals
        rw [t1] at u1
        rw [t2] at u2
        simp only [Bool.true_and, Bool.false_and] at u1 u2
        go_wp2_with fail
        go_meet
        exact ⟨congrArg Value.bool (by simp; omega), rfl⟩
    case rest => as_aux_lemma =>
      obtain ⟨rfl, rfl⟩ := hcut
      have k1 : ((p : Int) + (n : Int)).toNat - p = n := by omega
      have k2 : ((q : Int) + (m : Int)).toNat - q = m := by omega
      go_wp2_with fail
      go_quiet (fail)
      go_wp2_with fail
      have hX0 : (0 : Int) ≤ (X : Int) := by omega
      have hY0 : (0 : Int) ≤ (Y : Int) := by omega
      have hXc : (X : Int) ≤ ((la - p : Nat) : Int) := by omega
      have hYc : (Y : Int) ≤ ((lb - q : Nat) : Int) := by omega
      have hSS : SS w5 ga gb la lb A B (wc.drewN nq) := ⟨rowIs_drewN (row_below (row_below RA.out R5.out (by omega)) HBC.out (by have := H55.out; omega)) nq, rowIs_drewN (row_below (row_below RB.out R5.out (by omega)) HBC.out (by have := H55.out; omega)) nq, below_drewN HBC.out nq⟩
      have hq := fun o1 o2 h1 h2 => sum_at n m p q X Y o1 o2 A B h1 h2 HS.out
      have hP3 : (P (eqs (fun i => A (p + i)) (fun j => B (q + j))) n m : Int) ≤ 4096 := by have := (P_le (eqs (fun i => A (p + i)) (fun j => B (q + j))) n m).1; omega
      go_cut [33, 34, 260] from 35 (fun s33 s34 c wx => c = .bool false ∧ SS w5 ga gb la lb A B wx)
      case first =>
        rcases (show la - p = X ∨ ¬ la - p = X from Classical.em _) with hx | hx
        all_goals
          rcases (show lb - q = Y ∨ ¬ lb - q = Y from Classical.em _) with hy | hy
        · have hq1 := hq (p) (q) (Or.inr (by omega)) (Or.inr (by omega))
          clear hq
          go_region_held3 (fun wx => SS w5 ga gb la lb A B wx) (first | assumption | exact SS_drew (by assumption) | exact SS_below (by assumption) (by assumption)) ((go_at_call 10; refine (lcs_off ga gb la lb A B _ _ _ _ _ _ _ (SS_a (by assumption)) (SS_b (by assumption)) (by omega) (by omega) (by omega) (by omega)).mono ?_; rintro e w7 ⟨rfl, hb7⟩))
          go_wp2_with fail
          go_meet
          exact ⟨congrArg Value.bool (wrap_ne _ hP3), by assumption⟩
        · have hq1 := hq (p) (q + Y) (Or.inr (by omega)) (Or.inl rfl)
          clear hq
          go_region_held3 (fun wx => SS w5 ga gb la lb A B wx) (first | assumption | exact SS_drew (by assumption) | exact SS_below (by assumption) (by assumption)) ((go_at_call 10; refine (lcs_off ga gb la lb A B _ _ _ _ _ _ _ (SS_a (by assumption)) (SS_b (by assumption)) (by omega) (by omega) (by omega) (by omega)).mono ?_; rintro e w7 ⟨rfl, hb7⟩))
          go_wp2_with fail
          go_meet
          exact ⟨congrArg Value.bool (wrap_ne _ hP3), by assumption⟩
        · have hq1 := hq (p + X) (q) (Or.inl rfl) (Or.inr (by omega))
          clear hq
          go_region_held3 (fun wx => SS w5 ga gb la lb A B wx) (first | assumption | exact SS_drew (by assumption) | exact SS_below (by assumption) (by assumption)) ((go_at_call 10; refine (lcs_off ga gb la lb A B _ _ _ _ _ _ _ (SS_a (by assumption)) (SS_b (by assumption)) (by omega) (by omega) (by omega) (by omega)).mono ?_; rintro e w7 ⟨rfl, hb7⟩))
          go_wp2_with fail
          go_meet
          exact ⟨congrArg Value.bool (wrap_ne _ hP3), by assumption⟩
        · have hq1 := hq (p + X) (q + Y) (Or.inl rfl) (Or.inl rfl)
          clear hq
          go_region_held3 (fun wx => SS w5 ga gb la lb A B wx) (first | assumption | exact SS_drew (by assumption) | exact SS_below (by assumption) (by assumption)) ((go_at_call 10; refine (lcs_off ga gb la lb A B _ _ _ _ _ _ _ (SS_a (by assumption)) (SS_b (by assumption)) (by omega) (by omega) (by omega) (by omega)).mono ?_; rintro e w7 ⟨rfl, hb7⟩))
          go_wp2_with fail
          go_meet
          exact ⟨congrArg Value.bool (wrap_ne _ hP3), by assumption⟩
      case rest => as_aux_lemma =>
        obtain ⟨rfl, hs8⟩ := hcut
        have H8 := hide hs8.2.2
        clear hs8 hSS hq hP3
        have hcase : (C ≤ S ∧ x5 = (p : Int) + (X : Int) ∧ y5 = (q : Int) + (Y : Int) ∧ ok5 = true ∧ left5 = S - C) ∨ (S < C ∧ x5 = 0 ∧ y5 = 0 ∧ ok5 = false ∧ left5 < 0 ∧ S - C ≤ left5) := by
          have hw := HW5.out
          by_cases hc : C ≤ S
          · rw [(HR.out S).1 hc] at hw
            simp only [Option.some.injEq, Prod.mk.injEq] at hw
            exact Or.inl ⟨hc, hw.1.symm, hw.2.1.symm, hw.2.2.1.symm, hw.2.2.2.symm⟩
          · obtain ⟨lf5, e1, e2, e3⟩ := (HR.out S).2 (by omega)
            rw [e1] at hw
            simp only [Option.some.injEq, Prod.mk.injEq] at hw
            exact Or.inr ⟨by omega, hw.1.symm, hw.2.1.symm, hw.2.2.1.symm, by omega, by omega⟩
        have HFIN := hide ((HB4.out.trans (R5.out.mono (by omega))).trans (H8.out.mono (by have := H55.out; omega)))
        clear HW5
        rcases hcase with ⟨hc, rfl, rfl, rfl, rfl⟩ | ⟨hc, rfl, rfl, rfl, hc1, hc2⟩
        · go_wp2_with fail
          go_ret
          exact ⟨rfl, HFIN.out⟩
        · go_wp2_with fail
          go_ret
          exact ⟨rfl, HFIN.out⟩

end Go.Proofs.Qxb6605269a.SplitLaw
