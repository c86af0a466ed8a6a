import Derived.Test.Qxb6605269aClone
import Derived.Deep.RegionHeld3
import Derived.Deep.DrawnRows
namespace Go.Proofs.Qxb6605269a.SplitExit
open Go.ChangeShapes Go.WideShapes Go.ChangeAt Go.RowKit
open Go.Proofs.Qxb6605269a.Clone
open Go.Proofs.Qxb6605269a.Lcs (hide rowIs_drewN set_int eqs lcs_any info3)
attribute [local go_sem ↓] Go.wp_at_zero Go.wp_at_succ

set_option maxRecDepth 100000 in
set_option maxHeartbeats 4000000 in
/-- the total length is past the bound -/
theorem exit0 (a0 a1 a2 a3 : Option Addr) (la ca lb cb lf cf lg cg : Nat) (S a5 a6 a7 a8 : Int) (w : World) (m0 : la ≤ 9223372036854775807) (m1 : lb ≤ 9223372036854775807) (m2 : lf ≤ 9223372036854775807) (m3 : lg ≤ 9223372036854775807) (hl : ¬ la + lb + lf + lg ≤ 1048576) :
    Calls Try.prog 3 #[.slice a0 la ca, .slice a1 lb cb, .int .i64 S, .slice a2 lf cf, .slice a3 lg cg, .int .i64 a5, .int .i64 a6, .int .i64 a7, .int .i64 a8] w fun e w' =>
      e = .returned (.bool true) ∧ Below w.heap.size w w' := by
  go_enter Try.func3, Try.ntmps3
  go_wp2_with (go_at_call 7; refine (zzbytes_no _ _ _ _ _ _ _ _ _ _ _ _ _ _ _ _ _ _ m0 m1 m2 m3 hl).mono ?_; rintro e w' ⟨rfl, rfl⟩)
  go_ret
  exact ⟨rfl, Below.refl _ _⟩

set_option maxRecDepth 100000 in
set_option maxHeartbeats 4000000 in
/-- a length or a range is out of bounds -/
theorem exit1 (a0 a1 a2 a3 : Option Addr) (la ca lb cb lf cf lg cg : Nat) (S a5 a6 a7 a8 : Int) (w : World) (hl : la + lb + lf + lg ≤ 1048576)
    (hbad : ¬ (la ≤ 32768 ∧ lb ≤ 32768 ∧ lf ≤ 32768 ∧ lg ≤ 32768 ∧ 0 ≤ a5 ∧ a5 < a6 ∧ a6 ≤ la ∧ 0 ≤ a7 ∧ a7 < a8 ∧ a8 ≤ lb ∧ a6 - a5 ≤ 4096 ∧ a8 - a7 ≤ 4096)) :
    Calls Try.prog 3 #[.slice a0 la ca, .slice a1 lb cb, .int .i64 S, .slice a2 lf cf, .slice a3 lg cg, .int .i64 a5, .int .i64 a6, .int .i64 a7, .int .i64 a8] w fun e w' =>
      e = .returned (.bool true) ∧ Below w.heap.size w w' := by
  have HB := hide hbad
  clear hbad
  go_enter Try.func3, Try.ntmps3
  go_wp2_with (go_at_call 7; refine (zzbytes_yes _ _ _ _ _ _ _ _ _ _ _ _ _ _ _ _ _ _ hl).mono ?_; rintro e w' ⟨rfl, rfl⟩)
  all_goals first
    | (go_ret; exact ⟨rfl, Below.refl _ _⟩)
    | (exfalso; have := HB.out; omega)

set_option maxRecDepth 100000 in
set_option maxHeartbeats 4000000 in
theorem exit2 (p q n m : Nat) (S : Int) (ba oa la ca bb ob lb cb lf cf lg cg : Nat) (a2 a3 : Option Addr) (A B : Nat → Int) (w : World)
    (hl : la + lb + lf + lg ≤ 1048576) (l1 : la ≤ 32768) (l2' : lb ≤ 32768) (l3 : lf ≤ 32768) (l4 : lg ≤ 32768) (hn1 : 1 ≤ n) (hm1 : 1 ≤ m) (hpn : p + n ≤ la) (hqm : q + m ≤ lb) (hn : n ≤ 4096) (hm : m ≤ 4096)
    (hA : ∀ i, i < la → w.cell? ⟨ba, oa + i, none⟩ = some (.int .i64 (A i))) (hB : ∀ i, i < lb → w.cell? ⟨bb, ob + i, none⟩ = some (.int .i64 (B i)))
    (hbad : ¬ ((A p == B q) = false ∧ (A (p + n - 1) == B (q + m - 1)) = false ∧ 2 * ((n + m + 1) / 2) + 3 ≤ lf ∧ 2 * ((n + m + 1) / 2) + 3 ≤ lg ∧ 0 ≤ S)) :
    Calls Try.prog 3 #[.slice (some ⟨ba, oa, none⟩) la ca, .slice (some ⟨bb, ob, none⟩) lb cb, .int .i64 S, .slice a2 lf cf, .slice a3 lg cg, .int .i64 (p : Int), .int .i64 ((p : Int) + (n : Int)), .int .i64 (q : Int), .int .i64 ((q : Int) + (m : Int))] w fun e w' =>
      e = .returned (.bool true) ∧ Below w.heap.size w w' := by
  have i1 : (p : Int) < (p : Int) + (n : Int) := by omega
  have i2 : (p : Int) + (n : Int) ≤ (la : Int) := by omega
  have i3 : (q : Int) < (q : Int) + (m : Int) := by omega
  have i4 : (q : Int) + (m : Int) ≤ (lb : Int) := by omega
  obtain ⟨h, hh⟩ : ∃ h, h = (n + m + 1) / 2 := ⟨_, rfl⟩
  rw [← hh] at hbad
  have i5 : ((n : Int) + (m : Int) + 1) / 2 = (h : Int) := by omega
  have i12 : (p : Int) + (n : Int) - (p : Int) = (n : Int) := by omega
  have i13 : (q : Int) + (m : Int) - (q : Int) = (m : Int) := by omega
  have i8 : (p : Int) + (n : Int) - 1 = ((p + n - 1 : Nat) : Int) := by omega
  have i9 : (q : Int) + (m : Int) - 1 = ((q + m - 1 : Nat) : Int) := by omega
  have i10 : ((p + n - 1 : Nat) : Int) < (la : Int) := by omega
  have i11 : ((q + m - 1 : Nat) : Int) < (lb : Int) := by omega
  have g1 := hA p (by omega)
  have g2 := hB q (by omega)
  have g3 := hA (p + n - 1) (by omega)
  have g4 := hB (q + m - 1) (by omega)
  obtain ⟨pe, hpe⟩ : ∃ pe, pe = p + n - 1 := ⟨_, rfl⟩
  obtain ⟨qe, hqe⟩ : ∃ qe, qe = q + m - 1 := ⟨_, rfl⟩
  rw [← hpe] at i8 i10 g3 hbad
  rw [← hqe] at i9 i11 g4 hbad
  have HBAD := hide hbad
  have HH := hide hh
  have hh2 : h ≤ 4097 := by omega
  clear hA hB hpe hqe hh hbad
  cases e0 : (A p == B q)
  · cases e1 : (A pe == B qe)
    · have hb : ¬ (2 * h + 3 ≤ lf ∧ 2 * h + 3 ≤ lg ∧ 0 ≤ S) := fun hx => HBAD.out ⟨e0, e1, hx⟩
      have HB := hide hb
      clear hb HBAD
      go_enter Try.func3, Try.ntmps3
      go_wp2_with (go_at_call 7; refine (zzbytes_yes _ _ _ _ _ _ _ _ _ _ _ _ _ _ _ _ _ _ hl).mono ?_; rintro e w' ⟨rfl, rfl⟩)
      go_quiet (fail)
      go_wp2_with fail
      all_goals first
        | (go_ret; exact ⟨rfl, below_drewN (Below.refl _ _) _⟩)
        | (exfalso; have := HB.out; omega)
    · clear HBAD
      go_enter Try.func3, Try.ntmps3
      go_wp2_with (go_at_call 7; refine (zzbytes_yes _ _ _ _ _ _ _ _ _ _ _ _ _ _ _ _ _ _ hl).mono ?_; rintro e w' ⟨rfl, rfl⟩)
      go_quiet (fail)
      go_wp2_with fail
      all_goals
        go_ret
        exact ⟨rfl, below_drewN (Below.refl _ _) _⟩
  · clear HBAD
    go_enter Try.func3, Try.ntmps3
    go_wp2_with (go_at_call 7; refine (zzbytes_yes _ _ _ _ _ _ _ _ _ _ _ _ _ _ _ _ _ _ hl).mono ?_; rintro e w' ⟨rfl, rfl⟩)
    go_quiet (fail)
    go_wp2_with fail
    all_goals
      go_ret
      exact ⟨rfl, below_drewN (Below.refl _ _) _⟩
end Go.Proofs.Qxb6605269a.SplitExit
