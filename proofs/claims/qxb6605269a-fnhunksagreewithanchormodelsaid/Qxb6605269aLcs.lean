import Derived.Test.Qxb6605269aRows
import Derived.Test.Qxb6605269aSplitRun
import Derived.WalkKit
import Derived.ProofKit
import Derived.OpenShut
import Derived.WalkSpells
import Derived.WalkLawsBesides
import Derived.Deep.OwnRows
import Derived.Deep.QuietTactic
import Derived.BigQuiet
namespace Go.Proofs.Qxb6605269a.Lcs
open Go.ChangeShapes Go.WideShapes Go.ChangeAt Go.RowKit
open Go.Proofs.Qxb6605269a.SplitMath (P P_zl P_zr P_succ P_le)

theorem info3 : (Try.prog.info? 3).map (fun i => (i.zero, i.size, i.bytes)) = some (some (.int .i64 0), 1, 8) := by kernel_rfl
theorem ret_int {k : IntKind} {a b : Int} (h : a = b) : Ending.returned (.int k a) = .returned (.int k b) := by rw [h]

theorem hide {p : Prop} (h : p) : Hid p := h

def eqs (A B : Nat → Int) (i j : Nat) : Bool := A i == B j

/-- cur behind the j-th column -/
def Upto (M : Nat → Nat → Bool) (i j : Nat) (f : Nat → Int) : Prop := ∀ q, q < j → f q = (P M i q : Int)
theorem upto_set {M : Nat → Nat → Bool} {i j : Nat} {f : Nat → Int} (h : Upto M i j f) (v : Int) (hv : v = (P M i j : Int)) :
    Upto M i (j + 1) (fun q => if q = j then v else f q) := by
  intro q hq
  by_cases e : q = j
  · simp [e, hv]
  · simp only [e, if_false]; exact h q (by omega)
theorem row_fun {f : Nat → Int} {j : Nat} {v : Int} : (fun q => if q = j then Value.int .i64 v else Value.int .i64 (f q)) = fun q => Value.int .i64 (if q = j then v else f q) := by
  funext q; split <;> rfl

theorem rowIs_drewN {w : World} {b : Nat} {t : TypeId} {n : Nat} {f : Nat → Value} (h : w.rowIs b t n f) (q : Nat) : (w.drewN q).rowIs b t n f := h.of_block rfl
theorem set_int {w : World} {b : Nat} {t : TypeId} {n : Nat} {f : Nat → Int} (h : w.rowIs b t n fun j => .int .i64 (f j)) (i : Nat) (v : Int) :
    (w.setCell ⟨b, i, none⟩ (.int .i64 v)).rowIs b t n fun j => .int .i64 (if j = i then v else f j) := by
  have e := h.set i (.int .i64 v)
  rw [row_fun] at e; exact e
theorem p_match {A B : Nat → Int} {k q : Nat} (hs : P (eqs A B) (k + 1) (q + 1) = if eqs A B k q then P (eqs A B) k q + 1 else max (P (eqs A B) k (q + 1)) (P (eqs A B) (k + 1) q))
    (hm : (A k == B q) = true) : (P (eqs A B) k q : Int) + 1 = (P (eqs A B) (k + 1) (q + 1) : Int) := by
  rw [hs, if_pos (show eqs A B k q = true from hm)]; omega
theorem p_prev {A B : Nat → Int} {k q : Nat} (hs : P (eqs A B) (k + 1) (q + 1) = if eqs A B k q then P (eqs A B) k q + 1 else max (P (eqs A B) k (q + 1)) (P (eqs A B) (k + 1) q))
    (hm : (A k == B q) = false) (h : P (eqs A B) (k + 1) q ≤ P (eqs A B) k (q + 1)) : (P (eqs A B) k (q + 1) : Int) = (P (eqs A B) (k + 1) (q + 1) : Int) := by
  rw [hs, if_neg (by unfold eqs; rw [hm]; decide)]; omega
theorem p_cur {A B : Nat → Int} {k q : Nat} (hs : P (eqs A B) (k + 1) (q + 1) = if eqs A B k q then P (eqs A B) k q + 1 else max (P (eqs A B) k (q + 1)) (P (eqs A B) (k + 1) q))
    (hm : (A k == B q) = false) (h : P (eqs A B) k (q + 1) < P (eqs A B) (k + 1) q) : (P (eqs A B) (k + 1) q : Int) = (P (eqs A B) (k + 1) (q + 1) : Int) := by
  rw [hs, if_neg (by unfold eqs; rw [hm]; decide)]; omega

set_option maxHeartbeats 1000000 in
theorem lcs_any (aa ab : Option Addr) (la lb ca cb : Nat) (A B : Nat → Int) (w : World) (hla : la ≤ 4096) (hlb : lb ≤ 4096)
    (ha : 0 < la → ∃ b o, aa = some ⟨b, o, none⟩ ∧ ∀ i, i < la → w.cell? ⟨b, o + i, none⟩ = some (.int .i64 (A i)))
    (hb : 0 < lb → ∃ b o, ab = some ⟨b, o, none⟩ ∧ ∀ i, i < lb → w.cell? ⟨b, o + i, none⟩ = some (.int .i64 (B i))) :
    Calls Try.prog 10 #[.slice aa la ca, .slice ab lb cb] w fun e w' => e = .returned (.int .i64 (P (eqs A B) la lb)) ∧ Below w.heap.size w w' := by
  have hmk := fun wx => run_make_row' (P := Try.prog) 22 3 (.int .i64 0) 8 Try.underlying22 info3 rfl .i64 .i64 (lb + 1) (by omega) (by omega) wx
  have ec : ((lb + 1 : Nat) : Int) = (lb : Int) + 1 := by omega
  rw [ec] at hmk
  have hb0 : Below w.heap.size w ((w.alloc (.cells (madeCells #[.int .i64 0] (lb + 1)) 3)).alloc (.cells (madeCells #[.int .i64 0] (lb + 1)) 3)) := ((Below.refl _ _).alloc (Nat.le_refl _) _).alloc (by simp) _
  have hr1 := ((World.rowIs_made w (.int .i64 0) (lb + 1) 3).alloc (.cells (madeCells #[.int .i64 0] (lb + 1)) 3))
  have hr2 := World.rowIs_made (w.alloc (.cells (madeCells #[.int .i64 0] (lb + 1)) 3)) (.int .i64 0) (lb + 1) 3
  have H1 := hide hb0
  have H2 := hide hr1
  have H3 := hide hr2
  clear hb0 hr1 hr2 ec
  go_enter Try.func10, Try.ntmps10
  go_wp2
  go_loopw [5, 6, 7] (fun pv cu i wr => ∃ (k p c : Nat) (f : Nat → Int), k ≤ la ∧ i = .int .i64 ((k : Int) + 1) ∧ pv = .slice (some ⟨p, 0, none⟩) (lb + 1) (lb + 1) ∧ cu = .slice (some ⟨c, 0, none⟩) (lb + 1) (lb + 1) ∧
      p ≠ c ∧ w.heap.size ≤ p ∧ w.heap.size ≤ c ∧ wr.rowIs p 3 (lb + 1) (fun j => .int .i64 (P (eqs A B) k j)) ∧ wr.rowIs c 3 (lb + 1) (fun j => .int .i64 (f j)) ∧ Below w.heap.size w wr) (fun _ _ i _ => la + 1 - (intOf i).toNat)
  case atStart =>
    refine ⟨0, w.heap.size, w.heap.size + 1, fun _ => 0, by omega, rfl, rfl, by simp, by omega, by omega, by omega, ?_, ?_, H1.out⟩
    · exact H2.out.congr fun i hi => by simp [P_zl]
    · have e := H3.out
      rw [World.size_alloc] at e
      exact e
  case round =>
    obtain ⟨k, p, c, f, hk, rfl, rfl, rfl, hpc, hp, hc, hrp, hrc, hbw⟩ := hrel
    clear H1 H2 H3
    by_cases hlt : k < la
    · obtain ⟨ba, oa, rfl, hac⟩ := ha (by omega)
      have hak := hac k hlt
      have c0 := hrc.cell (i := 0) (by omega)
      have z0 := hrc.frozen 0
      have hl1 : (0 : Int) < (lb : Int) + 1 := by omega
      have HP := hide hrp
      have HC := hide hrc
      clear hrp hrc
      have hd20 : decide ((k : Int) + 1 ≤ (la : Int)) = true := by simp; omega
      go_wp2
      go_loopw [8] (fun j wx => ∃ (q : Nat) (g : Nat → Int), q ≤ lb ∧ j = .int .i64 ((q : Int) + 1) ∧ wx.rowIs p 3 (lb + 1) (fun j => .int .i64 (P (eqs A B) k j)) ∧ wx.rowIs c 3 (lb + 1) (fun j => .int .i64 (g j)) ∧ Upto (eqs A B) (k + 1) (q + 1) g ∧ Below w.heap.size w wx) (fun j _ => lb + 1 - (intOf j).toNat)
      case atStart =>
        refine ⟨0, fun q => if q = 0 then 0 else f q, by omega, rfl, HP.out.setOther hpc _, ?_, ?_, hbw.setCell hc _⟩
        · have e := HC.out.set 0 (.int .i64 0)
          rw [row_fun] at e; exact e
        · intro q hq
          obtain rfl : q = 0 := by omega
          simp [P_zr]
      case round =>
        obtain ⟨q, g, hq, rfl, hrp, hrc, hup, hbx⟩ := hrel
        clear HP HC c0 z0
        by_cases hqt : q < lb
        · obtain ⟨bb, ob, rfl, hbc⟩ := hb (by omega)
          have hbq := hbc q hqt
          have e1 := hrp.cell (i := q) (by omega)
          have e2 := hrp.cell (i := q + 1) (by omega)
          have e3 := hrc.cell (i := q) (by omega)
          have e4 := hrc.cell (i := q + 1) (by omega)
          have e5 := hrc.frozen (q + 1)
          have ea : wr.cell? ⟨ba, oa + k, none⟩ = some (.int .i64 (A k)) := by rw [hbx.cell (World.block_lt_of_cell? w _ hak)]; exact hak
          have eb : wr.cell? ⟨bb, ob + q, none⟩ = some (.int .i64 (B q)) := by rw [hbx.cell (World.block_lt_of_cell? w _ hbq)]; exact hbq
          have hP1 := P_le (eqs A B) k q
          have hi1 : (k : Int) < (la : Int) := by omega
          have hi2 : (q : Int) < (lb : Int) := by omega
          have hi3 : (q : Int) + 1 < (lb : Int) + 1 := by omega
          rw [hup q (by omega)] at e3
          have HP := hide hrp
          have HC := hide hrc
          have HU := hide hup
          have HS := hide (P_succ (eqs A B) k q)
          clear hrp hrc hup hac hbc hak hbq
          cases hm : (A k == B q)
          · rcases Nat.lt_or_ge (P (eqs A B) k (q + 1)) (P (eqs A B) (k + 1) q) with hge | hge
            · have hgi : (P (eqs A B) k (q + 1) : Int) < (P (eqs A B) (k + 1) q : Int) := by omega
              go_wp2
              go_quiet (fail)
              go_wp2
              go_quiet (fail)
              go_wp2
              go_roundw
              case rel => exact ⟨q + 1, _, by omega, by go_num, rowIs_drewN (HP.out.setOther hpc _) _, rowIs_drewN (set_int HC.out (q + 1) _) _, upto_set HU.out _ (p_cur HS.out hm hge), below_drewN (hbx.setCell hc _) _⟩
              case measure => simp [intOf]; omega
            · go_wp2
              go_quiet (fail)
              go_wp2
              go_quiet (fail)
              go_wp2
              go_roundw
              case rel => exact ⟨q + 1, _, by omega, by go_num, rowIs_drewN (HP.out.setOther hpc _) _, rowIs_drewN (set_int HC.out (q + 1) _) _, upto_set HU.out _ (p_prev HS.out hm hge), below_drewN (hbx.setCell hc _) _⟩
              case measure => simp [intOf]; omega
          · go_wp2
            go_quiet (fail)
            go_wp2
            go_roundw
            case rel => exact ⟨q + 1, _, by omega, by go_num, rowIs_drewN (HP.out.setOther hpc _) _, rowIs_drewN (set_int HC.out (q + 1) _) _, upto_set HU.out _ (p_match HS.out hm), below_drewN (hbx.setCell hc _) _⟩
            case measure => simp [intOf]; omega
        · have HP := hide hrp
          have HC := hide (hrc.congr (g := fun j => .int .i64 (P (eqs A B) (k + 1) j)) fun j hj => by rw [hup j (by omega)])
          clear hrp hrc hup hak hac
          go_wp2
          go_roundw
          case rel => exact ⟨k + 1, c, p, _, by omega, by go_num, rfl, rfl, fun e => hpc e.symm, hc, hp, HC.out, HP.out, hbx⟩
          case measure => simp [intOf]; omega
    · have hk2 : k = la := by omega
      have cl := hrp.cell (i := lb) (by omega)
      clear hrp hrc
      go_wp2
      go_ret
      subst hk2
      exact ⟨rfl, hbw⟩
end Go.Proofs.Qxb6605269a.Lcs
