/- The proof of 'Rows.FnUnhexDigitTableSaid', off the given shell. -/
import Derived.Test.Qxb6605283aRows
import Derived.WalkKit
import Derived.ProofKit
import Derived.OpenShut
import Derived.ShutString
import Derived.Test.Qxb6605283aUnhex
namespace Go.Proofs.Qxb6605283a.fnUnhexDigitTable
open Go.ChangeShapes Go.WideShapes Go.ChangeAt Go.RowKit
open Go.ChangeMaps (open_string shut_string)
open Go.Proofs.Qxb6605283a.Unhex
set_option linter.unusedVariables false      -- a walk need not use every 'w<i>' (that an integer argument fits its kind)

theorem own : ownKnob Try.prog.godebug = none := by kernel_rfl

def lows : ByteArray := { data := #[48, 49, 50, 51, 52, 53, 54, 55, 56, 57, 97, 98, 99, 100, 101, 102] }
def ups : ByteArray := { data := #[48, 49, 50, 51, 52, 53, 54, 55, 56, 57, 65, 66, 67, 68, 69, 70] }
def wt (c : Int) : Nat → Int
  | 0 => -1
  | k + 1 => if ((lows.data.getD k 0).toNat : Int) = c ∨ ((ups.data.getD k 0).toNat : Int) = c then k else wt c k
theorem fin256 : ∀ c : Fin 256, (uh (c.val : Int) == wt (c.val : Int) 16) = true := by decide +kernel
theorem fin (c : Int) (h0 : 0 ≤ c) (h1 : c ≤ 255) : (uh c == wt c 16) = true := by
  have := fin256 ⟨c.toNat, by omega⟩
  simpa [show ((c.toNat : Nat) : Int) = c from by omega] using this
theorem low_at (k : Nat) (h : k < lows.size) : lows.data.getD k 0 = lows[k] := by
  have h' : k < lows.data.size := h
  rw [Array.getD, dif_pos h']; rfl
theorem up_at (k : Nat) (h : k < ups.size) : ups.data.getD k 0 = ups[k] := by
  have h' : k < ups.data.size := h
  rw [Array.getD, dif_pos h']; rfl
theorem stepY (c : Int) (k : Nat) (hk : k < 16) (h : ((lows[k]'hk).toNat : Int) = c ∨ ((ups[k]'hk).toNat : Int) = c) : Value.int .i64 (k : Int) = .int .i64 (wt c (k + 1)) := by
  rw [← low_at k hk, ← up_at k hk] at h
  unfold wt; rw [if_pos h]
theorem stepY2 (c : Int) (k : Nat) (hk : k < 16) (h : (((lows[k]'hk).toNat : Int) == c) = true ∨ (((ups[k]'hk).toNat : Int) == c) = true) : Value.int .i64 (k : Int) = .int .i64 (wt c (k + 1)) :=
  stepY c k hk (by simpa using h)
theorem stepN (c : Int) (k : Nat) (hk : k < 16) (h : (((lows[k]'hk).toNat : Int) == c) = false ∧ (((ups[k]'hk).toNat : Int) == c) = false) : Value.int .i64 (wt c k) = .int .i64 (wt c (k + 1)) := by
  rw [← low_at k hk, ← up_at k hk] at h
  conv => rhs; unfold wt
  rw [if_neg (by simpa using h)]

/-! ### STEP 1: THE WALK -/
set_option maxHeartbeats 400000 in
theorem walk (a0 : Int) (w0 : (Lit.int .u8 a0).wf = true) (w : World) :
    Calls Try.prog 3 #[.int .u8 a0] w fun e w' => e = .returned (.bool true) ∧ Grown w w' := by
  have hb := bounds_u8 w0
  have hfin := fin a0 hb.1 hb.2
  go_enter Try.func3, Try.ntmps3
  go_wp2
  go_loop [3, 4] (fun t i => ∃ k : Nat, k ≤ 16 ∧ i = .int .i64 k ∧ t = .int .i64 (wt a0 k)) (fun _ i => 16 - (intOf i).toNat)
  case atStart => exact ⟨0, by omega, rfl, rfl⟩
  case round =>
    obtain ⟨k, hk, rfl, rfl⟩ := hrel
    by_cases hlt : k < 16
    · go_wp2
      all_goals
        go_round
        case rel =>
          refine ⟨k + 1, by omega, by go_num, ?_⟩
          first | exact stepY a0 k hlt (Or.inl ‹_›) | exact stepY2 a0 k hlt ‹_› | exact stepN a0 k hlt ‹_›
        case measure => simp [intOf]; omega
    · have hk16 : k = 16 := by omega
      subst hk16
      go_wp2_with (go_at_call 7; refine (zzunhex_any _ hb.1 hb.2 _).mono ?_; rintro e w' ⟨rfl, rfl⟩)
      go_ret
      exact ⟨by simp, Grown.refl _⟩

/-! ### THE ROW's STEP: WRITTEN OUT: LEAVE IT -/
set_option maxRecDepth 100000 in
theorem lifted (os : Os) (started : os.Started) (H : Type) (enc : TypeId × Value → H) :
    ReturnsInHanded {} Try.checked os 3 .any (Rows.fnUnhexDigitTableSpec.pre6 enc Try.prog Try.f3 Rows.fnUnhexDigitTableRow.domain false) (Rows.fnUnhexDigitTableSpec.post enc Try.prog Try.f3 false true false false) := by
  refine returnsInHanded_of_change (C := Try.checked) own started (by kernel_rfl) Try.func3
    (ChangeSpec.witness6 (enc := enc) (C := Try.checked) false ⟨#[], #[.int .u8 0], []⟩ 8 (by kernel_rfl) (by kernel_rfl) (by kernel_rfl) (by kernel_rfl)) ?_
  intro W base args ds gs before hval0 hW hcnd _
  have hval : ∀ (j : Nat) t v, Try.f3.params[j]? = some t → args[j]? = some v → Value.okWide Try.prog W .any base t v := hval0
  have hW' := hW
  obtain ⟨p, q, hA0, hV, rfl, hfz, hnd⟩ := hW
  have hA : DataW.TrodAll enc Try.prog W 0 (fun _ => true) true Try.f3.params.toList args.toList ds p := hA0
  rw [Try.params3] at hA hval
  obtain ⟨v0, vs0, d0, ds0, p0, q0, hargs, rfl, rfl, h0, r0⟩ := trodAll_cons hA
  obtain ⟨rfl, rfl, rfl⟩ := trodAll_nil r0
  obtain rfl : args = #[v0] := by cases args; simp_all
  obtain ⟨rfl, rfl⟩ := trodVars_none hV
  obtain ⟨a0, rfl, rfl, rfl, w0⟩ := open_int Try.underlying5 (hval 0 5 v0 rfl rfl) h0
  clear hA0 hval0
  simp only [List.append_nil] at hW'
  refine (walk a0 w0 W).mono fun e W' ⟨he, hg⟩ => ?_
  subst he
  exact ⟨_, rfl, post_of_same (pa := []) (pv := []) hW' (fun _ _ _ => (trodAll_cons_mk (shut_bool Try.underlying4 _) trodAll_mk0)) (fun sp _ => (trodAll_cons_mk (shut_int Try.underlying5 w0) trodAll_mk0)) (fun _ _ => rfl) rfl
    (hg.frame _) hg.2.1 (ok_one (by kernel_rfl) rfl (okWide_bool_mk Try.underlying4 _))⟩

theorem over : Rows.fnUnhexDigitTableRow.holds Try.pinned (OpenSpec.ofChange Rows.fnUnhexDigitTableSpec) :=
  OpenClaim.holds_of_wide 3 Try.f3 rfl rfl rfl rfl rfl rfl rfl ⟨rfl, rfl, rfl, rfl, rfl⟩ rfl rfl rfl rfl rfl (by kernel_rfl) Try.func3 (by kernel_rfl)
    (of_decide_eq_true (by kernel_rfl)) (by unfold Func.isWrapper; first | (rw [if_pos (by decide +kernel)]; kernel_rfl) | (rw [if_neg (by decide +kernel)]; exact ⟨rfl, rfl⟩))
    (fun os started H enc _ => lifted os started H enc)

/-- ████ THE STATEMENT ████ -/
theorem proved : Rows.FnUnhexDigitTableSaid :=
  over
#print axioms proved
end Go.Proofs.Qxb6605283a.fnUnhexDigitTable
