/- The proof of 'Rows.FnUnhexReadsBackHexSaid', off the given shell. -/
import Derived.Test.Qxb6605283aRows
import Derived.WalkKit
import Derived.ProofKit
import Derived.OpenShut
import Derived.ShutString
import Derived.Test.Qxb6605283aUnhex
import Derived.Laws.BitsAllLaws
namespace Go.Proofs.Qxb6605283a.fnUnhexReadsBackHex
open Go.ChangeShapes Go.WideShapes Go.ChangeAt Go.RowKit
open Go.ChangeMaps (open_string shut_string)
open Go.Proofs.Qxb6605283a.Unhex
set_option linter.unusedVariables false      -- a walk need not use every 'w<i>' (that an integer argument fits its kind)

theorem own : ownKnob Try.prog.godebug = none := by kernel_rfl

def lows : ByteArray := { data := #[48, 49, 50, 51, 52, 53, 54, 55, 56, 57, 97, 98, 99, 100, 101, 102] }
def ups : ByteArray := { data := #[48, 49, 50, 51, 52, 53, 54, 55, 56, 57, 65, 66, 67, 68, 69, 70] }
/-- the k-th hexadecimal digit -/
def D (a : Int) (k : Nat) : Int := a / 2 ^ (60 - 4 * k) % 16
/-- the first k digits, read -/
def V (a : Int) (k : Nat) : Int := a / 2 ^ (64 - 4 * k)
def dg (a b : Int) (k : Nat) : Int := if (bits BinOp.and IntKind.u16 (b / 2 ^ k) 1 == 1) = true then ((ups.data.getD (D a k).toNat 0).toNat : Int) else ((lows.data.getD (D a k).toNat 0).toNat : Int)
def arr (a b : Int) (k : Nat) : Array Value := ((List.range 16).map fun i => Value.int .u8 (if i < k then dg a b i else 0)).toArray

theorem D_range (a : Int) (k : Nat) : 0 ≤ D a k ∧ D a k < 16 := by unfold D; omega
theorem pow_pos (n : Nat) : (1 : Int) ≤ 2 ^ n := by
  have : (0 : Int) < 2 ^ n := Int.pow_pos (by omega)
  omega
theorem div_range (a : Int) (n : Nat) (h0 : 0 ≤ a) (h1 : a ≤ 18446744073709551615) : 0 ≤ a / 2 ^ n ∧ a / 2 ^ n < 18446744073709551616 := by
  have hp := pow_pos n
  have h2 : a / 2 ^ n ≤ a := Int.ediv_le_self _ h0
  have h3 : 0 ≤ a / 2 ^ n := Int.ediv_nonneg h0 (by omega)
  omega
theorem and15 (a : Int) (k : Nat) (h0 : 0 ≤ a) (h1 : a ≤ 18446744073709551615) : bits BinOp.and IntKind.u64 (a / 2 ^ (60 - 4 * k)) 15 = D a k := by
  have hr := div_range a (60 - 4 * k) h0 h1
  unfold D
  generalize a / 2 ^ (60 - 4 * k) = x at *
  rw [u64_and x 15 hr.1 hr.2 (by omega) (by omega)]
  show ((x.toNat &&& 15 : Nat) : Int) = _
  rw [nat_mask4]; omega
theorem V_zero (a : Int) (h0 : 0 ≤ a) (h1 : a ≤ 18446744073709551615) : V a 0 = 0 := by
  unfold V
  exact Int.ediv_eq_zero_of_lt h0 (by simp; omega)
theorem V_last (a : Int) (j : Nat) (hj : j = 16) : V a j = a := by subst hj; unfold V; simp
theorem V_range (a : Int) (k : Nat) (hk : k < 16) (h0 : 0 ≤ a) (h1 : a ≤ 18446744073709551615) : 0 ≤ V a k ∧ V a k < 1152921504606846976 := by
  unfold V
  refine ⟨Int.ediv_nonneg h0 (by have := pow_pos (64 - 4 * k); omega), ?_⟩
  have e : (2 : Int) ^ (64 - 4 * k) = 16 * 2 ^ (60 - 4 * k) := by
    rw [show 64 - 4 * k = 4 + (60 - 4 * k) from by omega, Int.pow_add]; rfl
  rw [e, ← Int.ediv_ediv_of_nonneg (by omega)]
  have hp := pow_pos (60 - 4 * k)
  have h2 : a / 16 / 2 ^ (60 - 4 * k) ≤ a / 16 := Int.ediv_le_self _ (by omega)
  omega
theorem V_succ (a : Int) (k : Nat) (hk : k < 16) : V a (k + 1) = V a k * 16 + D a k := by
  unfold V D
  have e : (2 : Int) ^ (64 - 4 * k) = 2 ^ (60 - 4 * k) * 16 := by
    rw [show 64 - 4 * k = (60 - 4 * k) + 4 from by omega, Int.pow_add]; rfl
  have hp := pow_pos (60 - 4 * k)
  rw [show 64 - 4 * (k + 1) = 60 - 4 * k from by omega, e, ← Int.ediv_ediv_of_nonneg (by omega)]
  omega
theorem or_join (v d : Int) (hv : 0 ≤ v) (hv' : v < 1152921504606846976) (hd : 0 ≤ d) (hd' : d < 16) : bits BinOp.or IntKind.u64 (v * 16) d = v * 16 + d := by
  rw [u64_or (v * 16) d (by omega) (by omega) hd (by omega), nat_join 4 _ _ (by omega) (by omega)]
  omega
theorem uh_tab : ∀ d : Fin 16, uh ((ups.data.getD d.val 0).toNat : Int) = d.val ∧ uh ((lows.data.getD d.val 0).toNat : Int) = d.val := by decide +kernel
theorem uh_dg (a b : Int) (k : Nat) : uh (dg a b k) = D a k := by
  have hr := D_range a k
  have := uh_tab ⟨(D a k).toNat, by omega⟩
  have e : (((D a k).toNat : Nat) : Int) = D a k := by omega
  unfold dg
  split
  · exact this.1.trans e
  · exact this.2.trans e
theorem dg_range (a b : Int) (k : Nat) : 0 ≤ dg a b k ∧ dg a b k ≤ 255 := by
  unfold dg
  split
  · have := (ups.data.getD (D a k).toNat 0).toNat_lt; omega
  · have := (lows.data.getD (D a k).toNat 0).toNat_lt; omega
theorem arr_at (a b : Int) (k i : Nat) (hi : i < 16) : (arr a b k)[i]? = some (.int .u8 (if i < k then dg a b i else 0)) := by
  simp [arr, hi]
theorem arr_here (a b : Int) (k : Nat) (hk : k < 16) : (arr a b k)[k]? = some (.int .u8 0) := by
  rw [arr_at a b k k hk, if_neg (by omega)]
theorem arr_done (a b : Int) (k j : Nat) (h1 : k ≤ 16) (h2 : 16 ≤ k) (hj : j < 16) : (arr a b k)[j]? = some (.int .u8 (dg a b j)) := by
  rw [arr_at a b k j hj, if_pos (by omega)]
theorem arr_set (a b : Int) (k : Nat) (v : Int) (hk : k < 16) (hv : v = dg a b k) : (arr a b k).setIfInBounds k (.int .u8 v) = arr a b (k + 1) := by
  apply Array.ext
  · simp [arr]
  · intro i h1 h2
    have hi : i < 16 := by simpa [arr] using h2
    have hi' : i < (arr a b k).size := by simpa [arr] using hi
    rw [Array.getElem_setIfInBounds hi']
    by_cases e : k = i
    · subst e; simp [arr, hv]
    · by_cases e2 : i < k
      · simp [arr, e, e2, show i < k + 1 from by omega]
      · simp [arr, e, e2, show ¬ i < k + 1 from by omega]
theorem up_at (i : Nat) (h : i < ups.size) : ups.data.getD i 0 = ups[i] := by
  have h' : i < ups.data.size := h
  rw [Array.getD, dif_pos h']; rfl
theorem low_at (i : Nat) (h : i < lows.size) : lows.data.getD i 0 = lows[i] := by
  have h' : i < lows.data.size := h
  rw [Array.getD, dif_pos h']; rfl
theorem dg_up (a b : Int) (k : Nat) (h : (bits BinOp.and IntKind.u16 (b / 2 ^ k) 1 == 1) = true) (hd : (D a k).toNat < ups.size) : ((ups[(D a k).toNat]).toNat : Int) = dg a b k := by
  unfold dg; rw [if_pos h, up_at _ hd]
theorem dg_low (a b : Int) (k : Nat) (h : (bits BinOp.and IntKind.u16 (b / 2 ^ k) 1 == 1) = false) (hd : (D a k).toNat < lows.size) : ((lows[(D a k).toNat]).toNat : Int) = dg a b k := by
  unfold dg; rw [if_neg (by simp [h]), low_at _ hd]
theorem zzunhex_at (c d : Int) (h0 : 0 ≤ c) (h1 : c ≤ 255) (h : uh c = d) (w : World) :
    Calls Try.prog 7 #[.int .u8 c] w fun e w' => e = .returned (.int .i64 d) ∧ w' = w := h ▸ zzunhex_any c h0 h1 w

/-! ### STEP 1: THE WALK: the Go text returns true. 'Grown w w'': the world has at most new blocks (Derived/RowKit3.lean). Part the cases AHEAD of 'go_enter' where a test parts the walk; take each callee by a contract of your own. -/
theorem walk (a0 : Int) (a1 : Int) (w0 : (Lit.int .u64 a0).wf = true) (w1 : (Lit.int .u16 a1).wf = true) (w : World) :
    Calls Try.prog 4 #[.int .u64 a0, .int .u16 a1] w fun e w' => e = .returned (.bool true) ∧ Grown w w' := by
  have hb := bounds_u64 w0
  have hb1 := bounds_u16 w1
  go_enter Try.func4, Try.ntmps4
  go_wp2
  go_loopw [6, 7] (fun i d wr => ∃ k : Nat, k ≤ 16 ∧ i = .int .i64 k ∧ wr = w.alloc (.cells (arr a0 a1 k) 26)) (fun i _ _ => 16 - (intOf i).toNat)
  case atStart => exact ⟨0, by omega, rfl, rfl⟩
  case round =>
    obtain ⟨k, hk, rfl, rfl⟩ := hrel
    by_cases hlt : k < 16
    · have hD := and15 a0 k hb.1 hb.2
      have hr := D_range a0 k
      have hA := arr_here a0 a1 k hlt
      by_cases hu : (bits BinOp.and IntKind.u16 (a1 / 2 ^ k) 1 == 1) = true
      · go_wp2
        go_roundw
        case rel => exact ⟨k + 1, by omega, by go_num, by rw [arr_set a0 a1 k _ hlt]; exact dg_up a0 a1 k hu (show _ < 16 from by omega)⟩
        case measure => simp [intOf]; omega
      · have hu' : (bits BinOp.and IntKind.u16 (a1 / 2 ^ k) 1 == 1) = false := by simpa using hu
        clear hu
        go_wp2
        go_roundw
        case rel => exact ⟨k + 1, by omega, by go_num, by rw [arr_set a0 a1 k _ hlt]; exact dg_low a0 a1 k hu' (show _ < 16 from by omega)⟩
        case measure => simp [intOf]; omega
    · have hk1 : 16 ≤ k := by omega
      clear hlt
      go_wp2
      go_loop [8, 9] (fun v i => ∃ k : Nat, k ≤ 16 ∧ i = .int .i64 k ∧ v = .int .u64 (V a0 k)) (fun _ i => 16 - (intOf i).toNat)
      case atStart => exact ⟨0, by omega, rfl, by rw [V_zero a0 hb.1 hb.2]⟩
      case round =>
        obtain ⟨j, hj, rfl, rfl⟩ := hrel
        by_cases hlt : j < 16
        · have hA := arr_done a0 a1 k j hk hk1 hlt
          have hd := D_range a0 j
          have hv := V_range a0 j hlt hb.1 hb.2
          have hg := dg_range a0 a1 j
          have hO := or_join (V a0 j) (D a0 j) hv.1 hv.2 hd.1 hd.2
          go_wp2_with (go_at_call 7; refine (zzunhex_at _ _ hg.1 hg.2 (uh_dg a0 a1 j) _).mono ?_; rintro e w' ⟨rfl, rfl⟩)
          go_round
          case rel => exact ⟨j + 1, by omega, by go_num, by rw [V_succ a0 j hlt]⟩
          case measure => simp [intOf]; omega
        · have hl := V_last a0 j (by omega)
          go_wp2
          go_ret
          exact ⟨by simp, by repeat (first | exact Grown.refl _ | apply Grown.drew | apply Grown.alloc)⟩

/-! ### THE ROW's STEP: WRITTEN OUT: LEAVE IT -/
set_option maxRecDepth 100000 in
theorem lifted (os : Os) (started : os.Started) (H : Type) (enc : TypeId × Value → H) :
    ReturnsInHanded {} Try.checked os 4 .any (Rows.fnUnhexReadsBackHexSpec.pre6 enc Try.prog Try.f4 Rows.fnUnhexReadsBackHexRow.domain false) (Rows.fnUnhexReadsBackHexSpec.post enc Try.prog Try.f4 false true false false) := by
  refine returnsInHanded_of_change (C := Try.checked) own started (by kernel_rfl) Try.func4
    (ChangeSpec.witness6 (enc := enc) (C := Try.checked) false ⟨#[], #[.int .u64 0, .int .u16 0], []⟩ 8 (by kernel_rfl) (by kernel_rfl) (by kernel_rfl) (by kernel_rfl)) ?_
  intro W base args ds gs before hval0 hW hcnd _
  have hval : ∀ (j : Nat) t v, Try.f4.params[j]? = some t → args[j]? = some v → Value.okWide Try.prog W .any base t v := hval0
  have hW' := hW
  obtain ⟨p, q, hA0, hV, rfl, hfz, hnd⟩ := hW
  have hA : DataW.TrodAll enc Try.prog W 0 (fun _ => true) true Try.f4.params.toList args.toList ds p := hA0
  rw [Try.params4] at hA hval
  obtain ⟨v0, vs0, d0, ds0, p0, q0, hargs, rfl, rfl, h0, r0⟩ := trodAll_cons hA
  obtain ⟨v1, vs1, d1, ds1, p1, q1, rfl, rfl, rfl, h1, r1⟩ := trodAll_cons r0
  obtain ⟨rfl, rfl, rfl⟩ := trodAll_nil r1
  obtain rfl : args = #[v0, v1] := by cases args; simp_all
  obtain ⟨rfl, rfl⟩ := trodVars_none hV
  obtain ⟨a0, rfl, rfl, rfl, w0⟩ := open_int Try.underlying24 (hval 0 24 v0 rfl rfl) h0
  obtain ⟨a1, rfl, rfl, rfl, w1⟩ := open_int Try.underlying25 (hval 1 25 v1 rfl rfl) h1
  clear hA0 hval0
  simp only [List.append_nil] at hW'
  refine (walk a0 a1 w0 w1 W).mono fun e W' ⟨he, hg⟩ => ?_
  subst he
  exact ⟨_, rfl, post_of_same (pa := []) (pv := []) hW' (fun _ _ _ => (trodAll_cons_mk (shut_bool Try.underlying4 _) trodAll_mk0)) (fun sp _ => (trodAll_cons_mk (shut_int Try.underlying24 w0) (trodAll_cons_mk (shut_int Try.underlying25 w1) trodAll_mk0))) (fun _ _ => rfl) rfl
    (hg.frame _) hg.2.1 (ok_one (by kernel_rfl) rfl (okWide_bool_mk Try.underlying4 _))⟩

theorem over : Rows.fnUnhexReadsBackHexRow.holds Try.pinned (OpenSpec.ofChange Rows.fnUnhexReadsBackHexSpec) :=
  OpenClaim.holds_of_wide 4 Try.f4 rfl rfl rfl rfl rfl rfl rfl ⟨rfl, rfl, rfl, rfl, rfl⟩ rfl rfl rfl rfl rfl (by kernel_rfl) Try.func4 (by kernel_rfl)
    (of_decide_eq_true (by kernel_rfl)) (by unfold Func.isWrapper; first | (rw [if_pos (by decide +kernel)]; kernel_rfl) | (rw [if_neg (by decide +kernel)]; exact ⟨rfl, rfl⟩))
    (fun os started H enc _ => lifted os started H enc)

/-- ████ THE STATEMENT ████ -/
theorem proved : Rows.FnUnhexReadsBackHexSaid :=
  over
#print axioms proved
end Go.Proofs.Qxb6605283a.fnUnhexReadsBackHex
