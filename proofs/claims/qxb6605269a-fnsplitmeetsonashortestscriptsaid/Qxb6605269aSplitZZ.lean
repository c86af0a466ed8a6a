import Derived.Test.Qxb6605269aSplitTurn
namespace Go.Proofs.Qxb6605269a.SplitWalk
open Go.ChangeShapes Go.WideShapes Go.ChangeAt Go.RowKit
open Go.Proofs.Qxb6605269a.SplitMath
open Go.Proofs.Qxb6605269a.SplitInv
open Go.Proofs.Qxb6605269a.Lcs (hide rowIs_drewN set_int)

/-- the struct's cells -/
def cc (a b f g : Value) (i : Nat) : Value := if i = 0 then a else if i = 1 then b else if i = 5 then f else if i = 6 then g else .slice none 0 0

def PostZ (P : Pars) (w : World) (bf bg : Nat) (e : Ending) (w' : World) : Prop :=
  ∃ x y ok left, e = .returned (.tuple #[.int .i64 x, .int .i64 y, .bool ok, .int .i64 left]) ∧ P.whole = some (x, y, ok, left) ∧ ∀ B, B ≤ bf → B ≤ bg → B ≤ w.heap.size → Below B w w'

theorem zz_inv (w : World) (a b f g : Value) (S : Int) (bf bg lf lg : Nat) (F G : Nat → Int) (hF : w.rowIs bf 3 lf (fun i => .int .i64 (F i))) (hG : w.rowIs bg 3 lg (fun i => .int .i64 (G i))) :
    Inv (w.alloc (.cells #[a, b, .slice none 0 0, .slice none 0 0, .int .i64 S, f, g] 49)) w.heap.size bf bg lf lg (cc a b f g) (w.alloc (.cells #[a, b, .slice none 0 0, .slice none 0 0, .int .i64 S, f, g] 49)) F G S := by
  refine ⟨hF.alloc _, hG.alloc _, ?_, rfl, rfl, rfl, rfl, fun _ _ _ _ => rfl⟩
  refine World.rowIs_alloc w #[a, b, .slice none 0 0, .slice none 0 0, .int .i64 S, f, g] 49 _ fun i hi => ?_
  have hi' : i < 7 := hi
  match i, hi' with
  | 0, _ => rfl
  | 1, _ => rfl
  | 2, _ => rfl
  | 3, _ => rfl
  | 4, _ => rfl
  | 5, _ => rfl
  | 6, _ => rfl

theorem zz_below {w w' : World} {o : Obj} {bf bg lf lg : Nat} {C : Nat → Value} {F G : Nat → Int} {s : Int} (hI : Inv (w.alloc o) w.heap.size bf bg lf lg C w' F G s) (q : Nat) :
    ∀ B, B ≤ bf → B ≤ bg → B ≤ w.heap.size → Below B w (w'.drewN q) := by
  intro B h1 h2 h3
  have h0 : Below B w (w.alloc o) := (Below.refl _ _).alloc h3 _
  have h4 : Below B (w.alloc o) w' := ⟨hI.os, hI.tape, hI.output, by rw [hI.size]; exact Nat.le_refl _, fun k hk => hI.blk k (by omega) (by omega) (by omega)⟩
  exact below_drewN (h0.trans h4) q

set_option maxHeartbeats 1000000 in
theorem zzsplit (P : Pars) (aa ab : Option Addr) (la lb ca cb bf bg lf lg : Nat) (p pn q qm : Int) (w : World)
    (hcall : Calls Try.prog 25 #[.pointer (some ⟨w.heap.size, 0, none⟩), .int .i64 p, .int .i64 pn, .int .i64 q, .int .i64 qm] (w.alloc (.cells #[.slice aa la ca, .slice ab lb cb, .slice none 0 0, .slice none 0 0, .int .i64 P.S, .slice (some ⟨bf, 0, none⟩) lf lf, .slice (some ⟨bg, 0, none⟩) lg lg] 49)) fun e w' =>
      PostS P (w.alloc (.cells #[.slice aa la ca, .slice ab lb cb, .slice none 0 0, .slice none 0 0, .int .i64 P.S, .slice (some ⟨bf, 0, none⟩) lf lf, .slice (some ⟨bg, 0, none⟩) lg lg] 49)) w.heap.size bf bg lf lg (cc (.slice aa la ca) (.slice ab lb cb) (.slice (some ⟨bf, 0, none⟩) lf lf) (.slice (some ⟨bg, 0, none⟩) lg lg)) e w') :
    Calls Try.prog 9 #[.slice aa la ca, .slice ab lb cb, .int .i64 P.S, .slice (some ⟨bf, 0, none⟩) lf lf, .slice (some ⟨bg, 0, none⟩) lg lg, .int .i64 p, .int .i64 pn, .int .i64 q, .int .i64 qm] w fun e w' => PostZ P w bf bg e w' := by
  have HC := hide hcall
  clear hcall
  go_enter Try.func9, Try.ntmps9
  go_wp2_with fail
  refine HC.out.mono ?_
  rintro e w' ⟨x, y, ok, left, F', G', rfl, hw, hI⟩
  have hst := hI.steps
  have HW := hide hw
  have HI := hide hI
  clear hw hI HC
  go_wp2
  go_quiet (fail)
  go_wp2
  exact bodyPost_ret (v := .tuple #[.int .i64 x, .int .i64 y, .bool ok, .int .i64 left]) (by simp [results, Try.results9, go_sem]) rfl ⟨x, y, ok, left, rfl, HW.out, zz_below HI.out _⟩
end Go.Proofs.Qxb6605269a.SplitWalk
