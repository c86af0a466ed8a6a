import Derived.Test.Qxb6605283aRows
import Derived.WalkKit
import Derived.ProofKit
import Derived.OpenShut
namespace Go.Proofs.Qxb6605283a.Unhex
open Go.ChangeShapes Go.WideShapes Go.ChangeAt Go.RowKit

/-- what unhex answers -/
def uh (c : Int) : Int := if 48 ≤ c ∧ c ≤ 57 then c - 48 else if 97 ≤ c ∧ c ≤ 102 then c - 87 else if 65 ≤ c ∧ c ≤ 70 then c - 55 else -1

theorem ret_int {k : IntKind} {a b : Int} (h : a = b) : Ending.returned (.int k a) = .returned (.int k b) := by rw [h]

set_option maxHeartbeats 400000 in
theorem unhex_any (c : Int) (h0 : 0 ≤ c) (h1 : c ≤ 255) (w : World) :
    Calls Try.prog 16 #[.int .u8 c] w fun e w' => e = .returned (.int .i64 (uh c)) ∧ w' = w := by
  go_enter Try.func16, Try.ntmps16
  go_wp2
  all_goals (go_ret; exact ⟨ret_int (by unfold uh; omega), rfl⟩)

set_option maxHeartbeats 400000 in
theorem zzunhex_any (c : Int) (h0 : 0 ≤ c) (h1 : c ≤ 255) (w : World) :
    Calls Try.prog 7 #[.int .u8 c] w fun e w' => e = .returned (.int .i64 (uh c)) ∧ w' = w := by
  go_enter Try.func7, Try.ntmps7
  go_wp2_with (go_at_call 16; refine (unhex_any _ h0 h1 _).mono ?_; rintro e w' ⟨rfl, rfl⟩)
  go_ret
  exact ⟨rfl, rfl⟩

end Go.Proofs.Qxb6605283a.Unhex
