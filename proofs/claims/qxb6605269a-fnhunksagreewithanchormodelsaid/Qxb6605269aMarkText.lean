import Derived.Test.Qxb6605269aMarkLaw
import Derived.Laws.BytesArg
import Derived.Laws.BitsAllLaws
namespace Go.Proofs.Qxb6605269a.MarkLaw
open Go.ChangeShapes Go.WideShapes Go.ChangeAt Go.RowKit
open Go.Proofs.Qxb6605269a.Lcs (hide rowIs_drewN)
open Go.Proofs.Qxb6605269a.Strs
open Go.Proofs.Qxb6605269a.Mark

theorem text_any (mk : Int) (w : World) (h0 : 0 ≤ mk) (h1 : mk ≤ 255) : Calls Try.prog 15 #[.int .u8 mk] w fun e w' => e = .returned (.string (Utf8.encode mk)) ∧ Below w.heap.size w w' := by
  rw [encode_eq mk h0 h1]
  by_cases h : mk < 128
  · have hcv : (convert 52 9 (.slice (some ⟨w.heap.size, 0, none⟩) 1 1)).run Try.prog (w.alloc (.cells #[.int .u8 mk] 5)) = .ok (.string (strOfNums [mk])) (w.alloc (.cells #[.int .u8 mk] 5)) := by
      refine run_convert_bytes_arg _ 52 5 Try.underlying52 Try.underlying5 w.heap.size 0 1 1 [mk] rfl (fun i hi => ?_) 9 Try.underlying9
      obtain rfl : i = 0 := by omega
      rw [World.cell?_alloc_at (w := w) _ _ _ _ rfl]; rfl
    go_enter Try.func15, Try.ntmps15
    go_wp2
    go_ret
    exact ⟨by simp [mtext, strOfNums, show mk.toNat < 128 from by omega], (Below.refl _ _).alloc (Nat.le_refl _) _⟩
  · have h' : 128 ≤ mk := by omega
    clear h
    have hcv : (convert 52 9 (.slice (some ⟨w.heap.size, 0, none⟩) 2 2)).run Try.prog (w.alloc (.cells #[.int .u8 (192 + mk / 64), .int .u8 (128 + mk % 64)] 5)) = .ok (.string (strOfNums [192 + mk / 64, 128 + mk % 64])) (w.alloc (.cells #[.int .u8 (192 + mk / 64), .int .u8 (128 + mk % 64)] 5)) := by
      refine run_convert_bytes_arg _ 52 5 Try.underlying52 Try.underlying5 w.heap.size 0 2 2 [192 + mk / 64, 128 + mk % 64] rfl (fun i hi => ?_) 9 Try.underlying9
      rw [World.cell?_alloc_at (w := w) _ _ _ _ rfl]
      match i, hi with
      | 0, _ => rfl
      | 1, _ => rfl
    have HT := hide (show strOfNums [192 + mk / 64, 128 + mk % 64] = mtext mk.toNat from by
      unfold mtext strOfNums
      rw [if_neg (by omega)]
      simp only [List.map_cons, List.map_nil]
      rw [show (192 + mk / 64).toNat = 192 + mk.toNat / 64 from by omega, show (128 + mk % 64).toNat = 128 + mk.toNat % 64 from by omega])
    go_enter Try.func15, Try.ntmps15
    go_wp2
    go_ret
    exact ⟨by rw [← HT.out]; rfl, (Below.refl _ _).alloc (Nat.le_refl _) _⟩
end Go.Proofs.Qxb6605269a.MarkLaw
