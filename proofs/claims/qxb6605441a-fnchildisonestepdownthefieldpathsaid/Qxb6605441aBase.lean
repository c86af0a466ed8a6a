import Derived.Test.Qxb6605441aRows
import Derived.WalkKit
import Derived.ProofKit
import Derived.OpenShut
import Derived.WalkSpells
import Derived.WalkLawsBesides
import Derived.Deep.OwnRows
namespace Go.Proofs.Qxb6605441a.Base
open Go.ChangeShapes Go.WideShapes Go.ChangeAt Go.RowKit

theorem info5 : (Try.prog.info? 5).map (fun i => (i.zero, i.size, i.bytes)) = some (some (.int .u8 0), 1, 1) := by kernel_rfl

/-- a row of bytes -/
def rowU8 (zs : List Int) : Array Value := (zs.map (Value.int .u8)).toArray
/-- the copy behind k rounds -/
def part (zs : List Int) (len k : Nat) : Array Value := ((List.range len).map fun i => Value.int .u8 (if i < k then zs.getD i 0 else 0)).toArray

theorem rowU8_at (zs : List Int) (i : Nat) (h : i < zs.length) : (rowU8 zs)[i]? = some (.int .u8 (zs.getD i 0)) := by
  simp [rowU8, h]
theorem part_zero (zs : List Int) (len : Nat) : madeCells #[.int .u8 0] len = part zs len 0 := by
  apply Array.ext'
  rw [toList_madeCells_one]
  simp [part, List.map_const']
theorem part_here (zs : List Int) (len k : Nat) (h : k < len) : (part zs len k)[k]? = some (.int .u8 0) := by
  simp [part, h]
theorem part_set (zs : List Int) (len k : Nat) (v : Int) (hv : v = zs.getD k 0) : (part zs len k).setIfInBounds k (.int .u8 v) = part zs len (k + 1) := by
  apply Array.ext
  · simp [part]
  · intro i h1 h2
    have hi' : i < (part zs len k).size := by simpa [part] using h2
    rw [Array.getElem_setIfInBounds hi']
    by_cases e : k = i
    · subst e; simp [part, hv]
    · by_cases e2 : i < k
      · simp [part, e, e2, show i < k + 1 from by omega]
      · simp [part, e, e2, show ¬ i < k + 1 from by omega]
theorem part_full (zs : List Int) (len k : Nat) (h : len ≤ k) (hz : len ≤ zs.length) : part zs len k = rowU8 (zs.take len) := by
  apply Array.ext
  · simp [part, rowU8]; omega
  · intro i h1 h2
    have hi : i < len := by simpa [part] using h1
    simp [part, rowU8, show i < k from by omega, show i < zs.length from by omega]

theorem clone_nil (w : World) : Calls Try.prog 8 #[.slice none 0 0] w fun e w' => e = .returned (.slice none 0 0) ∧ w' = w := by
  have q22 : ∀ (w : World) (a : Option Addr) (n c n' c' : Nat), (binOp .eql 22 (.slice a n c) (.slice none n' c')).run Try.prog w = .ok (.bool a.isNone) w := fun w a n c n' c' => Lib.run_eql_slice_nil w _ _ a n c n' c' Try.underlying22
  go_enter Try.func8, Try.ntmps8
  go_wp2
  go_ret
  exact ⟨rfl, rfl⟩

set_option maxHeartbeats 400000 in
theorem clone_row (x : Addr) (len cap : Nat) (zs : List Int) (w : World) (hl : len ≤ zs.length) (hlen : len ≤ 1048576)
    (hcell : ∀ i, i < len → w.cell? (x.add i) = some (.int .u8 (zs.getD i 0))) :
    Calls Try.prog 8 #[.slice (some x) len cap] w fun e w' => e = .returned (.slice (some ⟨w.heap.size, 0, none⟩) len len) ∧ w' = w.alloc (.cells (rowU8 (zs.take len)) 5) := by
  have q22 : ∀ (w : World) (a : Option Addr) (n c n' c' : Nat), (binOp .eql 22 (.slice a n c) (.slice none n' c')).run Try.prog w = .ok (.bool a.isNone) w := fun w a n c n' c' => Lib.run_eql_slice_nil w _ _ a n c n' c' Try.underlying22
  have hmk := fun wx => run_make_row' (P := Try.prog) 22 5 (.int .u8 0) 1 Try.underlying22 info5 rfl .i64 .i64 len (by omega) (by omega) wx
  obtain ⟨b, off, spot⟩ := x
  go_enter Try.func8, Try.ntmps8
  go_wp2
  go_loopw [4] (fun i wr => ∃ k : Nat, k ≤ len ∧ i = .int .i64 k ∧ wr = w.alloc (.cells (part zs len k) 5)) (fun i _ => len - (intOf i).toNat)
  case atStart => exact ⟨0, by omega, rfl, by rw [part_zero zs len]⟩
  case round =>
    obtain ⟨k, hk, rfl, rfl⟩ := hrel
    by_cases hlt : k < len
    · have hc := hcell k hlt
      obtain rfl : spot = none := by simpa [Addr.add] using World.cell?_spot (hcell 0 (by omega))
      rw [add_plain] at hc
      have hA := part_here zs len k hlt
      have hbk : b < w.heap.size := World.block_lt_of_cell? w _ hc
      go_wp2
      go_roundw
      case rel => exact ⟨k + 1, by omega, by go_num, by rw [part_set zs len k _]; simp⟩
      case measure => simp [intOf]; omega
    · have hf := part_full zs len k (by omega) hl
      go_wp2
      go_ret
      exact ⟨rfl, rfl⟩

/-- the guard laid by program: true where the length is at most 1048576 -/
theorem zzb_yes (a : Option Addr) (len cap : Nat) (h : len ≤ 1048576) (w : World) : Calls Try.prog 12 #[.slice a len cap] w fun e w' => e = .returned (.bool true) ∧ w' = w := by
  go_enter Try.func12, Try.ntmps12
  go_wp2
  go_ret
  exact ⟨rfl, rfl⟩
theorem zzb_no (a : Option Addr) (len cap : Nat) (hm : len ≤ 9223372036854775807) (h : ¬ len ≤ 1048576) (w : World) : Calls Try.prog 12 #[.slice a len cap] w fun e w' => e = .returned (.bool false) ∧ w' = w := by
  go_enter Try.func12, Try.ntmps12
  go_wp2
  go_ret
  exact ⟨rfl, rfl⟩
theorem zzc_yes (f : Int) (a : Option Addr) (len cap : Nat) (h : len ≤ 1048576) (w : World) : Calls Try.prog 7 #[.int .i64 f, .slice a len cap] w fun e w' => e = .returned (.bool true) ∧ w' = w := by
  go_enter Try.func7, Try.ntmps7
  go_wp2
  go_ret
  exact ⟨rfl, rfl⟩
theorem zzc_no (f : Int) (a : Option Addr) (len cap : Nat) (hm : len ≤ 9223372036854775807) (h : ¬ len ≤ 1048576) (w : World) : Calls Try.prog 7 #[.int .i64 f, .slice a len cap] w fun e w' => e = .returned (.bool false) ∧ w' = w := by
  go_enter Try.func7, Try.ntmps7
  go_wp2
  go_ret
  exact ⟨rfl, rfl⟩

end Go.Proofs.Qxb6605441a.Base
