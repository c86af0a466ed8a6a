import Derived.Test.Qxb6605269aLcs
namespace Go.Proofs.Qxb6605269a.Clone
open Go.ChangeShapes Go.WideShapes Go.ChangeAt Go.RowKit
open Go.Proofs.Qxb6605269a.Lcs (hide rowIs_drewN set_int info3)

/-- a copy in new memory -/
structure Copied (w w' : World) (a : Option Addr) (g len : Nat) (L : Nat → Int) : Prop where
  at_ : a = some ⟨g, 0, none⟩
  row : w'.rowIs g 3 len (fun i => .int .i64 (L i))
  lo : w.heap.size ≤ g
  hi : g < w'.heap.size
  below : Below w.heap.size w w'

set_option maxHeartbeats 400000 in
theorem clone_row (x : Addr) (len cap : Nat) (L : Nat → Int) (w : World) (hlen : len ≤ 1048576)
    (hcell : ∀ i, i < len → w.cell? (x.add i) = some (.int .i64 (L i))) :
    Calls Try.prog 8 #[.slice (some x) len cap] w fun e w' => ∃ g, e = .returned (.slice (some ⟨g, 0, none⟩) len len) ∧ Copied w w' (some ⟨g, 0, none⟩) g len L := by
  have q22 : ∀ (w : World) (a : Option Addr) (n c n' c' : Nat), (binOp .eql 22 (.slice a n c) (.slice none n' c')).run Try.prog w = .ok (.bool a.isNone) w := fun w a n c n' c' => Lib.run_eql_slice_nil w _ _ a n c n' c' Try.underlying22
  have hmk := fun wx => run_make_row' (P := Try.prog) 22 3 (.int .i64 0) 8 Try.underlying22 info3 rfl .i64 .i64 len (by omega) (by omega) wx
  obtain ⟨b, off, spot⟩ := x
  have HR := hide (World.rowIs_made w (.int .i64 0) len 3)
  go_enter Try.func8, Try.ntmps8
  go_wp2
  go_loopw [4] (fun i wr => ∃ (k : Nat) (f : Nat → Int), k ≤ len ∧ i = .int .i64 k ∧ wr.rowIs w.heap.size 3 len (fun i => .int .i64 (f i)) ∧ (∀ j, j < k → f j = L j) ∧ Below w.heap.size w wr) (fun i _ => len - (intOf i).toNat)
  case atStart => exact ⟨0, fun _ => 0, by omega, rfl, HR.out, fun j hj => absurd hj (by omega), (Below.refl _ _).alloc (Nat.le_refl _) _⟩
  case round =>
    obtain ⟨k, f, hk, rfl, hrow, hpre, hbel⟩ := hrel
    clear HR
    have HP := hide hpre
    have HRW := hide hrow
    clear hpre
    by_cases hlt : k < len
    · have hc := hcell k hlt
      obtain rfl : spot = none := by simpa [Addr.add] using World.cell?_spot (hcell 0 (by omega))
      rw [add_plain] at hc
      have hc' := (hbel.cell (World.block_lt_of_cell? w _ hc)).trans hc
      have e1 := hrow.cell hlt
      have e2 := hrow.frozen k
      clear hrow hc
      go_wp2
      go_roundw
      case rel =>
        refine ⟨k + 1, _, by omega, by go_num, set_int HRW.out k _, ?_, hbel.setCell (Nat.le_refl _) _⟩
        intro j hj
        by_cases e : j = k
        · simp [e]
        · simp only [e, if_false]; exact HP.out j (by omega)
      case measure => simp [intOf]; omega
    · have hlt2 := hrow.lt
      clear hrow
      go_wp2
      go_ret
      exact ⟨_, rfl, rfl, HRW.out.congr fun i hi => by rw [HP.out i (by omega)], Nat.le_refl _, hlt2, hbel⟩

theorem zzbytes_yes (a0 a1 a2 a3 : Option Addr) (l0 l1 l2 l3 c0 c1 c2 c3 : Nat) (s p q r t : Int) (w : World) (h : l0 + l1 + l2 + l3 ≤ 1048576) :
    Calls Try.prog 7 #[.slice a0 l0 c0, .slice a1 l1 c1, .int .i64 s, .slice a2 l2 c2, .slice a3 l3 c3, .int .i64 p, .int .i64 q, .int .i64 r, .int .i64 t] w fun e w' => e = .returned (.bool true) ∧ w' = w := by
  go_enter Try.func7, Try.ntmps7
  go_wp2
  go_ret
  exact ⟨rfl, rfl⟩
set_option maxHeartbeats 800000 in
theorem zzbytes_no (a0 a1 a2 a3 : Option Addr) (l0 l1 l2 l3 c0 c1 c2 c3 : Nat) (s p q r t : Int) (w : World) (m0 : l0 ≤ 9223372036854775807) (m1 : l1 ≤ 9223372036854775807) (m2 : l2 ≤ 9223372036854775807) (m3 : l3 ≤ 9223372036854775807) (h : ¬ l0 + l1 + l2 + l3 ≤ 1048576) :
    Calls Try.prog 7 #[.slice a0 l0 c0, .slice a1 l1 c1, .int .i64 s, .slice a2 l2 c2, .slice a3 l3 c3, .int .i64 p, .int .i64 q, .int .i64 r, .int .i64 t] w fun e w' => e = .returned (.bool false) ∧ w' = w := by
  by_cases h0 : l0 ≤ 1048576
  · by_cases h1 : l1 ≤ 1048576
    · by_cases h2 : l2 ≤ 1048576
      · by_cases h3 : l3 ≤ 1048576
        · go_enter Try.func7, Try.ntmps7
          go_wp2
          all_goals (go_ret; exact ⟨rfl, rfl⟩)
        · go_enter Try.func7, Try.ntmps7
          go_wp2
          all_goals (go_ret; exact ⟨rfl, rfl⟩)
      · go_enter Try.func7, Try.ntmps7
        go_wp2
        all_goals (go_ret; exact ⟨rfl, rfl⟩)
    · go_enter Try.func7, Try.ntmps7
      go_wp2
      all_goals (go_ret; exact ⟨rfl, rfl⟩)
  · go_enter Try.func7, Try.ntmps7
    go_wp2
    all_goals (go_ret; exact ⟨rfl, rfl⟩)
end Go.Proofs.Qxb6605269a.Clone
