import Derived.Test.Qxb6605269aHunkStage
import Derived.BigQuiet
set_option linter.unusedVariables false
set_option linter.unusedSimpArgs false
namespace Go.Proofs.Qxb6605269a.ModelBits
open Go.ChangeShapes Go.WideShapes Go.ChangeAt Go.RowKit
open Go.Proofs.Qxb6605269a.Lcs (hide rowIs_drewN info3)
open Go.Proofs.Qxb6605269a.Strs
open Go.Proofs.Qxb6605269a.Mark
open Go.Proofs.Qxb6605269a.MarkLaw (last_not)
open Go.Proofs.Qxb6605269a.HunkMath
open Go.Proofs.Qxb6605269a.HunkMem
open Go.Proofs.Qxb6605269a.HunkStage

theorem first_any (lo c : Nat) (w : World) (h1 : lo ≤ 1048576) (h2 : c ≤ 1048576) : Calls Try.prog 29 #[.int .i64 (lo : Int), .int .i64 (c : Int)] w fun e w' => e = .returned (.int .i64 ((HunkMath.start lo (lo + c) : Nat) : Int)) ∧ w' = w := by
  by_cases h : 0 < c
  · have h' : (0 : Int) < (c : Int) := by omega
    go_enter Try.func29, Try.ntmps29
    go_wp2
    go_ret
    exact ⟨ret_int (by simp [HunkMath.start, h]), rfl⟩
  · have h' : (c : Int) ≤ 0 := by omega
    have hc : c = 0 := by omega
    subst hc
    go_enter Try.func29, Try.ntmps29
    go_wp2
    go_ret
    exact ⟨ret_int (by simp [HunkMath.start]), rfl⟩

theorem last_yes (s : ByteArray) (h : ends s = true) (hs : s.size - 1 < s.size) : (((s[s.size - 1]'hs).toNat : Int) == 10) = true := by
  have h2 : (s.extract (s.size - 1) s.size).toList = [10] := by
    simp only [ends, Bool.and_eq_true, beq_iff_eq] at h; exact h.2
  rw [ByteArray.toList_eq, Lib.extract_data, List.take_of_length_le (by simp)] at h2
  have hl : s.size - 1 < s.data.toList.length := by simpa using hs
  rw [List.drop_eq_getElem_cons hl] at h2
  have h3 := (List.cons.inj h2).1
  have h4 : s[s.size - 1] = 10 := h3
  rw [h4]; rfl

set_option maxHeartbeats 1000000 in
theorem marked_any (base : Nat) (v : Value) (H : List ByteArray) (mk : Int) (line : ByteArray) (w : World)
    (hown : w.ownsRow base 9 1 v H.length (Mark.strs H)) (hbase : base ≤ w.heap.size) (hH : H.length ≤ 10000000) (hmk : 0 ≤ mk ∧ mk ≤ 255) (hs : line.size ≤ 1048576) :
    Calls Try.prog 28 #[v, .string (Utf8.encode mk), .string line] w fun e w' => ∃ v', e = .returned v' ∧ Own w v w' base v' (H ++ entry mk line) := by
  obtain ⟨i0, hi, hz0, hz1, hz2⟩ := info_parts info9
  have hms : (Utf8.encode mk).size ≤ 2 := by rw [encode_eq mk hmk.1 hmk.2]; exact mtext_size _
  have HO0 : Hid (Own w v w base v H) := ⟨hown, Or.inl rfl, grownBy_refl _ _⟩
  have HOW := hide hown
  clear hown
  cases he : ends line
  · have HEN := hide (show entry mk line = [Utf8.encode mk ++ cut line, nonl] from by unfold entry; rw [he]; rfl)
    have hcu : cut line = line := by unfold cut; rw [he]; rfl
    have HCU := hide hcu
    have HL := hide (last_not line he)
    have hent : Hid (Own w v w base v H → True) := fun _ => trivial
    clear hcu
    by_cases h0 : line.size = 0
    · have j1 : decide ((0 : Int) < (line.size : Int)) = false := decide_eq_false (by omega)
      have j1n : decide (0 < line.size) = false := decide_eq_false (by omega)
      clear h0
      go_enter Try.func28, Try.ntmps28
      go_wp2_with (at_builtin; refine wpList_append_own_at _ rfl (.tmp 28) (.tmp 32) 28 rfl base 9 i0 (.string ⟨#[]⟩) 1 16 Try.underlying28 hi hz0 hz1 hz2 rfl (by decide) _ _ _ rfl (HOW.out.alloc _) _ 1 1 [.string (Utf8.encode mk ++ line)] rfl rfl (one_new _ _ _) (one_cell _) (by unfold maxLen; omega) (by omega) (by rw [World.size_alloc]; omega) ?_)
      intro v1 w1 hown1 hgrow1 _ hblk1
      have O1 := hide (HO0.out.step hown1 hgrow1 hblk1)
      have hw1 := hgrow1.size
      rw [World.size_alloc] at hw1
      clear hown1 hgrow1 hblk1
      go_wp2_with (at_builtin; refine wpList_append_own_at _ rfl (.tmp 34) (.tmp 35) 28 rfl base 9 i0 (.string ⟨#[]⟩) 1 16 Try.underlying28 hi hz0 hz1 hz2 rfl (by decide) _ _ _ rfl (O1.out.own.alloc _) _ 1 1 [.string nonl] rfl rfl (one_new _ _ _) (one_cell _) (by unfold maxLen; simp only [List.length_append, List.length_cons, List.length_nil]; omega) (by simp only [List.length_append, List.length_cons, List.length_nil]; omega) (by rw [World.size_alloc]; omega) ?_)
      intro v2 w2 hown2 hgrow2 _ hblk2
      have O2 := hide (O1.out.step (x := nonl) hown2 hgrow2 hblk2)
      clear hown2 hgrow2 hblk2
      go_wp2_with fail
      go_ret
      exact ⟨_, rfl, by rw [HEN.out, HCU.out]; simpa [List.append_assoc] using O2.out⟩
    · have j1 : (0 : Int) < (line.size : Int) := by omega
      have j2 : line.size - 1 < line.size := by omega
      have j3 := HL.out j2
      clear h0
      go_enter Try.func28, Try.ntmps28
      go_wp2_with (at_builtin; refine wpList_append_own_at _ rfl (.tmp 28) (.tmp 32) 28 rfl base 9 i0 (.string ⟨#[]⟩) 1 16 Try.underlying28 hi hz0 hz1 hz2 rfl (by decide) _ _ _ rfl (HOW.out.alloc _) _ 1 1 [.string (Utf8.encode mk ++ line)] rfl rfl (one_new _ _ _) (one_cell _) (by unfold maxLen; omega) (by omega) (by rw [World.size_alloc]; omega) ?_)
      intro v1 w1 hown1 hgrow1 _ hblk1
      have O1 := hide (HO0.out.step hown1 hgrow1 hblk1)
      have hw1 := hgrow1.size
      rw [World.size_alloc] at hw1
      clear hown1 hgrow1 hblk1
      go_wp2_with (at_builtin; refine wpList_append_own_at _ rfl (.tmp 34) (.tmp 35) 28 rfl base 9 i0 (.string ⟨#[]⟩) 1 16 Try.underlying28 hi hz0 hz1 hz2 rfl (by decide) _ _ _ rfl (O1.out.own.alloc _) _ 1 1 [.string nonl] rfl rfl (one_new _ _ _) (one_cell _) (by unfold maxLen; simp only [List.length_append, List.length_cons, List.length_nil]; omega) (by simp only [List.length_append, List.length_cons, List.length_nil]; omega) (by rw [World.size_alloc]; omega) ?_)
      intro v2 w2 hown2 hgrow2 _ hblk2
      have O2 := hide (O1.out.step (x := nonl) hown2 hgrow2 hblk2)
      clear hown2 hgrow2 hblk2
      go_wp2_with fail
      go_ret
      exact ⟨_, rfl, by rw [HEN.out, HCU.out]; simpa [List.append_assoc] using O2.out⟩
  · have HEN := hide (show entry mk line = [Utf8.encode mk ++ cut line] from by unfold entry; rw [he]; rfl)
    have hsz := ends_size line he
    have j1 : (0 : Int) < (line.size : Int) := by omega
    have j2 : line.size - 1 < line.size := by omega
    have j3 := last_yes line he j2
    have hcu : line.extract 0 (line.size - 1) = cut line := by unfold cut; rw [he]; rfl
    have hcs := cut_size line
    go_enter Try.func28, Try.ntmps28
    go_wp2_with (at_builtin; refine wpList_append_own_at _ rfl (.tmp 19) (.tmp 26) 28 rfl base 9 i0 (.string ⟨#[]⟩) 1 16 Try.underlying28 hi hz0 hz1 hz2 rfl (by decide) _ _ _ rfl (HOW.out.alloc _) _ 1 1 [.string (Utf8.encode mk ++ cut line)] rfl rfl (one_new _ _ _) (one_cell _) (by unfold maxLen; omega) (by omega) (by rw [World.size_alloc]; omega) ?_)
    intro v1 w1 hown1 hgrow1 _ hblk1
    have O1 := hide (HO0.out.step hown1 hgrow1 hblk1)
    clear hown1 hgrow1 hblk1
    go_wp2_with fail
    go_ret
    exact ⟨_, rfl, by rw [HEN.out]; exact O1.out⟩

/-- a hunk as a value -/
def hval (os ol ns nl ub : Nat) (vl : Value) : Value := .agg #[.int .i64 (os : Int), .int .i64 (ol : Int), .int .i64 (ns : Int), .int .i64 (nl : Int), .int .i64 (ub : Int), vl]

set_option maxRecDepth 100000 in
set_option maxHeartbeats 4000000 in
theorem same_any (os ol ns nl ub n : Nat) (al bl : Option Addr) (cl dl : Nat) (F : Nat → ByteArray) (w : World) (hn : n ≤ 9223372036854775807)
    (r1 : 0 < n → ∃ g, al = some ⟨g, 0, none⟩ ∧ ∀ i, i < n → w.cell? ⟨g, i, none⟩ = some (.string (F i))) (r2 : 0 < n → ∃ g, bl = some ⟨g, 0, none⟩ ∧ ∀ i, i < n → w.cell? ⟨g, i, none⟩ = some (.string (F i))) :
    Calls Try.prog 22 #[hval os ol ns nl ub (.slice al n cl), hval os ol ns nl ub (.slice bl n dl)] w fun e w' => e = .returned (.bool true) ∧ Below w.heap.size w w' := by
  have R1 := hide r1
  have R2 := hide r2
  clear r1 r2
  unfold hval
  go_enter Try.func22, Try.ntmps22
  go_wp2_with fail
  have e1 : ((w.alloc (.cells #[.int .i64 (os : Int), .int .i64 (ol : Int), .int .i64 (ns : Int), .int .i64 (nl : Int), .int .i64 (ub : Int), .slice al n cl] 45)).alloc (.cells #[.int .i64 (os : Int), .int .i64 (ol : Int), .int .i64 (ns : Int), .int .i64 (nl : Int), .int .i64 (ub : Int), .slice bl n dl] 45)).cell? ⟨w.heap.size, 5, none⟩ = some (.slice al n cl) := by simp
  have e2 : ((w.alloc (.cells #[.int .i64 (os : Int), .int .i64 (ol : Int), .int .i64 (ns : Int), .int .i64 (nl : Int), .int .i64 (ub : Int), .slice al n cl] 45)).alloc (.cells #[.int .i64 (os : Int), .int .i64 (ol : Int), .int .i64 (ns : Int), .int .i64 (nl : Int), .int .i64 (ub : Int), .slice bl n dl] 45)).cell? ⟨w.heap.size + 1, 5, none⟩ = some (.slice bl n dl) := by simp
  have hb := ((Below.refl w.heap.size w).alloc (Nat.le_refl _) (.cells #[.int .i64 (os : Int), .int .i64 (ol : Int), .int .i64 (ns : Int), .int .i64 (nl : Int), .int .i64 (ub : Int), .slice al n cl] 45)).alloc (by rw [World.size_alloc]; omega) (.cells #[.int .i64 (os : Int), .int .i64 (ol : Int), .int .i64 (ns : Int), .int .i64 (nl : Int), .int .i64 (ub : Int), .slice bl n dl] 45)
  generalize hwz : (w.alloc _).alloc _ = wz at e1 e2 hb ⊢
  clear hwz
  have HB := hide hb
  clear hb
  go_loopw [5] (fun i wx => ∃ (k z : Nat), k ≤ n ∧ i = .int .i64 k ∧ wx = wz.drewN z) (fun i _ => n - (intOf i).toNat)
  case atStart => exact ⟨0, 0, by omega, rfl, rfl⟩
  case round =>
    obtain ⟨k, z, hk, rfl, rfl⟩ := hrel
    by_cases hlt : k < n
    · obtain ⟨g1, rfl, hc1⟩ := R1.out (by omega)
      obtain ⟨g2, rfl, hc2⟩ := R2.out (by omega)
      have q1 := (HB.out.cell (World.block_lt_of_cell? _ _ (hc1 k hlt))).trans (hc1 k hlt)
      have q2 := (HB.out.cell (World.block_lt_of_cell? _ _ (hc2 k hlt))).trans (hc2 k hlt)
      have q3 : (k : Int) < (n : Int) := by omega
      clear hc1 hc2
      go_wp2_with fail
      go_quiet (fail)
      go_wp2_with fail
      go_roundw
      case rel => exact ⟨k + 1, _, by omega, by go_num, rfl⟩
      case measure => simp [intOf]; omega
    · have q3 : (n : Int) ≤ (k : Int) := by omega
      go_wp2_with fail
      go_ret
      exact ⟨rfl, below_drewN HB.out _⟩
end Go.Proofs.Qxb6605269a.ModelBits
