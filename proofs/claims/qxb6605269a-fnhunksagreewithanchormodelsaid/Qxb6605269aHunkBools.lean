import Derived.Test.Qxb6605269aMarkWalk
namespace Go.Proofs.Qxb6605269a.HunkBools
open Go.ChangeShapes Go.WideShapes Go.ChangeAt Go.RowKit
open Go.Proofs.Qxb6605269a.Lcs (hide rowIs_drewN info3)
open Go.Proofs.Qxb6605269a.Strs
open Go.Proofs.Qxb6605269a.MarkLaw (Shape below_of_grown)

theorem info4 : (Try.prog.info? 4).map (fun i => (i.zero, i.size, i.bytes)) = some (some (.bool false), 1, 1) := by kernel_rfl

/-- a slice of Booleans can be read -/
def RdB (w : World) (a : Option Addr) (len : Nat) (L : Nat → Bool) : Prop := 0 < len → ∃ b o, a = some ⟨b, o, none⟩ ∧ ∀ i, i < len → w.cell? ⟨b, o + i, none⟩ = some (.bool (L i))

theorem RdB.below {w wx : World} {a : Option Addr} {len : Nat} {L : Nat → Bool} (h : RdB w a len L) (hb : Below w.heap.size w wx) : RdB wx a len L := by
  intro h0
  obtain ⟨b, o, ha, hc⟩ := h h0
  exact ⟨b, o, ha, fun i hi => by rw [hb.cell (World.block_lt_of_cell? w _ (hc i hi))]; exact hc i hi⟩

theorem takeb_any (bud : Int) (a : Option Addr) (len cap : Nat) (w : World) (h1 : bud ≤ 1048576) (hlen : len ≤ 9223372036854775807) :
    Calls Try.prog 17 #[.int .i64 bud, .slice a len cap] w fun e w' => ∃ r : Int, e = .returned (.int .i64 r) ∧ w' = w ∧ r ≤ 1048576 ∧ (0 ≤ r → r + (len : Int) = bud) := by
  by_cases hb : bud < 0
  · go_enter Try.func17, Try.ntmps17
    go_wp2
    go_ret
    exact ⟨_, rfl, rfl, by omega, by omega⟩
  · by_cases hl : bud < (len : Int)
    · have hb' : 0 ≤ bud := by omega
      go_enter Try.func17, Try.ntmps17
      go_wp2
      go_ret
      exact ⟨_, rfl, rfl, by omega, by omega⟩
    · have hb' : 0 ≤ bud := by omega
      have hd1 : decide (bud < 0) = false := decide_eq_false hb
      have hd2 : decide (bud < (len : Int)) = false := decide_eq_false hl
      clear hb hl
      have hl' : (len : Int) ≤ bud := by simpa using hd2
      go_enter Try.func17, Try.ntmps17
      go_wp2
      go_ret
      exact ⟨_, rfl, rfl, by omega, by omega⟩

/-- a copy of Booleans -/
structure CpB (w w' : World) (a : Option Addr) (len cap : Nat) (L : Nat → Bool) : Prop where
  rd : RdB w' a len L
  shape : Shape a len cap
  below : Below w.heap.size w w'

theorem set_bool {w : World} {b : Nat} {t : TypeId} {n : Nat} {f : Nat → Bool} (h : w.rowIs b t n fun j => .bool (f j)) (i : Nat) (v : Bool) :
    (w.setCell ⟨b, i, none⟩ (.bool v)).rowIs b t n fun j => .bool (if j = i then v else f j) :=
  (h.set i (.bool v)).congr fun j _ => by split <;> rfl

theorem cloneb_nil (w : World) : Calls Try.prog 19 #[.slice none 0 0] w fun e w' => e = .returned (.slice none 0 0) ∧ w' = w := by
  have q34 : ∀ (w : World) (a : Option Addr) (n c n' c' : Nat), (binOp .eql 34 (.slice a n c) (.slice none n' c')).run Try.prog w = .ok (.bool a.isNone) w := fun w a n c n' c' => Lib.run_eql_slice_nil w _ _ a n c n' c' Try.underlying34
  go_enter Try.func19, Try.ntmps19
  go_wp2
  go_ret
  exact ⟨rfl, rfl⟩

set_option maxHeartbeats 400000 in
theorem cloneb_row (x : Addr) (len cap : Nat) (L : Nat → Bool) (w : World) (hlen : len ≤ 1048576)
    (hr : RdB w (some x) len L) :
    Calls Try.prog 19 #[.slice (some x) len cap] w fun e w' => ∃ g, e = .returned (.slice (some ⟨g, 0, none⟩) len len) ∧ w'.rowIs g 4 len (fun i => .bool (L i)) ∧ Below w.heap.size w w' := by
  have q34 : ∀ (w : World) (a : Option Addr) (n c n' c' : Nat), (binOp .eql 34 (.slice a n c) (.slice none n' c')).run Try.prog w = .ok (.bool a.isNone) w := fun w a n c n' c' => Lib.run_eql_slice_nil w _ _ a n c n' c' Try.underlying34
  have hmk := fun wx => run_make_row' (P := Try.prog) 34 4 (.bool false) 1 Try.underlying34 info4 rfl .i64 .i64 len (by omega) (by omega) wx
  have HR := hide (World.rowIs_made w (.bool false) len 4)
  go_enter Try.func19, Try.ntmps19
  go_wp2
  go_loopw [4] (fun i wr => ∃ (k : Nat) (f : Nat → Bool), k ≤ len ∧ i = .int .i64 k ∧ wr.rowIs w.heap.size 4 len (fun i => .bool (f i)) ∧ (∀ j, j < k → f j = L j) ∧ Below w.heap.size w wr) (fun i _ => len - (intOf i).toNat)
  case atStart => exact ⟨0, fun _ => false, by omega, rfl, HR.out, fun j hj => absurd hj (by omega), (Below.refl _ _).alloc (Nat.le_refl _) _⟩
  case round =>
    obtain ⟨k, f, hk, rfl, hrow, hpre, hbel⟩ := hrel
    clear HR
    have HP := hide hpre
    have HRW := hide hrow
    clear hpre
    by_cases hlt : k < len
    · obtain ⟨b, o, hx, hc⟩ := hr (by omega)
      simp only [Option.some.injEq] at hx
      subst hx
      have hck := hc k hlt
      have hc' := (hbel.cell (World.block_lt_of_cell? w _ hck)).trans hck
      have e1 := hrow.cell hlt
      have e2 := hrow.frozen k
      clear hrow hck hc hr
      go_wp2
      go_roundw
      case rel =>
        refine ⟨k + 1, _, by omega, by go_num, set_bool HRW.out k _, ?_, hbel.setCell (Nat.le_refl _) _⟩
        intro j hj
        by_cases e : j = k
        · simp [e]
        · simp only [e, if_false]; exact HP.out j (by omega)
      case measure => simp [intOf]; omega
    · have hlt2 := hrow.lt
      clear hrow hr
      go_wp2
      go_ret
      exact ⟨_, rfl, HRW.out.congr fun i hi => by rw [HP.out i (by omega)], hbel⟩

theorem cloneb_any (a : Option Addr) (len cap : Nat) (L : Nat → Bool) (w : World) (hlen : len ≤ 1048576) (hs : Shape a len cap) (hr : RdB w a len L) :
    Calls Try.prog 19 #[.slice a len cap] w fun e w' => ∃ a' cap', e = .returned (.slice a' len cap') ∧ CpB w w' a' len cap' L := by
  rcases hs with ⟨rfl, rfl, rfl⟩ | ⟨x, rfl⟩
  · refine (cloneb_nil w).mono ?_
    rintro e w' ⟨rfl, rfl⟩
    exact ⟨none, 0, rfl, fun h => absurd h (by omega), Or.inl ⟨rfl, rfl, rfl⟩, Below.refl _ _⟩
  · refine (cloneb_row x len cap L w hlen hr).mono ?_
    rintro e w' ⟨g, rfl, hrow, hb⟩
    exact ⟨_, _, rfl, fun _ => ⟨g, 0, rfl, fun i hi => by rw [Nat.zero_add]; exact hrow.cell hi⟩, Or.inr ⟨_, rfl⟩, hb⟩

/-- the unmarked indices below n -/
def um (R : Nat → Bool) : Nat → List Nat
  | 0 => []
  | k + 1 => um R k ++ if R k then [] else [k]
def ints (l : List Nat) : List Value := l.map fun (n : Nat) => Value.int .i64 (n : Int)
theorem ints_append (a b : List Nat) : ints (a ++ b) = ints a ++ ints b := by simp [ints]
theorem um_len (R : Nat → Bool) (n : Nat) : (um R n).length ≤ n := by
  induction n with
  | zero => simp [um]
  | succ n ih => simp only [um, List.length_append]; split <;> simp <;> omega

theorem one_new3 (w : World) (x : Value) (t : TypeId) : ∀ j u, [x][j]? = some u → (w.alloc (.cells #[x] t)).cell? ((⟨w.heap.size, 0, none⟩ : Addr).add j) = some u := by
  intro j u hj
  match j, hj with
  | 0, hj => simp at hj; subst hj; simp [Addr.add]
theorem one_int (x : Int) : ∀ u ∈ [Value.int .i64 x], u.oneCell' = true := by
  intro u hu; simp at hu; subst hu; rfl

/-- what Unmarked hands back -/
def PostU (R : Nat → Bool) (n : Nat) (w : World) (e : Ending) (w' : World) : Prop :=
  ∃ v, e = .returned v ∧ w'.ownsRow w.heap.size 3 1 v (um R n).length (ints (um R n)) ∧ Below w.heap.size w w'

set_option maxHeartbeats 1000000 in
theorem unmarked_any (a : Option Addr) (len cap : Nat) (R : Nat → Bool) (w : World) (hlen : len ≤ 1048576) (hr : RdB w a len R) :
    Calls Try.prog 18 #[.slice a len cap] w fun e w' => PostU R len w e w' := by
  obtain ⟨i0, hi, hz0, hz1, hz2⟩ := info_parts info3
  go_enter Try.func18, Try.ntmps18
  go_wp2
  go_loopg [3, 4] len (fun g v1 i wr => ∃ k : Nat, g = len - k ∧ k ≤ len ∧ i = .int .i64 k ∧ wr.ownsRow w.heap.size 3 1 v1 (um R k).length (ints (um R k)) ∧ Below w.heap.size w wr)
  case atStart => exact ⟨0, by omega, by omega, rfl, World.ownsRow_nil _ _ _ _, Below.refl _ _⟩
  case round =>
    obtain ⟨k, hg, hk, rfl, hO, hbel⟩ := hrel
    have HG := hide hg
    have HO := hide hO
    clear hg hO
    by_cases hlt : k < len
    · obtain ⟨b, o, rfl, hc⟩ := hr (by omega)
      have hck := hc k hlt
      have hc' := (hbel.cell (World.block_lt_of_cell? w _ hck)).trans hck
      have HU := hide (show um R (k + 1) = um R k ++ (if R k then [] else [k]) from rfl)
      have hul := um_len R k
      have hbw := hbel.size
      have HB := hide hbel
      clear hck hc hr hbel
      cases hR : R k
      · rw [hR] at hc'
        have HU2 : Hid (um R (k + 1) = um R k ++ [k]) := by rw [HU.out, hR]; rfl
        go_wp2_with (at_builtin; refine wpList_append_own_at _ rfl (.tmp 16) (.tmp 18) 22 rfl w.heap.size 3 i0 (.int .i64 0) 1 8 Try.underlying22 hi hz0 hz1 hz2 rfl (by decide) _ _ _ rfl (HO.out.alloc _) _ 1 1 [.int .i64 (k : Int)] rfl rfl ?c1 ?c2 ?c3 ?c4 ?c5 ?_)
        case c1 => exact one_new3 _ _ _
        case c2 => exact one_int _
        case c3 => unfold maxLen; omega
        case c4 => omega
        case c5 => rw [World.size_alloc]; omega
        intro v1 w1 hown1 hgrow1 _ hblk1
        have HO1 : Hid (w1.ownsRow w.heap.size 3 1 v1 (um R (k + 1)).length (ints (um R (k + 1)))) := by
          rw [HU2.out, ints_append]
          have hn : (um R k).length + 1 = (um R k ++ [k]).length := by simp
          rw [← hn]; exact hown1
        have HB1 := hide ((HB.out.alloc (by omega) _).grown hgrow1 (by rw [World.size_alloc]; omega) (fun g hg => (HO.out.lt g hg).1))
        clear hown1 hgrow1 hblk1 HO HB
        go_wp2
        go_roundg (len - (k + 1))
        case measure => have := HG.out; omega
        case rel => exact ⟨k + 1, rfl, by omega, by go_num, HO1.out, HB1.out⟩
      · rw [hR] at hc'
        have HU2 : Hid (um R (k + 1) = um R k) := by rw [HU.out, hR, if_pos rfl, List.append_nil]; exact rfl
        go_wp2
        go_roundg (len - (k + 1))
        case measure => have := HG.out; omega
        case rel => exact ⟨k + 1, rfl, by omega, by go_num, by rw [HU2.out]; exact HO.out, HB.out⟩
    · have hke : k = len := by omega
      have HB := hide hbel
      clear hr hbel
      go_wp2
      go_ret
      subst hke
      exact ⟨_, rfl, HO.out, HB.out⟩
end Go.Proofs.Qxb6605269a.HunkBools
