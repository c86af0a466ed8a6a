import Derived.Test.Qxb6605269aHunkStage
import Derived.Deep.RegionHeld3
import Derived.Deep.DrawnRows
import Derived.BigQuiet
import Derived.Deep.CutBlock
set_option linter.unusedVariables false
set_option linter.unusedSimpArgs false
namespace Go.Proofs.Qxb6605269a.HunkWalk
open Go.ChangeShapes Go.WideShapes Go.ChangeAt Go.RowKit
open Go.Proofs.Qxb6605269a.Lcs (hide rowIs_drewN info3)
open Go.Proofs.Qxb6605269a.Strs
open Go.Proofs.Qxb6605269a.Mark
open Go.Proofs.Qxb6605269a.MarkLaw (Shape below_of_grown)
open Go.Proofs.Qxb6605269a.HunkBools
open Go.Proofs.Qxb6605269a.HunkMath
open Go.Proofs.Qxb6605269a.HunkMem
open Go.Proofs.Qxb6605269a.HunkStage

theorem info63 : (Try.prog.info? 63).map (fun i => (i.zero, i.size, i.bytes)) = some (some (.agg #[.int .i64 0, .int .i64 0, .int .i64 0, .int .i64 0]), 4, 32) := by kernel_rfl

/-- the first loop: S are the changes that were found, gp unchanged lines stand behind the last of them -/
structure L1 (R D : Nat → Bool) (la lb : Nat) (w wr : World) (v : Value) (i j gp : Nat) (S : List Tr) : Prop where
  seg : Seg R D 0 0 S (i - gp) (j - gp)
  gi : gp ≤ i
  gj : gp ≤ j
  hi : i ≤ la
  hj : j ≤ lb
  gap : ∀ k, k < gp → R (i - gp + k) = false ∧ D (j - gp + k) = false
  tl : ∀ x ∈ S.tail, 1 ≤ x.g
  after : S ≠ [] → gp = 0 → (i < la → R i = false) ∧ (j < lb → D j = false)
  cnt : cnt R la (la - i) = cnt D lb (lb - j)
  own : wr.ownsRow w.heap.size 63 4 v S.length (vals (nums 0 0 S))
  below : Below w.heap.size w wr

theorem cnt_step (R : Nat → Bool) (l i : Nat) (h : i < l) : cnt R l (l - i) = cnt R l (l - (i + 1)) + if R i then 0 else 1 := by
  obtain ⟨f, hf⟩ : ∃ f, l - i = f + 1 := ⟨l - i - 1, by omega⟩
  rw [hf, cnt, show l - (i + 1) = f from by omega, show l - (f + 1) = i from by omega]
theorem cnt_run (R : Nat → Bool) (l i : Nat) : ∀ n, i + n ≤ l → (∀ k, k < n → R (i + k) = true) → cnt R l (l - i) = cnt R l (l - (i + n)) := by
  intro n
  induction n with
  | zero => intro _ _; rfl
  | succ n ih =>
    intro h1 h2
    rw [ih (by omega) (fun k hk => h2 k (by omega)), cnt_step R l (i + n) (by omega), h2 n (by omega)]
    rfl

theorem L1.lock {R D : Nat → Bool} {la lb : Nat} {w wr : World} {v : Value} {i j gp : Nat} {S : List Tr} (h : L1 R D la lb w wr v i j gp S) (h1 : i < la) (h2 : j < lb) (h3 : R i = false) (h4 : D j = false) :
    L1 R D la lb w wr v (i + 1) (j + 1) (gp + 1) S := by
  have g1 := h.gi
  have g2 := h.gj
  refine ⟨?_, by omega, by omega, by omega, by omega, ?_, h.tl, fun _ h0 => absurd h0 (by omega), ?_, h.own, h.below⟩
  · rw [show i + 1 - (gp + 1) = i - gp from by omega, show j + 1 - (gp + 1) = j - gp from by omega]; exact h.seg
  · rw [show i + 1 - (gp + 1) = i - gp from by omega, show j + 1 - (gp + 1) = j - gp from by omega]
    intro k hk
    by_cases e : k < gp
    · exact h.gap k e
    · rw [show i - gp + k = i from by omega, show j - gp + k = j from by omega]; exact ⟨h3, h4⟩
  · have e := h.cnt
    rw [cnt_step R la i h1, cnt_step D lb j h2, h3, h4] at e
    simpa using e

theorem seg_len {R D : Nat → Bool} (S : List Tr) : ∀ {i j i' j' : Nat}, Seg R D i j S i' j' → S.length + i + j ≤ i' + j' := by
  induction S with
  | nil => intro i j i' j' h; obtain ⟨rfl, rfl⟩ := h; simp
  | cons s S ih =>
    intro i j i' j' h
    obtain ⟨_, _, _, h4, h5⟩ := h
    have := ih h5
    simp only [List.length_cons]; omega
theorem four_new (w : World) (x0 x1 x2 x3 : Value) (t : TypeId) (g : Nat) (hg : g = w.heap.size) : ∀ j u, [x0, x1, x2, x3][j]? = some u → (w.alloc (.cells #[x0, x1, x2, x3] t)).cell? ((⟨g, 0, none⟩ : Addr).add j) = some u := by
  intro j u hj
  subst hg
  match j, hj with
  | 0, hj => simp at hj; subst hj; simp [Addr.add]
  | 1, hj => simp at hj; subst hj; simp [Addr.add]
  | 2, hj => simp at hj; subst hj; simp [Addr.add]
  | 3, hj => simp at hj; subst hj; simp [Addr.add]
theorem four_cell (x0 x1 x2 x3 : Int) : ∀ u ∈ [Value.int .i64 x0, .int .i64 x1, .int .i64 x2, .int .i64 x3], u.oneCell' = true := by
  intro u hu; simp at hu; rcases hu with rfl | rfl | rfl | rfl <;> rfl

/-- the loops stand behind the marked lines -/
structure Past (R : Nat → Bool) (l i i' : Nat) : Prop where
  le : i ≤ i'
  hi : i' ≤ l
  all : ∀ k, k < i' - i → R (i + k) = true
theorem Past.zero (R : Nat → Bool) (l i : Nat) (h : i ≤ l) : Past R l i i := ⟨Nat.le_refl _, h, fun k hk => absurd hk (by omega)⟩
theorem Past.step {R : Nat → Bool} {l i i' : Nat} (h : Past R l i i') (h1 : i' < l) (h2 : R i' = true) : Past R l i (i' + 1) := by
  have := h.le
  refine ⟨by omega, by omega, fun k hk => ?_⟩
  by_cases e : k < i' - i
  · exact h.all k e
  · rw [show i + k = i' from by omega]; exact h2

theorem L1.moves {R D : Nat → Bool} {la lb : Nat} {w wr : World} {v : Value} {i j gp i' j' : Nat} {S : List Tr} (h : L1 R D la lb w wr v i j gp S) (hn : ¬ (i < la ∧ j < lb ∧ R i = false ∧ D j = false)) (hm : i < la ∨ j < lb)
    (p1 : Past R la i i') (p2 : Past D lb j j') (q1 : i' < la → R i' = false) (q2 : j' < lb → D j' = false) : 1 ≤ (i' - i) + (j' - j) := by
  have a1 := p1.le
  have a2 := p2.le
  by_cases e1 : i' = i
  · by_cases e2 : j' = j
    · exfalso
      subst e1 e2
      have hc := h.cnt
      have b1 := h.hi
      have b2 := h.hj
      by_cases hi : i' < la
      · have hR := q1 hi
        rw [cnt_step R la i' hi, hR] at hc
        by_cases hj : j' < lb
        · exact hn ⟨hi, hj, hR, q2 hj⟩
        · rw [show lb - j' = 0 from by omega] at hc
          simp [HunkMath.cnt] at hc
      · have hj : j' < lb := by omega
        have hD := q2 hj
        rw [cnt_step D lb j' hj, hD, show la - i' = 0 from by omega] at hc
        simp [HunkMath.cnt] at hc
    · omega
  · omega

theorem L1.change {R D : Nat → Bool} {la lb : Nat} {w wr wx : World} {v vx : Value} {i j gp i' j' : Nat} {S : List Tr} (h : L1 R D la lb w wr v i j gp S)
    (p1 : Past R la i i') (p2 : Past D lb j j') (q1 : i' < la → R i' = false) (q2 : j' < lb → D j' = false) (hp : 1 ≤ (i' - i) + (j' - j))
    (hown : wx.ownsRow w.heap.size 63 4 vx (S.length + 1) (vals (nums 0 0 S) ++ [.int .i64 (i : Int), .int .i64 (i' : Int), .int .i64 (j : Int), .int .i64 (j' : Int)])) (hb : Below w.heap.size w wx) :
    L1 R D la lb w wx vx i' j' 0 (S ++ [⟨gp, i' - i, j' - j⟩]) := by
  have g1 := h.gi
  have g2 := h.gj
  have a1 := p1.le
  have a2 := p2.le
  have a3 := p1.hi
  have a4 := p2.hi
  have hs := h.seg.snoc S ⟨gp, i' - i, j' - j⟩ h.gap (fun k hk => by simp only at *; rw [show i - gp + gp + k = i + k from by omega]; exact p1.all k hk) (fun k hk => by simp only at *; rw [show j - gp + gp + k = j + k from by omega]; exact p2.all k hk) hp
  simp only [show i - gp + gp + (i' - i) = i' from by omega, show j - gp + gp + (j' - j) = j' from by omega] at hs
  have he := h.seg.ends
  refine ⟨by simpa using hs, by omega, by omega, a3, a4, fun k hk => absurd hk (by omega), ?_, fun _ _ => ⟨q1, q2⟩, ?_, ?_, hb⟩
  · intro x hx
    cases hS : S with
    | nil => rw [hS] at hx; simp at hx
    | cons s S' =>
      rw [hS] at hx
      simp only [List.cons_append, List.tail_cons, List.mem_append, List.mem_singleton] at hx
      rcases hx with hx | rfl
      · exact h.tl x (by rw [hS]; exact hx)
      · show 1 ≤ gp
        by_cases e : gp = 0
        · exfalso
          obtain ⟨b1, b2⟩ := h.after (by rw [hS]; simp) e
          by_cases e1 : i < i'
          · have := p1.all 0 (by omega)
            rw [Nat.add_zero, b1 (by omega)] at this; cases this
          · have := p2.all 0 (by omega)
            rw [Nat.add_zero, b2 (by omega)] at this; cases this
        · omega
  · have e := h.cnt
    rw [cnt_run R la i (i' - i) (by omega) p1.all, cnt_run D lb j (j' - j) (by omega) p2.all] at e
    rwa [show i + (i' - i) = i' from by omega, show j + (j' - j) = j' from by omega] at e
  · rw [nums_append, vals_append, List.length_append]
    simp only [nums, ← he.1, ← he.2, List.length_cons, List.length_nil, show i - gp + gp = i from by omega, show j - gp + gp = j from by omega, show i + (i' - i) = i' from by omega, show j + (j' - j) = j' from by omega]
    exact hown

/-- the second loop: hs are the hunks that were made, S the changes that are left, at (i, j) -/
structure L2 (A B : Nat → ByteArray) (R D : Nat → Bool) (la lb gf : Nat) (S0 : List Tr) (w : World) (wb : Nat) (wr : World) (a : Option Addr) (v : Value) (i j cp : Nat) (S : List Tr) (hs : List Hk) : Prop where
  rd : RdC wr a i j S
  seg : Seg R D i j S (la - gf) (lb - gf)
  head : (i = 0 ∧ j = 0 ∧ cp = 0) ∨ (cp = min 3 (la - i) ∧ ∀ x S', S = x :: S' → 7 ≤ x.g)
  cont : ∀ hs' rest, HOK A B la i j cp S hs' rest → HOK A B la 0 0 0 S0 (hs ++ hs') rest
  at_ : HAt wb wr v hs
  below : Below w.heap.size w wr
  lo : ∀ b o, a = some ⟨b, o, none⟩ → b < wb
  wb1 : w.heap.size ≤ wb
  wb2 : wb ≤ wr.heap.size
  cpl : i + cp ≤ la
  num : hs.length + S.length ≤ S0.length

theorem hat_mono {base base' : Nat} {w : World} {v : Value} {hs : List Hk} (h : HAt base w v hs) (hb : base' ≤ base) : HAt base' w v hs := by
  obtain ⟨vs, h1, h2⟩ := h
  refine ⟨vs, ?_, own_mono h2 hb⟩
  have : ∀ (hs : List Hk) (vs : List Value), LinesAt base w hs vs → LinesAt base' w hs vs := by
    intro hs
    induction hs with
    | nil => intro vs h; cases vs with
      | nil => trivial
      | cons => exact h.elim
    | cons x hs ih => intro vs h; cases vs with
      | nil => exact h.elim
      | cons v vs => exact ⟨own_mono h.1 hb, ih vs h.2⟩
  exact this hs vs h1

/-- what hunks hands back -/
def PostH (A B : Nat → ByteArray) (R D : Nat → Bool) (la lb : Nat) (w : World) (e : Ending) (w' : World) : Prop :=
  ∃ (S : List Tr) (gf : Nat) (hs : List Hk) (rest : Nat) (v : Value), e = .returned (.tuple #[v, .int .i64 (rest : Int)]) ∧ Seg R D 0 0 S (la - gf) (lb - gf) ∧ gf ≤ la ∧ gf ≤ lb ∧
    (∀ k, k < gf → R (la - gf + k) = false ∧ D (lb - gf + k) = false) ∧ (∀ x ∈ S.tail, 1 ≤ x.g) ∧ HOK A B la 0 0 0 S hs rest ∧ HAt w.heap.size w' v hs ∧ Below w.heap.size w w'

theorem ret_pair {v : Value} {x y : Int} (h : x = y) : Ending.returned (.tuple #[v, .int .i64 x]) = .returned (.tuple #[v, .int .i64 y]) := by rw [h]
theorem last_cells {w : World} {b o i j : Nat} {S T : List Tr} (h0 : S ≠ []) (hc : ∀ k x, (nums i j (S ++ T))[k]? = some x → w.cell? ⟨b, o + k, none⟩ = some (.int .i64 x)) :
    w.cell? ⟨b, o + (4 * (S.length - 1) + 1), none⟩ = some (.int .i64 ((endA i S : Nat) : Int)) ∧ w.cell? ⟨b, o + (4 * (S.length - 1) + 3), none⟩ = some (.int .i64 ((endB j S : Nat) : Int)) := by
  obtain ⟨I, t, rfl⟩ : ∃ I t, S = I ++ [t] := ⟨S.dropLast, S.getLast h0, (List.dropLast_concat_getLast h0).symm⟩
  rw [List.append_assoc] at hc
  obtain ⟨_, h1, _, h3⟩ := RdC.at (S := I) (t := t) (T := T) hc
  simp only [List.length_append, List.length_cons, List.length_nil, Nat.add_sub_cancel, endA_append, endB_append, endA, endB]
  exact ⟨h1, h3⟩

theorem start_any (lo hi : Nat) (w : World) (h1 : lo ≤ 1048576) (h2 : hi ≤ 1048576) : Calls Try.prog 31 #[.int .i64 (lo : Int), .int .i64 (hi : Int)] w fun e w' => e = .returned (.int .i64 ((HunkMath.start lo hi : Nat) : Int)) ∧ w' = w := by
  by_cases h : lo < hi
  · have h' : (lo : Int) < (hi : Int) := by omega
    go_enter Try.func31, Try.ntmps31
    go_wp2
    go_ret
    exact ⟨ret_int (by simp [HunkMath.start, h]), rfl⟩
  · have h' : (hi : Int) ≤ (lo : Int) := by omega
    go_enter Try.func31, Try.ntmps31
    go_wp2
    go_ret
    exact ⟨ret_int (by simp [HunkMath.start, h]), rfl⟩

/-- the hunk in the making, wherever its lines lie -/
def L6E (w1 : World) (os ol ns nl ub : Nat) (ops : Ops) (wx : World) : Prop := ∃ vl, L6 w1 os ol ns nl ub vl ops wx
/-- .. and the change that is being shown -/
def L6C (w1 : World) (os ol ns nl ub : Nat) (ops : Ops) (gc n0 n1 n2 n3 : Nat) (wx : World) : Prop := ∃ vl, L6 w1 os ol ns nl ub vl ops wx ∧ wx.rowIs gc 63 4 (f4 n0 n1 n2 n3)
theorem ch_new (w : World) (n0 n1 n2 n3 : Nat) : (w.alloc (.cells #[.int .i64 (n0 : Int), .int .i64 (n1 : Int), .int .i64 (n2 : Int), .int .i64 (n3 : Int)] 63)).rowIs w.heap.size 63 4 (f4 n0 n1 n2 n3) := by
  refine World.rowIs_alloc w _ 63 (f4 n0 n1 n2 n3) ?_
  intro i hi
  have : i < 4 := hi
  match i, this with
  | 0, _ => rfl
  | 1, _ => rfl
  | 2, _ => rfl
  | 3, _ => rfl

def Two (p0 q0 x y : Nat) (w0 : World) (u v : Value) (wx : World) : Prop :=
  ∃ g1 g2, u = .pointer (some ⟨g1, 0, none⟩) ∧ v = .pointer (some ⟨g2, 0, none⟩) ∧ wx.cell? ⟨g1, 0, none⟩ = some (.int .i64 (p0 : Int)) ∧ wx.cell? ⟨g1, 2, none⟩ = some (.int .i64 (q0 : Int)) ∧ wx.cell? ⟨g2, 1, none⟩ = some (.int .i64 (x : Int)) ∧ wx.cell? ⟨g2, 3, none⟩ = some (.int .i64 (y : Int)) ∧ Below w0.heap.size w0 wx

set_option maxRecDepth 100000 in
set_option maxHeartbeats 40000000 in
theorem hunks_any (A B : Nat → ByteArray) (R D : Nat → Bool) (a b r d : Option Addr) (la ca lb cb cr cd : Nat) (w : World)
    (m1 : la ≤ 131072) (m2 : lb ≤ 131072) (ra : Rd w a la A) (rb : Rd w b lb B) (rr : RdB w r la R) (rd : RdB w d lb D) (hcnt : cnt R la la = cnt D lb lb)
    (s1 : ∀ i, i < la → (A i).size ≤ 1048576) (s2 : ∀ i, i < lb → (B i).size ≤ 1048576)
    (ka : la ≤ ca) (kb : lb ≤ cb) (ba : ∀ x, a = some x → x.block < w.heap.size) (bb : ∀ x, b = some x → x.block < w.heap.size) :
    Calls Try.prog 27 #[.slice a la ca, .slice b lb cb, .slice r la cr, .slice d lb cd] w fun e w' => PostH A B R D la lb w e w' := by
  obtain ⟨i0, hi, hz0, hz1, hz2⟩ := info_parts info63
  have RA := hide ra
  have RB := hide rb
  have RR := hide rr
  have RD := hide rd
  have S1 := hide s1
  have S2 := hide s2
  have HC := hide hcnt
  have KA := hide ka
  have KB := hide kb
  have BA := hide ba
  have BB := hide bb
  clear ka kb ba bb
  clear ra rb rr rd s1 s2 hcnt
  go_enter Try.func27, Try.ntmps27
  go_wp2_with fail
  go_loopg [10, 11, 12] (la + lb) (fun g v i j wr => ∃ (ni nj gp : Nat) (S : List Tr), g = (la - ni) + (lb - nj) ∧ i = .int .i64 ni ∧ j = .int .i64 nj ∧ L1 R D la lb w wr v ni nj gp S)
  case atStart => exact ⟨0, 0, 0, [], by omega, rfl, rfl, ⟨⟨rfl, rfl⟩, by omega, by omega, by omega, by omega, fun k hk => absurd hk (by omega), fun x hx => absurd hx (by simp), fun h => absurd rfl h, HC.out, World.ownsRow_nil _ _ _ _, Below.refl _ _⟩⟩
  case round =>
    obtain ⟨i, j, gp, S, hg, rfl, rfl, hL⟩ := hrel
    have HG := hide hg
    have HL := hide hL
    clear hg hL
    have hib := HL.out.hi
    have hjb := HL.out.hj
    have hbw := HL.out.below.size
    have HRC : Hid (∀ i, i < la → ∃ br o, r = some ⟨br, o, none⟩ ∧ wr.cell? ⟨br, o + i, none⟩ = some (.bool (R i)) ∧ br < wr.heap.size) := by
      intro i hi
      obtain ⟨br, o, hr, hrc⟩ := RR.out (by omega)
      have hlt := World.block_lt_of_cell? w _ (hrc i hi)
      exact ⟨br, o, hr, (HL.out.below.cell hlt).trans (hrc i hi), Nat.lt_of_lt_of_le hlt hbw⟩
    have HDC : Hid (∀ i, i < lb → ∃ br o, d = some ⟨br, o, none⟩ ∧ wr.cell? ⟨br, o + i, none⟩ = some (.bool (D i)) ∧ br < wr.heap.size) := by
      intro i hi
      obtain ⟨br, o, hr, hrc⟩ := RD.out (by omega)
      have hlt := World.block_lt_of_cell? w _ (hrc i hi)
      exact ⟨br, o, hr, (HL.out.below.cell hlt).trans (hrc i hi), Nat.lt_of_lt_of_le hlt hbw⟩
    by_cases hmore : i < la ∨ j < lb
    · go_upto_region 3 with fail
      go_cut [37] from 28 to 100 (fun c wx => c = .bool true ∧ wx = wr)
      case first => as_aux_lemma =>
        by_cases hi1 : i < la
        · have hi1' : (i : Int) < (la : Int) := by omega
          go_wp2_with fail
          go_meet
          exact ⟨rfl, rfl⟩
        · have hi1' : (la : Int) ≤ (i : Int) := by omega
          have hj1' : (j : Int) < (lb : Int) := by omega
          go_wp2_with fail
          go_meet
          exact ⟨rfl, rfl⟩
      case rest =>
        obtain ⟨rfl, rfl⟩ := hcut
        have HM := hide hmore
        clear hmore
        obtain ⟨lk, hlk⟩ : ∃ lk : Bool, lk = decide (i < la ∧ j < lb ∧ R i = false ∧ D j = false) := ⟨_, rfl⟩
        have HLK := hide hlk
        clear hlk
        go_upto_region 4 with fail
        go_cut [61] from 28 to 100 (fun c wx => c = .bool lk ∧ wx = wc)
        case first => as_aux_lemma =>
          by_cases hi1 : i < la
          · have hi1' : (i : Int) < (la : Int) := by omega
            by_cases hj1 : j < lb
            · have hj1' : (j : Int) < (lb : Int) := by omega
              obtain ⟨br, or_, rfl, cr1, _⟩ := HRC.out i hi1
              obtain ⟨bd, od_, rfl, cd1, _⟩ := HDC.out j hj1
              cases hR : R i
              all_goals
                rw [hR] at cr1
                cases hD : D j
              all_goals
                rw [hD] at cd1
                go_wp2_with fail
                go_meet
                exact ⟨by rw [HLK.out]; simp [*], rfl⟩
            · have hj1' : (lb : Int) ≤ (j : Int) := by omega
              go_wp2_with fail
              go_meet
              exact ⟨by rw [HLK.out]; simp [*], rfl⟩
          · have hi1' : (la : Int) ≤ (i : Int) := by omega
            go_wp2_with fail
            go_meet
            exact ⟨by rw [HLK.out]; simp [*], rfl⟩
        case rest =>
          obtain ⟨rfl, rfl⟩ := hcut
          cases lk
          · have HN : Hid (¬ (i < la ∧ j < lb ∧ R i = false ∧ D j = false)) := fun h => by have e := HLK.out; rw [decide_eq_true h] at e; cases e
            clear HLK
            go_upto_block 2 with fail
            obtain ⟨wz, hwz⟩ : ∃ wz, wz = wc.alloc (.cells #[.int .i64 (i : Int), .int .i64 0, .int .i64 (j : Int), .int .i64 0] 63) := ⟨_, rfl⟩
            have HWZ := hide hwz
            rw [← hwz]
            clear hwz
            go_cut [11] from 28 to 100 (fun x wx => (∃ i' : Nat, x = .int .i64 i' ∧ Past R la i i' ∧ (i' < la → R i' = false)) ∧ wx = wz)
            case first => as_aux_lemma =>
              go_wp2_with fail
              go_loop [11] (fun x => ∃ i' : Nat, x = .int .i64 i' ∧ Past R la i i') (fun x => la - (intOf x).toNat)
              case atStart => exact ⟨i, rfl, Past.zero _ _ _ (by omega)⟩
              case round =>
                obtain ⟨i', rfl, hp⟩ := hrel
                have HP1 := hide hp
                have hil := hp.hi
                clear hp
                by_cases hl1 : i' < la
                · have hl1' : (i' : Int) < (la : Int) := by omega
                  obtain ⟨br, or_, rfl, cr1, hblt⟩ := HRC.out i' hl1
                  have cr2 : wz.cell? ⟨br, or_ + i', none⟩ = some (.bool (R i')) := by
                    rw [HWZ.out, World.cell?_alloc_past _ _ _ hblt]; exact cr1
                  clear cr1
                  cases hR : R i'
                  · rw [hR] at cr2
                    go_wp2_with fail
                    go_meet
                    exact ⟨⟨i', rfl, HP1.out, fun _ => hR⟩, rfl⟩
                  · rw [hR] at cr2
                    go_wp2_with fail
                    go_round
                    case rel => exact ⟨i' + 1, by go_num, HP1.out.step hl1 hR⟩
                    case measure => simp [intOf]; omega
                · have hl1' : (la : Int) ≤ (i' : Int) := by omega
                  go_wp2_with fail
                  go_meet
                  exact ⟨⟨i', rfl, HP1.out, fun h => absurd h hl1⟩, rfl⟩
            case rest =>
              obtain ⟨⟨i', rfl, hp1, hq1⟩, rfl⟩ := hcut
              have HP1 := hide hp1
              have HQ1 := hide hq1
              clear hp1 hq1
              go_upto_block 4 with fail
              go_cut [12] from 28 to 100 (fun x wx => (∃ j' : Nat, x = .int .i64 j' ∧ Past D lb j j' ∧ (j' < lb → D j' = false)) ∧ wx = wc)
              case first => as_aux_lemma =>
                go_wp2_with fail
                go_loop [12] (fun x => ∃ j' : Nat, x = .int .i64 j' ∧ Past D lb j j') (fun x => lb - (intOf x).toNat)
                case atStart => exact ⟨j, rfl, Past.zero _ _ _ (by omega)⟩
                case round =>
                  obtain ⟨j', rfl, hp⟩ := hrel
                  have HP2 := hide hp
                  have hjl := hp.hi
                  clear hp
                  by_cases hl1 : j' < lb
                  · have hl1' : (j' : Int) < (lb : Int) := by omega
                    obtain ⟨br, or_, rfl, cr1, hblt⟩ := HDC.out j' hl1
                    have cr2 : wc.cell? ⟨br, or_ + j', none⟩ = some (.bool (D j')) := by
                      rw [HWZ.out, World.cell?_alloc_past _ _ _ hblt]; exact cr1
                    clear cr1
                    cases hR : D j'
                    · rw [hR] at cr2
                      go_wp2_with fail
                      go_meet
                      exact ⟨⟨j', rfl, HP2.out, fun _ => hR⟩, rfl⟩
                    · rw [hR] at cr2
                      go_wp2_with fail
                      go_round
                      case rel => exact ⟨j' + 1, by go_num, HP2.out.step hl1 hR⟩
                      case measure => simp [intOf]; omega
                  · have hl1' : (lb : Int) ≤ (j' : Int) := by omega
                    go_wp2_with fail
                    go_meet
                    exact ⟨⟨j', rfl, HP2.out, fun h => absurd h hl1⟩, rfl⟩
              case rest =>
                obtain ⟨⟨j', rfl, hp2, hq2⟩, rfl⟩ := hcut
                have HP2 := hide hp2
                have HQ2 := hide hq2
                clear hp2 hq2
                have hwz := HWZ.out
                clear HWZ
                subst hwz
                have hSl : S.length ≤ 262144 := by have := seg_len S HL.out.seg; have := HL.out.gi; have := HL.out.gj; omega
                go_wp2_with (at_builtin; refine wpList_append_own_at _ rfl (.tmp 97) (.tmp 99) 61 rfl w.heap.size 63 i0 _ 4 32 Try.underlying61 hi hz0 hz1 hz2 rfl (by decide) _ _ _ rfl ((HL.out.own.alloc _).alloc _) _ 1 1 [.int .i64 (i : Int), .int .i64 (i' : Int), .int .i64 (j : Int), .int .i64 (j' : Int)] rfl rfl ?c1 ?c2 ?c3 ?c4 ?c5 ?_)
                case c1 => exact four_new _ _ _ _ _ _ _ (by rw [World.size_alloc])
                case c2 => exact four_cell _ _ _ _
                case c3 => unfold maxLen; omega
                case c4 => omega
                case c5 => rw [World.size_alloc, World.size_alloc]; omega
                intro v1 w1 hown1 hgrow1 _ hblk1
                have HB1 := hide (((HL.out.below.alloc (by omega) _).alloc (by rw [World.size_alloc]; omega) _).grown hgrow1 (by rw [World.size_alloc, World.size_alloc]; omega) (fun g hg => (HL.out.own.lt g hg).1))
                have HMV := hide (HL.out.moves HN.out HM.out HP1.out HP2.out HQ1.out HQ2.out)
                have HL2 := hide (HL.out.change HP1.out HP2.out HQ1.out HQ2.out HMV.out hown1 HB1.out)
                clear hown1 hgrow1 hblk1
                have hpi := HP1.out.le
                have hpj := HP2.out.le
                have hpi2 := HP1.out.hi
                have hpj2 := HP2.out.hi
                go_wp2_with fail
                go_roundg ((la - i') + (lb - j'))
                case measure => have := HG.out; have := HMV.out; omega
                case rel => exact ⟨i', j', 0, _, rfl, rfl, rfl, HL2.out⟩
          · have hlk : i < la ∧ j < lb ∧ R i = false ∧ D j = false := of_decide_eq_true HLK.out.symm
            have HLO := hide (HL.out.lock hlk.1 hlk.2.1 hlk.2.2.1 hlk.2.2.2)
            have hil := hlk.1
            have hjl := hlk.2.1
            clear hlk HLK
            go_wp2_with fail
            go_roundg ((la - (i + 1)) + (lb - (j + 1)))
            case measure => have := HG.out; omega
            case rel => exact ⟨i + 1, j + 1, gp + 1, S, rfl, by go_num, by go_num, HLO.out⟩
    · have hila : la = i := by omega
      have hjlb : lb = j := by omega
      subst hila hjlb
      clear HRC HDC hmore HG HC RR RD
      obtain ⟨aC, cC, rfl, hcc, hcm, hrc, hlo⟩ := own_rdc HL.out.own
      have hSl : S.length ≤ 262144 := by have := seg_len S HL.out.seg; have := HL.out.gi; have := HL.out.gj; omega
      obtain ⟨w0, hw0⟩ : ∃ w0, w0 = wr := ⟨_, rfl⟩
      have HLO : Hid (∀ b o, aC = some ⟨b, o, none⟩ → b < wr.heap.size) := fun b o e => (HL.out.own.lt b (by rw [e]; rfl)).2
      obtain ⟨wb, hwb⟩ : ∃ wb, wb = wr.heap.size := ⟨_, rfl⟩
      have HL2 : Hid (L2 A B R D la lb gp S w wb (wr.alloc (.cells #[] 45)) aC (.slice (some ⟨wr.heap.size, 0, none⟩) 0 0) 0 0 0 S []) :=
        ⟨hrc.below ((Below.refl _ _).alloc (Nat.le_refl _) _), HL.out.seg, Or.inl ⟨rfl, rfl, rfl⟩, fun hs' rest h => h, ⟨[], trivial, World.ownsRow_made _ #[] 0 (by omega) (by unfold maxLen; omega) rfl⟩, HL.out.below.alloc hbw _, by rw [hwb]; exact HLO.out, by omega, by rw [World.size_alloc]; omega, by omega, by simp⟩
      have HWB := hide hwb
      clear hrc hlo hwb HLO
      go_wp2_with fail
      go_loopg [10, 14, 15] S.length (fun g vc v sh wx => ∃ (a : Option Addr) (c i j cp s : Nat) (T : List Tr) (hs : List Hk), s = i + cp ∧ g = T.length ∧ vc = .slice a T.length c ∧ T.length ≤ c ∧ c ≤ cC ∧ sh = .int .i64 (s : Int) ∧ L2 A B R D la lb gp S w wb wx a v i j cp T hs)
      case atStart => exact ⟨_, _, 0, 0, 0, 0, S, [], rfl, rfl, rfl, hcc, Nat.le_refl _, rfl, HL2.out⟩
      case round =>
        obtain ⟨aT, cT, i, j, cp, sh, T, hs, hsh, hg, rfl, hct, hct2, rfl, hK⟩ := hrel
        have HG := hide hg
        have HK := hide hK
        clear hg hK HL2
        cases T with
        | nil =>
          have hf := hide (HK.out.cont [] _ (HOK.nil i j cp))
          have hcpl := HK.out.cpl
          have hsl : sh ≤ la := by omega
          have HSH := hide hsh
          clear hsh
          go_wp2_with fail
          go_ret2
          exact ⟨S, gp, hs, la - (i + cp), _, ret_pair (by have := HSH.out; omega), HL.out.seg, HL.out.gi, HL.out.gj, HL.out.gap, HL.out.tl, by simpa using hf.out, hat_mono HK.out.at_ HK.out.wb1, HK.out.below⟩
        | cons t T =>
          obtain ⟨bT, oT, hcell0⟩ : ∃ b o, aT = some ⟨b, o, none⟩ ∧ ∀ k x, (nums i j (t :: T))[k]? = some x → wr.cell? ⟨b, o + k, none⟩ = some (.int .i64 x) := HK.out.rd (by simp)
          obtain ⟨rfl, hcell⟩ := hcell0
          have HCE := hide hcell
          have HSH := hide hsh
          clear hsh
          clear hcell
          go_upto_block 8 with fail
          obtain ⟨N, hN⟩ : ∃ N, T.length + 1 = N := ⟨_, rfl⟩
          have hN2 : (t :: T).length = N := by rw [← hN]; rfl
          rw [hN2]
          rw [hN2] at hct
          have HN := hide hN
          clear hN hN2
          have hNb : N ≤ 262144 := by have := HK.out.num; have := HN.out; simp only [List.length_cons] at *; omega
          go_cut [16] from 102 to 232 (fun x wx => (∃ (rr U : List Tr) (k : Nat), T = rr ++ U ∧ k = rr.length + 1 ∧ x = .int .i64 (k : Int) ∧ (∀ y ∈ rr, y.g ≤ 6) ∧ ∀ y U', U = y :: U' → 7 ≤ y.g) ∧ Below wr.heap.size wr wx)
          case first => as_aux_lemma =>
            go_wp2_with fail
            go_loopw [16] (fun x wx => ∃ (rr U : List Tr) (k : Nat), T = rr ++ U ∧ k = rr.length + 1 ∧ x = .int .i64 (k : Int) ∧ (∀ y ∈ rr, y.g ≤ 6) ∧ Below wr.heap.size wr wx) (fun x _ => N - (intOf x).toNat)
            case atStart => exact ⟨[], T, 1, rfl, rfl, rfl, fun y hy => absurd hy (by simp), Below.refl _ _⟩
            case round =>
              obtain ⟨rr, U, k, hT, hk, rfl, hle, hbw5⟩ := hrel
              have HB5 := hide hbw5
              have HKK := hide hk
              have HLE := hide hle
              have HT := hide hT
              have hTl : k + U.length = N := by have := HN.out; rw [HT.out] at this; simp only [List.length_append] at this; omega
              clear hle hT hk hbw5
              cases U with
              | nil =>
                have hnl : (N : Int) ≤ (k : Int) := by simp only [List.length_nil] at hTl; omega
                have hd1 : decide ((k : Int) < (N : Int)) = false := decide_eq_false (by omega)
                have hd2 : decide (k < N) = false := decide_eq_false (by omega)
                clear hTl
                go_wp2_with fail
                go_quiet (fail)
                go_wp2_with fail
                go_meet
                exact ⟨⟨rr, [], k, HT.out, HKK.out, rfl, HLE.out, fun y U' h => by cases h⟩, below_drewN HB5.out _⟩
              | cons y U =>
                have hnl : (k : Int) < (N : Int) := by simp only [List.length_cons] at hTl; omega
                have hk0 : 1 ≤ k := by rw [HKK.out]; omega
                have hca := HCE.out
                rw [HT.out] at hca
                obtain ⟨c1, _, _, _⟩ := RdC.at (S := t :: rr) (t := y) (T := U) hca
                obtain ⟨c2, _⟩ := last_cells (S := t :: rr) (T := y :: U) (by simp) hca
                rw [show (t :: rr).length = k from HKK.out.symm] at c1 c2
                clear hca
                have hgb : endA i (t :: rr) + y.g ≤ 131072 := by
                  have e1 := (HK.out.seg.ends).1
                  rw [HT.out, ← List.cons_append, endA_append] at e1
                  have e2 := endA_le U (endA i (t :: rr) + y.g + y.d)
                  simp only [endA] at e1 e2 ⊢; omega
                have c1' := (HB5.out.cell (World.block_lt_of_cell? _ _ c1)).trans c1
                have c2' := (HB5.out.cell (World.block_lt_of_cell? _ _ c2)).trans c2
                rw [show 4 * k = k * 4 from by omega] at c1'
                rw [← Nat.add_assoc, show 4 * (k - 1) = (k - 1) * 4 from by omega] at c2'
                clear c1 c2
                generalize endA i (t :: rr) = x at c1' c2' hgb
                have HY := hide (rfl : y.g = y.g)
                obtain ⟨yg, hyg⟩ : ∃ yg, y.g = yg := ⟨_, rfl⟩
                rw [hyg] at c1' hgb
                have HYG := hide hyg
                clear hyg HY
                by_cases h6 : yg ≤ 6
                · have h6' : (yg : Int) ≤ 6 := by omega
                  clear h6
                  go_upto_region 17 with fail
                  go_quiet (fail)
                  go_wp2_with fail
                  go_roundw
                  case rel => exact ⟨rr ++ [y], U, k + 1, by rw [HT.out]; simp, by rw [HKK.out]; simp, by go_num, fun z hz => by
                    simp only [List.mem_append, List.mem_singleton] at hz
                    rcases hz with hz | rfl
                    · exact HLE.out z hz
                    · rw [HYG.out]; omega, below_drewN HB5.out _⟩
                  case measure => simp [intOf]; omega
                · have h6' : decide ((yg : Int) ≤ 6) = false := decide_eq_false (by omega)
                  go_upto_region 17 with fail
                  go_quiet (fail)
                  go_wp2_with fail
                  go_meet
                  exact ⟨⟨rr, y :: U, k, HT.out, HKK.out, rfl, HLE.out, fun z U' h => by simp only [List.cons.injEq] at h; rw [← h.1, HYG.out]; omega⟩, below_drewN HB5.out _⟩
          case rest =>
            obtain ⟨⟨rr, U, k, hT, hk, rfl, hle, hge⟩, hb5⟩ := hcut
            have HT := hide hT
            have HKK := hide hk
            have HLE := hide hle
            have HGE := hide hge
            have hkN : k + U.length = N := by have := HN.out; rw [HT.out] at this; simp only [List.length_append] at this; omega
            have hk0 : 1 ≤ k := by rw [HKK.out]; omega
            have HCX : Hid (∀ k x, (nums i j (t :: rr ++ U))[k]? = some x → wc.cell? ⟨bT, oT + k, none⟩ = some (.int .i64 x)) := by
              intro k x hx
              have := HCE.out k x (by rw [HT.out]; exact hx)
              exact (hb5.cell (World.block_lt_of_cell? _ _ this)).trans this
            have HAX := hide (HK.out.at_.below hb5)
            have HBX := hide (HK.out.below.trans (hb5.mono HK.out.below.size))
            have HW5 := hide (Nat.le_trans HK.out.wb2 hb5.size)
            clear hT hk hle hge hb5 HCE
            have HRU : Hid (RdC wc (if cT = k then some ⟨bT, oT, none⟩ else some ⟨bT, oT + k * 4, none⟩) (endA i (t :: rr)) (endB j (t :: rr)) U) := by
              by_cases e : cT = k
              · intro h0
                exact absurd (List.eq_nil_of_length_eq_zero (by omega)) h0
              · rw [if_neg e, show k * 4 = 4 * (t :: rr).length from by rw [HKK.out]; simp only [List.length_cons]; omega]
                exact RdC.drop HCX.out
            have HLU : Hid (∀ b o, (if cT = k then (some ⟨bT, oT, none⟩ : Option Addr) else some ⟨bT, oT + k * 4, none⟩) = some ⟨b, o, none⟩ → b < wb) := by
              intro b o e
              have := HK.out.lo bT oT rfl
              split at e
              · simp only [Option.some.injEq, Addr.mk.injEq] at e; omega
              · simp only [Option.some.injEq, Addr.mk.injEq] at e; omega
            go_upto_region 21 with fail
            generalize (if cT = k then (some ⟨bT, oT, none⟩ : Option Addr) else some ⟨bT, oT + k * 4, none⟩) = aU at HRU HLU ⊢
            have f0 := HCX.out 0 _ rfl
            have f1 := HCX.out 1 _ rfl
            have f2 := HCX.out 2 _ rfl
            have f3 := HCX.out 3 _ rfl
            have hbt := World.block_lt_of_cell? _ _ f0
            simp only [Nat.add_zero] at f0
            obtain ⟨p0, hp0⟩ : ∃ p0, i + t.g = p0 := ⟨_, rfl⟩
            obtain ⟨p1, hp1⟩ : ∃ p1, i + t.g + t.d = p1 := ⟨_, rfl⟩
            obtain ⟨q0, hq0⟩ : ∃ q0, j + t.g = q0 := ⟨_, rfl⟩
            obtain ⟨q1, hq1⟩ : ∃ q1, j + t.g + t.e = q1 := ⟨_, rfl⟩
            obtain ⟨I, tt, hIt⟩ : ∃ I tt, t :: rr = I ++ [tt] := ⟨(t :: rr).dropLast, (t :: rr).getLast (by simp), (List.dropLast_concat_getLast (by simp)).symm⟩
            have hcx := HCX.out
            rw [hIt, List.append_assoc] at hcx
            obtain ⟨l0, l1, l2, l3⟩ := RdC.at (S := I) (t := tt) (T := U) hcx
            clear hcx
            have hIl : I.length = k - 1 := by
              have := congrArg List.length hIt
              simp only [List.length_cons, List.length_append, List.length_nil] at this
              have := HKK.out; omega
            have hxe : endA i (t :: rr) = endA i I + tt.g + tt.d := by rw [hIt, endA_append]; rfl
            have hye : endB j (t :: rr) = endB j I + tt.g + tt.e := by rw [hIt, endB_append]; rfl
            rw [hIl, ← Nat.add_assoc, show 4 * (k - 1) = (k - 1) * 4 from by omega] at l1 l2 l3
            rw [hIl, show 4 * (k - 1) = (k - 1) * 4 from by omega] at l0
            rw [hp0] at f0
            rw [hp1] at f1
            rw [hq0] at f2
            rw [hq1] at f3
            rw [← hxe] at l1
            rw [← hye] at l3
            generalize endA i I + tt.g = z0 at l0
            generalize endB j I + tt.g = z2 at l2
            obtain ⟨x, hx⟩ : ∃ x, endA i (t :: rr) = x := ⟨_, rfl⟩
            obtain ⟨y, hy⟩ : ∃ y, endB j (t :: rr) = y := ⟨_, rfl⟩
            rw [hx] at l1
            rw [hy] at l3
            have HX := hide hx
            have HY := hide hy
            have HP0 := hide hp0
            have HP1 := hide hp1
            have HQ0 := hide hq0
            have HQ1 := hide hq1
            clear hx hy hxe hye hIl hIt hp0 hp1 hq0 hq1
            go_cut [18, 19] from 132 to 140 (fun u v wx => Two p0 q0 x y wc u v wx)
            case first =>
              go_region
              · go_simp
                go_wp2_with fail
                go_meet
                exact ⟨_, _, rfl, rfl, by simp, by simp, by simp, by simp, (((Below.refl _ _).alloc (Nat.le_refl _) _).alloc (by rw [World.size_alloc]; omega) _).drew⟩
              · go_simp
                go_wp2_with fail
                go_meet
                exact ⟨_, _, rfl, rfl, by simp, by simp, by simp, by simp, (((Below.refl _ _).alloc (Nat.le_refl _) _).alloc (by rw [World.size_alloc]; omega) _).drew⟩
            case rest =>
              obtain ⟨g1, g2, rfl, rfl, r0, r2, s1, s3, hb6⟩ := hcut
              have hbnd : p0 ≤ x ∧ q0 ≤ y ∧ x + gp ≤ la ∧ y + gp ≤ lb ∧ x ≤ la := by
                have e1 := (HK.out.seg.ends).1
                have e2 := (HK.out.seg.ends).2
                rw [HT.out, ← List.cons_append, endA_append, HX.out] at e1
                rw [HT.out, ← List.cons_append, endB_append, HY.out] at e2
                have e3 := endA_le U x
                have e4 := endB_le U y
                have e5 := endA_le rr p1
                have e6 := endB_le rr q1
                have e7 : endA p1 rr = x := by rw [← HP1.out]; exact HX.out
                have e8 : endB q1 rr = y := by rw [← HQ1.out]; exact HY.out
                have := HL.out.gi
                have := HL.out.gj
                have := HP0.out
                have := HP1.out
                have := HQ0.out
                have := HQ1.out
                omega
              have HCX2 : Hid (∀ k x, (nums i j (t :: rr ++ U))[k]? = some x → wc.cell? ⟨bT, oT + k, none⟩ = some (.int .i64 x)) := fun k x hx => (hb6.cell (World.block_lt_of_cell? _ _ (HCX.out k x hx))).trans (HCX.out k x hx)
              have HRU2 := hide (HRU.out.below hb6)
              have HAX2 := hide (HAX.out.below hb6)
              have HBX2 := hide (HBX.out.trans (hb6.mono HBX.out.size))
              have HWX := hide (Nat.le_trans HW5.out hb6.size)
              clear HW5
              have hg1 := World.block_lt_of_cell? _ _ r0
              have hg2 := World.block_lt_of_cell? _ _ s1
              simp only at hg1 hg2
              clear HCX HRU HAX HBX hb6 f0 f1 f2 f3 l0 l1 l2 l3
              obtain ⟨c, hc⟩ : ∃ c, c = min t.g 3 := ⟨_, rfl⟩
              obtain ⟨c', hc'⟩ : ∃ c', c' = min 3 (la - x) := ⟨_, rfl⟩
              obtain ⟨A0, hA0⟩ : ∃ A0, A0 = p0 - c := ⟨_, rfl⟩
              obtain ⟨A1, hA1⟩ : ∃ A1, A1 = x + c' := ⟨_, rfl⟩
              obtain ⟨B0, hB0⟩ : ∃ B0, B0 = q0 - c := ⟨_, rfl⟩
              obtain ⟨B1, hB1⟩ : ∃ B1, B1 = y + c' := ⟨_, rfl⟩
              have hcp0 : c ≤ p0 ∧ c ≤ q0 ∧ c ≤ t.g := by have := HP0.out; have := HQ0.out; omega
              have HMAX : Hid ((if (p0 : Int) - 3 < 0 then 0 else (p0 : Int) - 3) = (A0 : Int)) := by
                show (if (p0 : Int) - 3 < 0 then 0 else (p0 : Int) - 3) = (A0 : Int)
                have h1 := HP0.out
                rcases HK.out.head with ⟨e1, e2, _⟩ | ⟨_, h7⟩
                · split <;> omega
                · have := h7 t T rfl; split <;> omega
              have HMIN : Hid ((if (la : Int) < (x : Int) + 3 then (la : Int) else (x : Int) + 3) = (A1 : Int)) := by
                show (if (la : Int) < (x : Int) + 3 then (la : Int) else (x : Int) + 3) = (A1 : Int)
                split <;> omega
              have hb0 : (A0 : Int) + (q0 : Int) - (p0 : Int) = (B0 : Int) := by omega
              have hb1 : (A1 : Int) + (y : Int) - (x : Int) = (B1 : Int) := by omega
              have hbA : A0 ≤ 131072 ∧ A1 ≤ 131072 ∧ p0 ≤ 131072 ∧ q0 ≤ 131072 ∧ x ≤ 131072 ∧ y ≤ 131072 := by omega
              obtain ⟨bA0, bA1, bp0, bq0, bx, bY⟩ := hbA
              have HC := hide hc
              have HC' := hide hc'
              have HA0 := hide hA0
              have HA1 := hide hA1
              have HB0 := hide hB0
              have HB1 := hide hB1
              have HBN := hide hbnd
              have HCP := hide hcp0
              clear hc hc' hA0 hA1 hB0 hB1 hbnd hcp0
              go_upto_region 22 with fail
              go_cut [20, 21] from 102 to 232 (fun v20 v21 wx => v20 = .int .i64 (A0 : Int) ∧ v21 = .int .i64 (A1 : Int) ∧ Below wc.heap.size wc wx)
              case first => as_aux_lemma =>
                go_region
                rw [HMAX.out, HMIN.out]
                go_simp
                go_wp2_with fail
                go_meet
                exact ⟨rfl, rfl, (Below.refl _ _).drew⟩
              case rest =>
                obtain ⟨rfl, rfl, hb7⟩ := hcut
                have r0' := (hb7.cell hg1).trans r0
                have r2' := (hb7.cell hg1).trans r2
                have s1' := (hb7.cell hg2).trans s1
                have s3' := (hb7.cell hg2).trans s3
                clear HMAX HMIN
                go_upto_region 23 with fail
                go_cut [22, 23] from 102 to 232 (fun v22 v23 wx => v22 = .int .i64 (B0 : Int) ∧ v23 = .int .i64 (B1 : Int) ∧ Below wc.heap.size wc wx)
                case first => as_aux_lemma =>
                  go_quiet (fail)
                  go_wp2_with fail
                  go_meet
                  exact ⟨by rfl, by rfl, below_drewN (Below.refl _ _) _⟩
                case rest =>
                  obtain ⟨rfl, rfl, hb8⟩ := hcut
                  clear hg1 hg2 r0 r2 s1 s3 r0' r2' s1' s3' hb0 hb1
                  have HCX3 : Hid (∀ k x, (nums i j (t :: rr ++ U))[k]? = some x → wc.cell? ⟨bT, oT + k, none⟩ = some (.int .i64 x)) := fun k x hx => by
                    have e := (hb7.cell (World.block_lt_of_cell? _ _ (HCX2.out k x hx))).trans (HCX2.out k x hx)
                    exact (hb8.cell (World.block_lt_of_cell? _ _ e)).trans e
                  have HRU3 := hide ((HRU2.out.below hb7).below hb8)
                  have HAX3 := hide ((HAX2.out.below hb7).below hb8)
                  have HBX3 := hide ((HBX2.out.trans (hb7.mono HBX2.out.size)).trans (hb8.mono (Nat.le_trans HBX2.out.size hb7.size)))
                  have HWW := hide (Nat.le_trans HWX.out (Nat.le_trans hb7.size hb8.size))
                  clear HCX2 HRU2 HAX2 HBX2 hb7 hb8 HWX
                  obtain ⟨OL, hOL⟩ : ∃ OL, OL = A1 - A0 := ⟨_, rfl⟩
                  obtain ⟨NL, hNL⟩ : ∃ NL, NL = B1 - B0 := ⟨_, rfl⟩
                  obtain ⟨UB, hUB⟩ : ∃ UB, UB = A0 - sh := ⟨_, rfl⟩
                  have hord : A0 ≤ A1 ∧ B0 ≤ B1 ∧ sh ≤ A0 ∧ B0 ≤ 131072 ∧ B1 ≤ 131075 := by
                    have h1 := HBN.out
                    have h2 := HCP.out
                    have h3 := HA0.out
                    have h4 := HA1.out
                    have h5 := HB0.out
                    have h6 := HB1.out
                    have h7 := HC.out
                    have h8 := HC'.out
                    have h9 := HP0.out
                    have h10 := HSH.out
                    refine ⟨by omega, by omega, ?_, by omega, by omega⟩
                    rcases HK.out.head with ⟨e1, e2, e3⟩ | ⟨e3, h7⟩
                    · omega
                    · have := h7 t T rfl; omega
                  have f1 : (A1 : Int) - (A0 : Int) = (OL : Int) := by omega
                  have f2 : (B1 : Int) - (B0 : Int) = (NL : Int) := by omega
                  have f3 : (A0 : Int) - (sh : Int) = (UB : Int) := by omega
                  have HOL := hide hOL
                  have HNL := hide hNL
                  have HUB := hide hUB
                  have HORD := hide hord
                  obtain ⟨_, _, _, bB0, bB1⟩ := hord
                  clear hOL hNL hUB
                  go_upto_block 10 with (go_at_call 31; refine (start_any _ _ _ (by omega) (by omega)).mono ?_; rintro e w' ⟨rfl, rfl⟩)
                  obtain ⟨OS, hOS⟩ : ∃ OS, OS = HunkMath.start A0 A1 := ⟨_, rfl⟩
                  obtain ⟨NS, hNS⟩ : ∃ NS, NS = HunkMath.start B0 B1 := ⟨_, rfl⟩
                  rw [← hOS, ← hNS]
                  have HOS := hide hOS
                  have HNS := hide hNS
                  have HL6 := hide (L6.new w' OS OL NS NL UB)
                  clear hOS hNS f1 f2 f3
                  generalize hwz : w'.alloc _ = wz at HL6 ⊢
                  clear hwz
                  have hA0p : i + t.g - c = A0 := by rw [HP0.out, HA0.out]
                  have HA0P := hide hA0p
                  clear hA0p
                  go_cut [25] from 102 to 232 (fun v25 wx => v25 = .int .i64 (x : Int) ∧ L6E w' OS OL NS NL UB (hpart A B i j c (t :: rr)) wx)
                  case first =>
                    go_wp2_with fail
                    go_loopg [25, 184] (t :: rr).length (fun g v25 v184 wx => ∃ (P Q : List Tr) (m at_ : Nat), t :: rr = P ++ Q ∧ g = Q.length ∧ m = P.length ∧ v184 = .int .i64 (m : Int) ∧ at_ = atp i c t P ∧ v25 = .int .i64 (at_ : Int) ∧ L6E w' OS OL NS NL UB (hpart A B i j c P) wx)
                    case atStart => exact ⟨[], t :: rr, 0, A0, rfl, rfl, rfl, rfl, HA0P.out.symm, rfl, ⟨_, HL6.out⟩⟩
                    case round =>
                      obtain ⟨P, Q, m, at_, hPQ, hg, hm, rfl, hat, rfl, hL⟩ := hrel
                      have HG6 := hide hg
                      have HPQ := hide hPQ
                      have HM := hide hm
                      have HAT := hide hat
                      have HLL := hide hL
                      have hmk : m + Q.length = k := by
                        have := congrArg List.length hPQ
                        simp only [List.length_cons, List.length_append] at this
                        have := HKK.out; omega
                      clear hg hPQ hm hat hL HL6
                      cases Q with
                      | nil =>
                        have hd1 : (k : Int) ≤ (m : Int) := by simp only [List.length_nil] at hmk; omega
                        clear hmk
                        go_wp2_with fail
                        go_meet
                        have hP : t :: rr = P := by rw [HPQ.out, List.append_nil]
                        have hx' : at_ = x := by rw [HAT.out, ← hP, ← HX.out]; rfl
                        exact ⟨by rw [hx'], by rw [hP]; exact HLL.out⟩
                      | cons s Q =>
                        have hd1 : (m : Int) < (k : Int) := by simp only [List.length_cons] at hmk; omega
                        have hcx := HCX3.out
                        rw [HPQ.out, List.append_assoc, List.cons_append] at hcx
                        obtain ⟨k0, k1, k2, k3⟩ := RdC.at (S := P) (t := s) (T := Q ++ U) hcx
                        clear hcx
                        obtain ⟨vl, hL⟩ := HLL.out
                        have hbl := hL.below
                        have l0 := (hbl.cell (World.block_lt_of_cell? _ _ k0)).trans k0
                        have l1 := (hbl.cell (World.block_lt_of_cell? _ _ k1)).trans k1
                        have l2 := (hbl.cell (World.block_lt_of_cell? _ _ k2)).trans k2
                        have l3 := (hbl.cell (World.block_lt_of_cell? _ _ k3)).trans k3
                        clear k0 k1 k2 k3
                        rw [← HM.out, ← Nat.add_assoc, show 4 * m = m * 4 from by omega] at l1 l2 l3
                        rw [← HM.out, show 4 * m = m * 4 from by omega] at l0
                        obtain ⟨n0, hn0⟩ : ∃ n0, endA i P + s.g = n0 := ⟨_, rfl⟩
                        obtain ⟨n2, hn2⟩ : ∃ n2, endB j P + s.g = n2 := ⟨_, rfl⟩
                        obtain ⟨n1, hn1⟩ : ∃ n1, n0 + s.d = n1 := ⟨_, rfl⟩
                        obtain ⟨n3, hn3⟩ : ∃ n3, n2 + s.e = n3 := ⟨_, rfl⟩
                        rw [hn0] at l0
                        rw [hn0, hn1] at l1
                        rw [hn2] at l2
                        rw [hn2, hn3] at l3
                        obtain ⟨gap, hgap, hstep, hnext⟩ := part_step A B i j c t s rr P Q HPQ.out HCP.out.2.2
                        have hbd : endA i P + s.g + s.d ≤ x ∧ endB j P + s.g + s.e ≤ y := by
                          have e1 := HX.out
                          have e2 := HY.out
                          rw [HPQ.out, endA_append] at e1
                          rw [HPQ.out, endB_append] at e2
                          have e3 := endA_le Q (endA i P + s.g + s.d)
                          have e4 := endB_le Q (endB j P + s.g + s.e)
                          simp only [endA, endB] at e1 e2; omega
                        have hxl := HBN.out
                        have hpl := part_len A B i j c t P (s :: Q) rr HPQ.out HCP.out.2.2
                        rw [← HAT.out] at hgap hstep
                        rw [hn0, hn2] at hstep
                        rw [hn0] at hgap
                        rw [hn0, hn1] at hnext
                        have hnn : at_ ≤ n0 ∧ n0 ≤ n1 ∧ n1 ≤ la ∧ n2 ≤ n3 ∧ n3 ≤ lb ∧ n0 - at_ = gap ∧ n1 - n0 = s.d ∧ n3 - n2 = s.e ∧ (hpart A B i j c P).length ≤ 262144 := by omega
                        have HSTEP := hide hstep
                        have HNEXT := hide hnext
                        have HNN := hide hnn
                        have hn1b : n0 ≤ 131072 ∧ n1 ≤ 131072 ∧ n2 ≤ 131072 ∧ n3 ≤ 131072 ∧ at_ ≤ n0 ∧ n0 ≤ n1 ∧ n2 ≤ n3 := by omega
                        obtain ⟨bn0, bn1, bn2, bn3, ban, bnn, bnn2⟩ := hn1b
                        clear hgap hstep hnext hbd hxl hpl hn0 hn1 hn2 hn3 hnn HLL
                        have HL := hide hL
                        clear hL hbl
                        go_upto_region 29 with fail
                        have HCH := hide (ch_new wr n0 n1 n2 n3)
                        have HL2 := hide (HL.out.alloc (.cells #[.int .i64 (n0 : Int), .int .i64 (n1 : Int), .int .i64 (n2 : Int), .int .i64 (n3 : Int)] 63))
                        generalize hwy : wr.alloc _ = wy at HCH HL2 ⊢
                        clear hwy l0 l1 l2 l3 HL
                        generalize hgc : wr.heap.size = gc at HCH ⊢
                        clear hgc
                        go_cut [25] from 185 to 219 (fun v25 wx => v25 = .int .i64 (at_ : Int) ∧ L6C w' OS OL NS NL UB (hpart A B i j c P ++ run 32 A at_ (n0 - at_)) gc n0 n1 n2 n3 wx)
                        case first =>
                          have e5 : wy.cell? ⟨w'.heap.size, 5, none⟩ = some vl := HL2.out.row.cell (i := 5) (by omega)
                          have e0 : wy.cell? ⟨gc, 0, none⟩ = some (.int .i64 (n0 : Int)) := HCH.out.cell (i := 0) (by omega)
                          have hca : n0 ≤ ca := by have := HNN.out; have := KA.out; omega
                          have HMK := hide (HL2.out.drew.mark 32 A a la ca at_ n0 w.heap.size (by omega) ((RA.out.below HBX3.out).below HL2.out.drew.below) (by omega) (by have := HNN.out; omega) KA.out m1 BA.out HBX3.out.size S1.out (by have := HNN.out; omega))
                          go_region_with (go_at_call 26; refine HMK.out.mono ?_; rintro e w2 ⟨a4, n4, c4, rfl, q5, ⟨u5, q6⟩, HO⟩; generalize (if ca = at_ then a else a.map fun x => x.add at_) = aS)
                          all_goals as_aux_lemma =>
                            go_step
                            go_step
                            go_meet
                            exact ⟨rfl, _, HO.out.l6, HO.out.ch _ _ _ _ _ HCH.out.drew⟩
                        case rest =>
                          obtain ⟨rfl, vl3, hL3, hch3⟩ := hcut
                          have HL3 := hide hL3
                          have HCH3 := hide hch3
                          clear hL3 hch3 HL2 HCH
                          go_upto_region 30 with fail
                          go_cut [25] from 185 to 219 (fun v25 wx => v25 = .int .i64 (at_ : Int) ∧ L6C w' OS OL NS NL UB (hpart A B i j c P ++ run 32 A at_ (n0 - at_) ++ run 45 A n0 (n1 - n0)) gc n0 n1 n2 n3 wx)
                          case first =>
                            have e5 : wc.cell? ⟨w'.heap.size, 5, none⟩ = some vl3 := HL3.out.row.cell (i := 5) (by omega)
                            have e0 : wc.cell? ⟨gc, 0, none⟩ = some (.int .i64 (n0 : Int)) := HCH3.out.cell (i := 0) (by omega)
                            have e1 : wc.cell? ⟨gc, 1, none⟩ = some (.int .i64 (n1 : Int)) := HCH3.out.cell (i := 1) (by omega)
                            have hca : n1 ≤ ca := by have := HNN.out; have := KA.out; omega
                            have HMK := hide (HL3.out.drew.mark 45 A a la ca n0 n1 w.heap.size (by omega) ((RA.out.below HBX3.out).below HL3.out.drew.below) (by omega) (by have := HNN.out; omega) KA.out m1 BA.out HBX3.out.size S1.out (by have := HNN.out; simp only [List.length_append, run_len]; omega))
                            go_region_with (go_at_call 26; refine HMK.out.mono ?_; rintro e w2 ⟨a4, n4, c4, rfl, q5, ⟨u5, q6⟩, HO⟩; generalize (if ca = n0 then a else a.map fun x => x.add n0) = aS)
                            all_goals as_aux_lemma =>
                              go_step
                              go_step
                              go_meet
                              exact ⟨rfl, _, HO.out.l6, HO.out.ch _ _ _ _ _ HCH3.out.drew⟩
                          case rest =>
                            obtain ⟨rfl, vl4, hL4, hch4⟩ := hcut
                            have HL4 := hide hL4
                            have HCH4 := hide hch4
                            clear hL4 hch4 HL3 HCH3
                            go_upto_region 31 with fail
                            go_cut [25] from 185 to 219 (fun v25 wx => v25 = .int .i64 (at_ : Int) ∧ L6C w' OS OL NS NL UB (hpart A B i j c P ++ run 32 A at_ (n0 - at_) ++ run 45 A n0 (n1 - n0) ++ run 43 B n2 (n3 - n2)) gc n0 n1 n2 n3 wx)
                            case first =>
                              have e5 : wc.cell? ⟨w'.heap.size, 5, none⟩ = some vl4 := HL4.out.row.cell (i := 5) (by omega)
                              have e2 : wc.cell? ⟨gc, 2, none⟩ = some (.int .i64 (n2 : Int)) := HCH4.out.cell (i := 2) (by omega)
                              have e3 : wc.cell? ⟨gc, 3, none⟩ = some (.int .i64 (n3 : Int)) := HCH4.out.cell (i := 3) (by omega)
                              have hcb : n3 ≤ cb := by have := HNN.out; have := KB.out; omega
                              have HMK := hide (HL4.out.drew.mark 43 B b lb cb n2 n3 w.heap.size (by omega) ((RB.out.below HBX3.out).below HL4.out.drew.below) (by omega) (by have := HNN.out; omega) KB.out m2 BB.out HBX3.out.size S2.out (by have := HNN.out; simp only [List.length_append, run_len]; omega))
                              go_region_with (go_at_call 26; refine HMK.out.mono ?_; rintro e w2 ⟨a4, n4, c4, rfl, q5, ⟨u5, q6⟩, HO⟩; generalize (if cb = n2 then b else b.map fun x => x.add n2) = aS)
                              all_goals as_aux_lemma =>
                                go_step
                                go_step
                                go_meet
                                exact ⟨rfl, _, HO.out.l6, HO.out.ch _ _ _ _ _ HCH4.out.drew⟩
                            case rest =>
                              obtain ⟨rfl, vl5, hL5, hch5⟩ := hcut
                              have hL5' : L6 w' OS OL NS NL UB vl5 (hpart A B i j c (P ++ [s])) wc := by
                                rw [HSTEP.out, ← HNN.out.2.2.2.2.2.1, ← HNN.out.2.2.2.2.2.2.1, ← HNN.out.2.2.2.2.2.2.2.1]
                                exact hL5
                              have HL5 := hide hL5'
                              clear hL5'
                              have e1 : wc.cell? ⟨gc, 1, none⟩ = some (.int .i64 (n1 : Int)) := hch5.cell (i := 1) (by omega)
                              clear hL5 hch5 HL4 HCH4
                              go_wp2_with fail
                              go_roundg Q.length
                              case measure => have := HG6.out; simp only [List.length_cons] at this; omega
                              case rel => exact ⟨P ++ [s], Q, m + 1, n1, by rw [HPQ.out]; simp, rfl, by rw [HM.out]; simp, by go_num, HNEXT.out.symm, rfl, ⟨_, HL5.out⟩⟩
                  case rest =>
                    obtain ⟨rfl, vl6, hL6⟩ := hcut
                    have HL6b := hide hL6
                    clear hL6 HL6
                    have hxa : x ≤ A1 ∧ A1 ≤ la ∧ A1 - x = c' := by have := HA1.out; have := HC'.out; have := HBN.out; omega
                    have HXA := hide hxa
                    have hpl := part_len A B i j c t (t :: rr) [] rr (by simp) HCP.out.2.2
                    rw [HX.out, HY.out] at hpl
                    have hpl2 : (hpart A B i j c (t :: rr)).length ≤ 262144 := by have := HBN.out; omega
                    have HPL := hide hpl2
                    have hxA : x ≤ A1 := hxa.1
                    clear hxa hpl hpl2
                    go_upto_region 34 with fail
                    go_cut [25] from 102 to 232 (fun v25 wx => v25 = .int .i64 (x : Int) ∧ L6E w' OS OL NS NL UB (hpart A B i j c (t :: rr) ++ run 32 A x (A1 - x)) wx)
                    case first =>
                      have e5 : wc.cell? ⟨w'.heap.size, 5, none⟩ = some vl6 := HL6b.out.row.cell (i := 5) (by omega)
                      have hca : A1 ≤ ca := by have := HXA.out; have := KA.out; omega
                      have HMK := hide (HL6b.out.drew.mark 32 A a la ca x A1 w.heap.size (by omega) ((RA.out.below HBX3.out).below HL6b.out.drew.below) hxA HXA.out.2.1 KA.out m1 BA.out HBX3.out.size S1.out (by have := HPL.out; omega))
                      go_region_with (go_at_call 26; refine HMK.out.mono ?_; rintro e w2 ⟨a4, n4, c4, rfl, q5, ⟨u5, q6⟩, HO⟩; generalize (if ca = x then a else a.map fun z => z.add x) = aS)
                      all_goals as_aux_lemma =>
                        go_step
                        go_step
                        go_meet
                        exact ⟨rfl, _, HO.out.l6⟩
                    case rest =>
                      obtain ⟨rfl, vl7, hL7⟩ := hcut
                      obtain ⟨a7, c7, rfl, -⟩ := own_read hL7.own
                      generalize (flat (hpart A B i j c (t :: rr) ++ run 32 A x (A1 - x))).length = n7 at hL7 ⊢
                      have HL7 := hide hL7
                      have c0 : wc.cell? ⟨w'.heap.size, 0, none⟩ = some (.int .i64 (OS : Int)) := hL7.row.cell (i := 0) (by omega)
                      have c1 : wc.cell? ⟨w'.heap.size, 1, none⟩ = some (.int .i64 (OL : Int)) := hL7.row.cell (i := 1) (by omega)
                      have c2 : wc.cell? ⟨w'.heap.size, 2, none⟩ = some (.int .i64 (NS : Int)) := hL7.row.cell (i := 2) (by omega)
                      have c3 : wc.cell? ⟨w'.heap.size, 3, none⟩ = some (.int .i64 (NL : Int)) := hL7.row.cell (i := 3) (by omega)
                      have c4 : wc.cell? ⟨w'.heap.size, 4, none⟩ = some (.int .i64 (UB : Int)) := hL7.row.cell (i := 4) (by omega)
                      have c5 : wc.cell? ⟨w'.heap.size, 5, none⟩ = some (.slice a7 n7 c7) := hL7.row.cell (i := 5) (by omega)
                      have hwbw := HK.out.wb1
                      have HWBW := hide hwbw
                      clear hwbw
                      obtain ⟨vs, hln, hown⟩ := HAX3.out.below hL7.below
                      have HLN := hide hln
                      have HOWN := hide hown
                      have hbw7 : Below w.heap.size w wc := HBX3.out.trans (hL7.below.mono HBX3.out.size)
                      have HB7 := hide hbw7
                      have hsz7 : wb ≤ wc.heap.size := Nat.le_trans HWW.out hL7.below.size
                      have hnum : hs.length + 1 ≤ 262144 := by have := HK.out.num; simp only [List.length_cons] at this; omega
                      obtain ⟨i5, hi5, hz50, hz51, hz52⟩ := info_parts info45
                      have HSZ := hide hsz7
                      have HNUM := hide hnum
                      clear hL7 hln hown hbw7 hsz7 hnum HL6b
                      go_wp2_with (at_builtin; refine wpList_append_own_at _ rfl (.tmp 228) (.tmp 230) 39 rfl wb 45 i5 _ 6 64 Try.underlying39 hi5 hz50 hz51 hz52 rfl (by decide) _ _ _ rfl (HOWN.out.alloc _) _ 1 1 [.int .i64 (OS : Int), .int .i64 (OL : Int), .int .i64 (NS : Int), .int .i64 (NL : Int), .int .i64 (UB : Int), .slice a7 n7 c7] rfl rfl ?c1 ?c2 ?c3 ?c4 ?c5 ?_)
                      case c1 => exact six_new _ _ _ _ _ _ _ _ _ rfl
                      case c2 => exact six_cell _ _ _ _ _ _ _ _
                      case c3 => unfold maxLen; have := HNUM.out; omega
                      case c4 => have := HNUM.out; omega
                      case c5 => rw [World.size_alloc]; have := HSZ.out; omega
                      intro v1 w1 hown1 hgrow1 _ hblk1
                      have hsz1 := HSZ.out
                      have hwbw := HWBW.out
                      have HBE := hide (((HB7.out.alloc (by omega) _).grown hgrow1 (by rw [World.size_alloc]; omega) (fun g hg => Nat.le_trans hwbw (HOWN.out.lt g hg).1)))
                      have hx := HX.out
                      have hy := HY.out
                      have hq : j + t.g - c = B0 := by rw [HQ0.out, HB0.out]
                      have hops : (hk A B i j cp c c' t rr).ops = hpart A B i j c (t :: rr) ++ run 32 A x (A1 - x) := by
                        simp only [hk, hpart]; rw [HXA.out.2.2, hx]
                      have h1 : (hk A B i j cp c c' t rr).os = OS := by simp only [hk]; rw [hx, HA0P.out, ← HA1.out, HOS.out]
                      have h2 : (hk A B i j cp c c' t rr).ol = OL := by simp only [hk]; rw [hx, HA0P.out, ← HA1.out, HOL.out]
                      have h3 : (hk A B i j cp c c' t rr).ns = NS := by simp only [hk]; rw [hy, hq, ← HB1.out, HNS.out]
                      have h4 : (hk A B i j cp c c' t rr).nl = NL := by simp only [hk]; rw [hy, hq, ← HB1.out, HNL.out]
                      have h5 : (hk A B i j cp c c' t rr).ub = UB := by simp only [hk]; rw [HUB.out, HA0.out, ← HP0.out, HSH.out]; omega
                      have HAT1 : Hid (HAt wb w1 v1 (hs ++ [hk A B i j cp c c' t rr])) := by
                        refine push2 (lines_map (fun v n xs h => h.alloc _) hs vs HLN.out) (HOWN.out.alloc _) (vl := .slice a7 n7 c7) ?_ ?_ hgrow1
                        · rw [hops]; exact own_mono (HL7.out.own.alloc _) (by have := HWW.out; omega)
                        · rw [h1, h2, h3, h4, h5]; exact hown1
                      have HRU7 : Hid (RdC w1 aU x y U) := by
                        have r1 := HRU3.out.below HL7.out.below
                        rw [hx, hy] at r1
                        intro h0
                        obtain ⟨b9, o9, ha, hc9⟩ := r1 h0
                        have hlt := HLU.out b9 o9 ha
                        refine ⟨b9, o9, ha, fun k x hx => hgrow1.cell (by rw [World.cell?_alloc_past _ _ _ (by show b9 < wc.heap.size; omega)]; exact hc9 k x hx) ?_⟩
                        intro e
                        have := (HOWN.out.lt b9 e.symm).1
                        omega
                      have HSG : Hid (Seg R D x y U (la - gp) (lb - gp)) := by
                        have e := HK.out.seg
                        rw [HT.out, ← List.cons_append] at e
                        have e2 := seg_drop (t :: rr) e
                        rw [hx, hy] at e2
                        exact e2
                      have HCT : Hid (∀ hs' rest, HOK A B la x y c' U hs' rest → HOK A B la 0 0 0 S ((hs ++ [hk A B i j cp c c' t rr]) ++ hs') rest) := by
                        intro hs' rest h
                        rw [List.append_assoc]
                        refine HK.out.cont _ _ ?_
                        rw [HT.out]
                        exact HOK.cons i j cp c c' t rr U hs' rest HLE.out HGE.out HC.out (by rw [hx]; exact HC'.out) (by rw [hx, hy]; exact h)
                      have hul : U.length = N - k := by omega
                      have HUL := hide hul
                      have hnm := HK.out.num
                      rw [HT.out] at hnm
                      simp only [List.length_cons, List.length_append] at hnm
                      have HL2' := hide (⟨HRU7.out, HSG.out, Or.inr ⟨HC'.out, HGE.out⟩, HCT.out, HAT1.out, HBE.out, HLU.out, HWBW.out, by have := hgrow1.size; rw [World.size_alloc] at this; omega, by have := HXA.out; have := HA1.out; omega, by simp only [List.length_append, List.length_cons, List.length_nil]; omega⟩ : L2 A B R D la lb gp S w wb w1 aU v1 x y c' U (hs ++ [hk A B i j cp c c' t rr]))
                      clear hx hy hq hops h1 h2 h3 h4 h5 hwbw HAT1 HRU7 HSG HCT hul hnm hown1 hgrow1 hblk1 hsz1
                      go_wp2_with fail
                      go_roundg U.length
                      case measure => have := HG.out; rw [HT.out] at this; simp only [List.length_cons, List.length_append] at this; omega
                      case rel => exact ⟨aU, cT - k, x, y, c', A1, U, _, HA1.out, rfl, by rw [HUL.out], by have := HUL.out; omega, by omega, rfl, HL2'.out⟩
end Go.Proofs.Qxb6605269a.HunkWalk
