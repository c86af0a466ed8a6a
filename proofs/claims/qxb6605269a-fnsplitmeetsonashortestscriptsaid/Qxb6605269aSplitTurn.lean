import Derived.Test.Qxb6605269aSplitInv
import Derived.Deep.LoopGhost
import Derived.Deep.CutRange
import Derived.Deep.DeepCutAuto
import Derived.Deep.CutBlock
namespace Go.Proofs.Qxb6605269a.SplitWalk
open Go.ChangeShapes Go.WideShapes Go.ChangeAt Go.RowKit
open Go.Proofs.Qxb6605269a.SplitMath
open Go.Proofs.Qxb6605269a.SplitInv
open Go.Proofs.Qxb6605269a.Lcs (hide rowIs_drewN set_int)

/-- how the call ends -/
def PostS (P : Pars) (w : World) (bc bf bg lf lg : Nat) (C : Nat → Value) (e : Ending) (w' : World) : Prop :=
  ∃ x y ok left F' G', e = .returned (.tuple #[.int .i64 x, .int .i64 y, .bool ok]) ∧ P.whole = some (x, y, ok, left) ∧ Inv w bc bf bg lf lg C w' F' G' left
theorem post_mk {P : Pars} {w : World} {bc bf bg lf lg : Nat} {C : Nat → Value} {w' : World} {x y left : Int} {ok : Bool} {F G : Nat → Int} (h : P.whole = some (x, y, ok, left)) (hI : Inv w bc bf bg lf lg C w' F G left) :
    PostS P w bc bf bg lf lg C (.returned (.tuple #[.int .i64 x, .int .i64 y, .bool ok])) w' := ⟨x, y, ok, left, F, G, rfl, h, hI⟩

/-- the test ahead of a forward turn -/
def cF (d : Nat) (k x y : Int) : Bool := decide (k = -(d : Int) ∨ (k ≠ d ∧ x < y))
theorem cF_1 (d : Nat) (k x y : Int) (h : k = -(d : Int)) : cF d k x y = true := decide_eq_true (Or.inl h)
theorem cF_2 (d : Nat) (k x y : Int) (h1 : ¬ k = -(d : Int)) (h2 : k = d) : cF d k x y = false := decide_eq_false (by omega)
theorem cF_3 (d : Nat) (k x y : Int) (h1 : ¬ k = -(d : Int)) (h2 : ¬ k = d) : cF d k x y = decide (x < y) := by
  unfold cF; congr 1; apply propext; omega

theorem box_of {P : Pars} {n m : Nat} {A B : Nat → Int} (hPn : P.n = n) (hPm : P.m = m) (hM : ∀ i j, P.M i j = (decide (i < n) && decide (j < m) && (A i == B j))) : InBox P.n P.m P.M := by
  intro i j hij
  rw [hM] at hij
  simp only [Bool.and_eq_true, decide_eq_true_eq] at hij
  rw [hPn, hPm]; exact hij.1

/-- the start of a forward turn, as two numbers -/
theorem turnF {P : Pars} {d : Nat} {k : Int} (hK : K d k) {n m : Nat} {A B : Nat → Int} (hPn : P.n = n) (hPm : P.m = m)
    (hM : ∀ i j, P.M i j = (decide (i < n) && decide (j < m) && (A i == B j))) :
    ∃ X : Nat, st d k (row P.M P.n d) = X ∧ ∃ Y : Nat, (X : Int) - k = Y ∧ (X : Int) + (slF P.n P.m P.M d k : Int) ≤ n + d ∧ (Y : Int) + (slF P.n P.m P.M d k : Int) ≤ n + d := by
  have hbox := box_of hPn hPm hM
  obtain ⟨_, h1, h2⟩ := row_far P.n P.m P.M hbox d k hK
  have h3 := row_bounds P.n P.m P.M hbox d k hK
  rw [row_succ P.M P.n P.m] at h3
  rw [hPn] at h3 ⊢
  rw [hPn] at h1 h2
  exact ⟨(st d k (row P.M n d)).toNat, by omega, (st d k (row P.M n d) - k).toNat, by omega, by omega, by omega⟩
theorem turnF_yes {P : Pars} {d : Nat} {k : Int} {F G : Nat → Int} {s : Int} (hH : HeadF P d k F G s) (hK : K d k) {h : Nat} (hPh : P.h = h) (hb : cF d k (F (ix h (k - 1))) (F (ix h (k + 1))) = true) :
    F (ix h (k + 1)) = st d k (row P.M P.n d) := by
  have hp := hH.pf
  rw [hPh] at hp
  have hb' := of_decide_eq_true hb
  by_cases e : k = -(d : Int)
  · exact (st_lo hp hK e).symm
  · have hb2 : k ≠ d ∧ F (ix h (k - 1)) < F (ix h (k + 1)) := by
      rcases hb' with h | h
      · exact absurd h e
      · exact h
    exact ((st_mid hp hK e hb2.1).1 hb2.2).symm
theorem turnF_no {P : Pars} {d : Nat} {k : Int} {F G : Nat → Int} {s : Int} (hH : HeadF P d k F G s) (hK : K d k) {h : Nat} (hPh : P.h = h) (hb : cF d k (F (ix h (k - 1))) (F (ix h (k + 1))) = false) :
    F (ix h (k - 1)) + 1 = st d k (row P.M P.n d) := by
  have hp := hH.pf
  rw [hPh] at hp
  have hb' := of_decide_eq_false hb
  have e : k ≠ -(d : Int) := fun e => hb' (Or.inl e)
  by_cases e2 : k = d
  · exact (st_hi hp hK e e2).symm
  · exact ((st_mid hp hK e e2).2 (fun h => hb' (Or.inr ⟨e2, h⟩))).symm

theorem wrap_small (x : Int) (h1 : -9223372036854775808 ≤ x) (h2 : x ≤ 9223372036854775807) : wrap64 x = x := by
  unfold wrap64; omega
theorem slideF_run {P : Pars} {d : Nat} {k : Int} {X Y t sl : Nat} {n m : Nat} {A B : Nat → Int} (hX : st d k (row P.M P.n d) = X) (hY : (X : Int) - k = Y)
    (hM : ∀ i j, P.M i j = (decide (i < n) && decide (j < m) && (A i == B j))) (hsl : sl = slF P.n P.m P.M d k) (ht : t < sl) : X + t < n ∧ Y + t < m ∧ (A (X + t) == B (Y + t)) = true := by
  subst hsl
  unfold slF at ht
  rw [hX, Int.toNat_natCast, show ((X : Int) - k).toNat = Y from by omega] at ht
  have := slide_run P.M P.n X Y t ht
  rw [hM] at this
  simp only [Bool.and_eq_true, decide_eq_true_eq] at this
  exact ⟨this.1.1, this.1.2, this.2⟩
theorem slideF_stop {P : Pars} {d : Nat} {k : Int} {X Y sl : Nat} {n m : Nat} {A B : Nat → Int} (hX : st d k (row P.M P.n d) = X) (hY : (X : Int) - k = Y) (hPn : P.n = n) (hPm : P.m = m)
    (hM : ∀ i j, P.M i j = (decide (i < n) && decide (j < m) && (A i == B j))) (hsl : sl = slF P.n P.m P.M d k) : X + sl < n → Y + sl < m → (A (X + sl) == B (Y + sl)) = false := by
  subst hsl
  have e : slF P.n P.m P.M d k = slide P.M P.n X Y := by
    unfold slF
    rw [hX, Int.toNat_natCast, show ((X : Int) - k).toNat = Y from by omega]
  rw [e]
  have := slide_stop P.n P.m P.M (box_of hPn hPm hM) P.n X Y (by omega)
  rw [hM] at this
  intro h1 h2
  simp only [h1, h2, decide_true, Bool.true_and] at this
  exact this

theorem tmod2 (a : Int) : (a.tmod 2 != 0) = decide (a % 2 ≠ 0) := by
  have : a.tmod 2 = 0 ↔ a % 2 = 0 := by
    rw [← Int.dvd_iff_tmod_eq_zero, ← Int.dvd_iff_emod_eq_zero]
  by_cases h : a % 2 = 0
  · simp [h, this.2 h]
  · have : ¬ a.tmod 2 = 0 := fun e => h (this.1 e)
    simp [h, this]
theorem rowF {P : Pars} {d : Nat} {k : Int} {X0 X1 sl : Nat} (hX : st d k (row P.M P.n d) = X0) (hsl : sl = slF P.n P.m P.M d k) (h1 : X1 = X0 + sl) : row P.M P.n (d + 1) k = X1 := by
  rw [row_succ P.M P.n P.m, hX, ← hsl, h1]; omega
theorem tF_no1 {P : Pars} {d : Nat} {k : Int} {n m : Nat} (hPn : P.n = n) (hPm : P.m = m) (h : (((n : Int) - (m : Int)).tmod 2 != 0) = false) : tF P.n P.m P.M d k = false := by
  rw [tmod2] at h
  unfold tF
  rw [hPn, hPm, h]; rfl
theorem tF_no2 {P : Pars} {d : Nat} {k : Int} {n m : Nat} (hPn : P.n = n) (hPm : P.m = m) (h : ¬ -(d : Int) < k - ((n : Int) - (m : Int))) : tF P.n P.m P.M d k = false := by
  unfold tF
  rw [hPn, hPm, decide_eq_false h]; simp
theorem tF_no3 {P : Pars} {d : Nat} {k : Int} {n m : Nat} (hPn : P.n = n) (hPm : P.m = m) (h : ¬ k - ((n : Int) - (m : Int)) < d) : tF P.n P.m P.M d k = false := by
  unfold tF
  rw [hPn, hPm, decide_eq_false h]; simp
theorem tF_last {P : Pars} {d : Nat} {k : Int} {F G : Nat → Int} {s : Int} (hH : HeadF P d k F G s) (hK : K d k) {n m h X1 : Nat} (hPn : P.n = n) (hPm : P.m = m) (hPh : P.h = h)
    (hrow : row P.M P.n (d + 1) k = X1) (ho : (((n : Int) - (m : Int)).tmod 2 != 0) = true) (h1 : -(d : Int) < k - ((n : Int) - (m : Int))) (h2 : k - ((n : Int) - (m : Int)) < d) :
    tF P.n P.m P.M d k = decide (G (ix h (k - ((n : Int) - (m : Int)))) ≤ (X1 : Int)) := by
  rw [tmod2] at ho
  have ho' := of_decide_eq_true ho
  have hp := hH.pg
  unfold K at hK
  rw [hPh] at hp
  rw [hp (k - ((n : Int) - (m : Int))) (Or.inr ⟨by omega, by unfold K; omega⟩)]
  unfold tF
  rw [hrow, hPn, hPm, ho, decide_eq_true h1, decide_eq_true h2]; simp

/-! ### the same for a backward turn -/
def cG (d : Nat) (j x y : Int) : Bool := decide (j = (d : Int) ∨ (j ≠ -(d : Int) ∧ x ≤ y - 1))
theorem cG_1 (d : Nat) (j x y : Int) (h : j = (d : Int)) : cG d j x y = true := decide_eq_true (Or.inl h)
theorem cG_2 (d : Nat) (j x y : Int) (h1 : ¬ j = (d : Int)) (h2 : j = -(d : Int)) : cG d j x y = false := decide_eq_false (by omega)
theorem cG_3 (d : Nat) (j x y : Int) (h1 : ¬ j = (d : Int)) (h2 : ¬ j = -(d : Int)) : cG d j x y = decide (x ≤ y - 1) := by
  unfold cG; congr 1; apply propext; omega
theorem turnG {P : Pars} {d : Nat} {j : Int} (hK : K d j) {n : Nat} (hPn : P.n = n) :
    ∃ U : Nat, st d (-j) (row (R P.n P.m P.M) P.n d) = U ∧ ∃ V : Nat, (U : Int) + j = V ∧ (U : Int) + (slF P.n P.m (R P.n P.m P.M) d (-j) : Int) ≤ n + d ∧ (V : Int) + (slF P.n P.m (R P.n P.m P.M) d (-j) : Int) ≤ n + d := by
  have hK' : K d (-j) := by unfold K at hK ⊢; omega
  obtain ⟨_, h1, h2⟩ := row_far P.n P.m (R P.n P.m P.M) (R_box P.n P.m P.M) d (-j) hK'
  have h3 := row_bounds P.n P.m (R P.n P.m P.M) (R_box P.n P.m P.M) d (-j) hK'
  rw [row_succ _ P.n P.m] at h3
  have hn : ((P.n : Nat) : Int) = n := by rw [hPn]
  exact ⟨(st d (-j) (row (R P.n P.m P.M) P.n d)).toNat, by omega, (st d (-j) (row (R P.n P.m P.M) P.n d) + j).toNat, by omega, by omega, by omega⟩
theorem midG {P : Pars} {d : Nat} {j : Int} {F G : Nat → Int} {s : Int} (hH : HeadG P d j F G s) (hK : K d j) {h n : Nat} (hPh : P.h = h) (hPn : P.n = n) (h1 : ¬ j = (d : Int)) (h2 : ¬ j = -(d : Int)) :
    -(d : Int) ≤ G (ix h (j - 1)) ∧ G (ix h (j - 1)) ≤ n ∧ -(d : Int) ≤ G (ix h (j + 1)) ∧ G (ix h (j + 1)) ≤ n := by
  have hp := hH.pg
  rw [hPh] at hp
  unfold K at hK
  obtain ⟨d', rfl⟩ : ∃ d', d = d' + 1 := ⟨d - 1, by omega⟩
  have k1 : K d' (-(j - 1)) := by unfold K; omega
  have k2 : K d' (-(j + 1)) := by unfold K; omega
  have a1 := hp (j - 1) (Or.inr ⟨by omega, by unfold K; simp; omega⟩)
  have a2 := hp (j + 1) (Or.inr ⟨by omega, by unfold K; simp; omega⟩)
  have b1 := row_bounds P.n P.m (R P.n P.m P.M) (R_box P.n P.m P.M) d' _ k1
  have b2 := row_bounds P.n P.m (R P.n P.m P.M) (R_box P.n P.m P.M) d' _ k2
  have hn : ((P.n : Nat) : Int) = n := by rw [hPn]
  rw [a1, a2]
  omega
theorem turnG_yes {P : Pars} {d : Nat} {j : Int} {F G : Nat → Int} {s : Int} (hH : HeadG P d j F G s) (hK : K d j) {h n : Nat} (hPh : P.h = h) (hPn : P.n = n) (hb : cG d j (G (ix h (j - 1))) (G (ix h (j + 1))) = true) :
    G (ix h (j - 1)) = (n : Int) - st d (-j) (row (R P.n P.m P.M) P.n d) := by
  have hp := hH.pg
  rw [hPh] at hp
  have hn : ((P.n : Nat) : Int) = n := by rw [hPn]
  rw [← hn]
  have hb' := of_decide_eq_true hb
  by_cases e : j = (d : Int)
  · exact (stG_lo hp hK e).symm
  · have hb2 : j ≠ -(d : Int) ∧ G (ix h (j - 1)) ≤ G (ix h (j + 1)) - 1 := by
      rcases hb' with h | h
      · exact absurd h e
      · exact h
    exact ((stG_mid hp hK e hb2.1).1 hb2.2).symm
theorem turnG_no {P : Pars} {d : Nat} {j : Int} {F G : Nat → Int} {s : Int} (hH : HeadG P d j F G s) (hK : K d j) {h n : Nat} (hPh : P.h = h) (hPn : P.n = n) (hb : cG d j (G (ix h (j - 1))) (G (ix h (j + 1))) = false) :
    G (ix h (j + 1)) - 1 = (n : Int) - st d (-j) (row (R P.n P.m P.M) P.n d) := by
  have hp := hH.pg
  rw [hPh] at hp
  have hn : ((P.n : Nat) : Int) = n := by rw [hPn]
  rw [← hn]
  have hb' := of_decide_eq_false hb
  have e : j ≠ (d : Int) := fun e => hb' (Or.inl e)
  by_cases e2 : j = -(d : Int)
  · exact (stG_hi hp hK e e2).symm
  · exact ((stG_mid hp hK e e2).2 (fun h => hb' (Or.inr ⟨e2, h⟩))).symm
theorem slideG_run {P : Pars} {d : Nat} {j : Int} {U V t sl : Nat} {n m : Nat} {A B : Nat → Int} (hU : st d (-j) (row (R P.n P.m P.M) P.n d) = U) (hV : (U : Int) + j = V) (hPn : P.n = n) (hPm : P.m = m)
    (hM : ∀ i j, P.M i j = (decide (i < n) && decide (j < m) && (A i == B j))) (hsl : sl = slF P.n P.m (R P.n P.m P.M) d (-j)) (ht : t < sl) :
    U + t < n ∧ V + t < m ∧ (A (n - 1 - (U + t)) == B (m - 1 - (V + t))) = true := by
  subst hsl
  unfold slF at ht
  rw [hU, Int.toNat_natCast, show ((U : Int) - -j).toNat = V from by omega] at ht
  have := slide_run (R P.n P.m P.M) P.n U V t ht
  unfold R at this
  rw [hPn, hPm, hM] at this
  simp only [Bool.and_eq_true, decide_eq_true_eq] at this
  exact ⟨this.1.1, this.1.2, this.2.2⟩
theorem slideG_stop {P : Pars} {d : Nat} {j : Int} {U V sl : Nat} {n m : Nat} {A B : Nat → Int} (hU : st d (-j) (row (R P.n P.m P.M) P.n d) = U) (hV : (U : Int) + j = V) (hPn : P.n = n) (hPm : P.m = m)
    (hM : ∀ i j, P.M i j = (decide (i < n) && decide (j < m) && (A i == B j))) (hsl : sl = slF P.n P.m (R P.n P.m P.M) d (-j)) : U + sl < n → V + sl < m → (A (n - 1 - (U + sl)) == B (m - 1 - (V + sl))) = false := by
  subst hsl
  have e : slF P.n P.m (R P.n P.m P.M) d (-j) = slide (R P.n P.m P.M) P.n U V := by
    unfold slF
    rw [hU, Int.toNat_natCast, show ((U : Int) - -j).toNat = V from by omega]
  rw [e]
  have := slide_stop P.n P.m (R P.n P.m P.M) (R_box P.n P.m P.M) P.n U V (by omega)
  generalize slide (R P.n P.m P.M) P.n U V = t at *
  unfold R at this
  rw [hPn, hPm, hM] at this
  intro h1 h2
  have h3 : n - 1 - (U + t) < n := by omega
  have h4 : m - 1 - (V + t) < m := by omega
  simp only [h1, h2, h3, h4, decide_true, Bool.true_and] at this
  exact this
theorem rowG {P : Pars} {d : Nat} {j : Int} {U0 sl : Nat} (hU : st d (-j) (row (R P.n P.m P.M) P.n d) = U0) (hsl : sl = slF P.n P.m (R P.n P.m P.M) d (-j)) : row (R P.n P.m P.M) P.n (d + 1) (-j) = ((U0 + sl : Nat) : Int) := by
  rw [row_succ _ P.n P.m, hU, ← hsl]; omega
theorem tmod2' (a : Int) : (a.tmod 2 == 0) = decide (a % 2 = 0) := by
  have : a.tmod 2 = 0 ↔ a % 2 = 0 := by
    rw [← Int.dvd_iff_tmod_eq_zero, ← Int.dvd_iff_emod_eq_zero]
  by_cases h : a % 2 = 0
  · simp [h, this.2 h]
  · have : ¬ a.tmod 2 = 0 := fun e => h (this.1 e)
    simp [h, this]
theorem tB_no1 {P : Pars} {d : Nat} {j : Int} {n m : Nat} (hPn : P.n = n) (hPm : P.m = m) (h : (((n : Int) - (m : Int)).tmod 2 == 0) = false) : tB P.n P.m P.M d j = false := by
  rw [tmod2'] at h
  unfold tB
  rw [hPn, hPm, h]; rfl
theorem tB_no2 {P : Pars} {d : Nat} {j : Int} {n m : Nat} (hPn : P.n = n) (hPm : P.m = m) (h : ¬ -(d : Int) ≤ j + ((n : Int) - (m : Int))) : tB P.n P.m P.M d j = false := by
  unfold tB
  rw [hPn, hPm, decide_eq_false h]; simp
theorem tB_no3 {P : Pars} {d : Nat} {j : Int} {n m : Nat} (hPn : P.n = n) (hPm : P.m = m) (h : ¬ j + ((n : Int) - (m : Int)) ≤ d) : tB P.n P.m P.M d j = false := by
  unfold tB
  rw [hPn, hPm, decide_eq_false h]; simp
theorem tB_last {P : Pars} {d : Nat} {j X1 : Int} {F G : Nat → Int} {s : Int} (hH : HeadG P d j F G s) (hK : K d j) {n m h : Nat} (hPn : P.n = n) (hPm : P.m = m) (hPh : P.h = h)
    (hrow : (n : Int) - row (R P.n P.m P.M) P.n (d + 1) (-j) = X1) (ho : (((n : Int) - (m : Int)).tmod 2 == 0) = true) (h1 : -(d : Int) ≤ j + ((n : Int) - (m : Int))) (h2 : j + ((n : Int) - (m : Int)) ≤ d) :
    tB P.n P.m P.M d j = decide (X1 ≤ F (ix h (j + ((n : Int) - (m : Int))))) := by
  rw [tmod2'] at ho
  have ho' := of_decide_eq_true ho
  have hp := hH.cf
  unfold K at hK
  rw [hPh] at hp
  rw [hp (j + ((n : Int) - (m : Int))) (by unfold K; omega) (by omega)]
  unfold tB
  rw [hPn] at hrow ⊢
  rw [hrow, hPm, ho, decide_eq_true h1, decide_eq_true h2]; simp
theorem Head.no {P : Pars} {d : Nat} {F G : Nat → Int} {s : Int} (hH : Head P d F G s) (hd : d = P.h + 1) (hne : P.whole ≠ none) : False := by
  apply hne
  rw [hH.run, hd, show P.h + 1 - (P.h + 1) = 0 from by omega]; rfl

end Go.Proofs.Qxb6605269a.SplitWalk
