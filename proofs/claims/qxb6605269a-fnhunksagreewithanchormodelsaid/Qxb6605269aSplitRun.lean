import Derived.Test.Qxb6605269aSplitMath
namespace Go.Proofs.Qxb6605269a.SplitMath

theorem P_congr (M M' : Nat → Nat → Bool) (x : Nat) : ∀ y, (∀ i j, i < x → j < y → M i j = M' i j) → P M x y = P M' x y := by
  induction x with
  | zero => intro y _; rfl
  | succ x ih =>
    intro y
    induction y with
    | zero => intro _; simp [P_zr]
    | succ y jh =>
      intro h
      rw [P_succ, P_succ, ih y fun i j hi hj => h i j (by omega) (by omega), ih (y + 1) fun i j hi hj => h i j (by omega) hj,
        jh fun i j hi hj => h i j hi (by omega), h x y (by omega) (by omega)]

/-- the tail of the ranges, read forward -/
def shift (M : Nat → Nat → Bool) (X Y : Nat) (i j : Nat) : Bool := M (X + i) (Y + j)

theorem P_shift (n m : Nat) (M : Nat → Nat → Bool) (h : InBox n m M) (X Y : Nat) (hX : X ≤ n) (hY : Y ≤ m) :
    P (shift M X Y) (n - X) (m - Y) = P (R n m M) (n - X) (m - Y) := by
  have hb : InBox (n - X) (m - Y) (shift M X Y) := by
    intro i j hm
    have := h _ _ hm
    omega
  rw [← P_rev _ _ _ hb]
  apply P_congr
  intro i j hi hj
  have e1 : X + (n - X - 1 - i) = n - 1 - i := by omega
  have e2 : Y + (m - Y - 1 - j) = m - 1 - j := by omega
  have e3 : i < n := by omega
  have e4 : j < m := by omega
  simp [R, shift, hi, hj, e1, e2, e3, e4]

/-! ### the run, turn by turn -/
def tF (n m : Nat) (M : Nat → Nat → Bool) (d : Nat) (k : Int) : Bool :=
  decide (((n : Int) - m) % 2 ≠ 0) && decide (-(d : Int) < k - (n - m)) && decide (k - (n - m) < d) && decide ((n : Int) - row (R n m M) n d (-(k - (n - m))) ≤ row M n (d + 1) k)
def tB (n m : Nat) (M : Nat → Nat → Bool) (d : Nat) (j : Int) : Bool :=
  decide (((n : Int) - m) % 2 = 0) && decide (-(d : Int) ≤ j + (n - m)) && decide (j + (n - m) ≤ d) && decide ((n : Int) - row (R n m M) n (d + 1) (-j) ≤ row M n (d + 1) (j + (n - m)))
theorem tF_iff (n m : Nat) (M : Nat → Nat → Bool) (d : Nat) (k : Int) : tF n m M d k = true ↔ meetF n m M d k := by
  simp only [tF, meetF, Bool.and_eq_true, decide_eq_true_eq, and_assoc]
theorem tB_iff (n m : Nat) (M : Nat → Nat → Bool) (d : Nat) (j : Int) : tB n m M d j = true ↔ meetB n m M d j := by
  simp only [tB, meetB, Bool.and_eq_true, decide_eq_true_eq, and_assoc]

set_option linter.unusedVariables false in
def slF (n m : Nat) (M : Nat → Nat → Bool) (d : Nat) (k : Int) : Nat := slide M n (st d k (row M n d)).toNat (st d k (row M n d) - k).toNat
theorem row_succ (M : Nat → Nat → Bool) (n m d : Nat) (k : Int) : row M n (d + 1) k = st d k (row M n d) + slF n m M d k := rfl

def evF (n m : Nat) (M : Nat → Nat → Bool) (aLo bLo : Int) (d : Nat) (k : Int) : Int × Option (Int × Int) :=
  (1 + (slF n m M d k : Int), if tF n m M d k = true then some (aLo + row M n (d + 1) k, bLo + (row M n (d + 1) k - k)) else none)
def evB (n m : Nat) (M : Nat → Nat → Bool) (aLo bLo : Int) (d : Nat) (j : Int) : Int × Option (Int × Int) :=
  (1 + (slF n m (R n m M) d (-j) : Int), if tB n m M d j = true then some (aLo + (n - row (R n m M) n (d + 1) (-j)), bLo + (n - row (R n m M) n (d + 1) (-j) - (j + (n - m)))) else none)

def fl (n m : Nat) (M : Nat → Nat → Bool) (aLo bLo : Int) (d : Nat) : Nat → Int → List (Int × Option (Int × Int))
  | 0, _ => []
  | c + 1, k => evF n m M aLo bLo d k :: fl n m M aLo bLo d c (k + 2)
def bl (n m : Nat) (M : Nat → Nat → Bool) (aLo bLo : Int) (d : Nat) : Nat → Int → List (Int × Option (Int × Int))
  | 0, _ => []
  | c + 1, j => evB n m M aLo bLo d j :: bl n m M aLo bLo d c (j + 2)
def rounds (n m : Nat) (M : Nat → Nat → Bool) (aLo bLo : Int) : Nat → Nat → List (Int × Option (Int × Int))
  | 0, _ => []
  | c + 1, d => fl n m M aLo bLo d (d + 1) (-(d : Int)) ++ (bl n m M aLo bLo d (d + 1) (-(d : Int)) ++ rounds n m M aLo bLo c (d + 1))

/-- what the run answers: x, y, ok, the steps left; none: it never does -/
def go : List (Int × Option (Int × Int)) → Int → Option (Int × Int × Bool × Int)
  | [], _ => none
  | (c, o) :: r, s => if s - c < 0 then some (0, 0, false, s - c) else match o with
    | some p => some (p.1, p.2, true, s - c)
    | none => go r (s - c)
def first : List (Int × Option (Int × Int)) → Option (Int × Int)
  | [] => none
  | (_, o) :: r => match o with
    | some p => some p
    | none => first r
def costTo : List (Int × Option (Int × Int)) → Int
  | [] => 0
  | (c, o) :: r => match o with
    | some _ => c
    | none => c + costTo r

theorem go_law (l : List (Int × Option (Int × Int))) (hc : ∀ e ∈ l, 0 ≤ e.1) (p : Int × Int) (hp : first l = some p) : 0 ≤ costTo l ∧
    ∀ S, (costTo l ≤ S → go l S = some (p.1, p.2, true, S - costTo l)) ∧ (S < costTo l → ∃ left, go l S = some (0, 0, false, left) ∧ left < 0 ∧ S - costTo l ≤ left) := by
  induction l with
  | nil => simp [first] at hp
  | cons e r ih =>
    obtain ⟨c, o⟩ := e
    have h0 : 0 ≤ c := hc (c, o) (by simp)
    cases o with
    | some q =>
      simp only [first, Option.some.injEq] at hp
      subst hp
      refine ⟨h0, fun S => ⟨fun h => ?_, fun h => ?_⟩⟩
      · simp only [costTo] at h
        simp only [go, costTo]
        rw [if_neg (by omega)]
      · simp only [costTo] at h
        simp only [go, costTo]
        exact ⟨S - c, by rw [if_pos (by omega)], by omega, by omega⟩
    | none =>
      obtain ⟨i1, i2⟩ := ih (fun e he => hc e (by simp [he])) hp
      refine ⟨by simp only [costTo]; omega, fun S => ⟨fun h => ?_, fun h => ?_⟩⟩
      · simp only [costTo] at h
        simp only [go, costTo]
        rw [if_neg (by omega), (i2 (S - c)).1 (by omega)]
        simp only [Option.some.injEq, Prod.mk.injEq, true_and]
        omega
      · simp only [costTo] at h
        simp only [go, costTo]
        by_cases hs : S - c < 0
        · rw [if_pos hs]
          exact ⟨S - c, rfl, by omega, by omega⟩
        · rw [if_neg hs]
          obtain ⟨left, e1, e2, e3⟩ := (i2 (S - c)).2 (by omega)
          exact ⟨left, e1, e2, by omega⟩

theorem first_append (l r : List (Int × Option (Int × Int))) : (∃ p, first l = some p ∧ first (l ++ r) = some p) ∨ (first l = none ∧ first (l ++ r) = first r) := by
  induction l with
  | nil => exact Or.inr ⟨rfl, rfl⟩
  | cons e l ih =>
    obtain ⟨c, o⟩ := e
    cases o with
    | some q => exact Or.inl ⟨q, rfl, rfl⟩
    | none => exact ih

theorem fl_first (n m : Nat) (M : Nat → Nat → Bool) (aLo bLo : Int) (d : Nat) : ∀ c k,
    (∃ i : Nat, i < c ∧ tF n m M d (k + 2 * i) = true ∧ first (fl n m M aLo bLo d c k) = some (aLo + row M n (d + 1) (k + 2 * i), bLo + (row M n (d + 1) (k + 2 * i) - (k + 2 * i)))) ∨
    (first (fl n m M aLo bLo d c k) = none ∧ ∀ i : Nat, i < c → tF n m M d (k + 2 * i) = false) := by
  intro c
  induction c with
  | zero => intro k; exact Or.inr ⟨rfl, fun i hi => absurd hi (by omega)⟩
  | succ c ih =>
    intro k
    cases ht : tF n m M d k with
    | true =>
      refine Or.inl ⟨0, by omega, by simpa using ht, ?_⟩
      simp [fl, evF, ht, first]
    | false =>
      have e : first (fl n m M aLo bLo d (c + 1) k) = first (fl n m M aLo bLo d c (k + 2)) := by simp [fl, evF, ht, first]
      rw [e]
      rcases ih (k + 2) with ⟨i, h1, h2, h3⟩ | ⟨h1, h2⟩
      · have ek : k + 2 + 2 * (i : Int) = k + 2 * ((i + 1 : Nat) : Int) := by omega
        rw [ek] at h2 h3
        exact Or.inl ⟨i + 1, by omega, h2, h3⟩
      · refine Or.inr ⟨h1, fun i hi => ?_⟩
        match i with
        | 0 => simpa using ht
        | i + 1 =>
          have := h2 i (by omega)
          have ek : k + 2 + 2 * (i : Int) = k + 2 * ((i + 1 : Nat) : Int) := by omega
          rwa [ek] at this
theorem bl_first (n m : Nat) (M : Nat → Nat → Bool) (aLo bLo : Int) (d : Nat) : ∀ c k,
    (∃ i : Nat, i < c ∧ tB n m M d (k + 2 * i) = true ∧ first (bl n m M aLo bLo d c k) = some (aLo + (n - row (R n m M) n (d + 1) (-(k + 2 * i))), bLo + (n - row (R n m M) n (d + 1) (-(k + 2 * i)) - (k + 2 * i + (n - m))))) ∨
    (first (bl n m M aLo bLo d c k) = none ∧ ∀ i : Nat, i < c → tB n m M d (k + 2 * i) = false) := by
  intro c
  induction c with
  | zero => intro k; exact Or.inr ⟨rfl, fun i hi => absurd hi (by omega)⟩
  | succ c ih =>
    intro k
    cases ht : tB n m M d k with
    | true =>
      refine Or.inl ⟨0, by omega, by simpa using ht, ?_⟩
      simp [bl, evB, ht, first]
    | false =>
      have e : first (bl n m M aLo bLo d (c + 1) k) = first (bl n m M aLo bLo d c (k + 2)) := by simp [bl, evB, ht, first]
      rw [e]
      rcases ih (k + 2) with ⟨i, h1, h2, h3⟩ | ⟨h1, h2⟩
      · have ek : k + 2 + 2 * (i : Int) = k + 2 * ((i + 1 : Nat) : Int) := by omega
        rw [ek] at h2 h3
        exact Or.inl ⟨i + 1, by omega, h2, h3⟩
      · refine Or.inr ⟨h1, fun i hi => ?_⟩
        match i with
        | 0 => simpa using ht
        | i + 1 =>
          have := h2 i (by omega)
          have ek : k + 2 + 2 * (i : Int) = k + 2 * ((i + 1 : Nat) : Int) := by omega
          rwa [ek] at this

theorem K_of (d i : Nat) (hi : i < d + 1) : K d (-(d : Int) + 2 * i) := by unfold K; omega
theorem K_ex (d : Nat) (k : Int) (h : K d k) : ∃ i : Nat, i < d + 1 ∧ k = -(d : Int) + 2 * i := ⟨((k + d) / 2).toNat, by unfold K at h; omega, by unfold K at h; omega⟩

theorem first_good (n m : Nat) (M : Nat → Nat → Bool) (aLo bLo : Int) (h : InBox n m M) (hpos : 2 ≤ D M n m) (e : Nat) (he : D M n m = 2 * e ∨ D M n m = 2 * e - 1) : ∀ c d, d ≤ e → e < d + c →
    ∃ X Y : Nat, first (rounds n m M aLo bLo c d) = some (aLo + X, bLo + Y) ∧ Good n m M X Y := by
  intro c
  induction c with
  | zero => intro d h1 h2; omega
  | succ c ih =>
    intro d h1 h2
    have hp := D_par M n m
    simp only [rounds]
    rcases first_append (fl n m M aLo bLo d (d + 1) (-(d : Int))) (bl n m M aLo bLo d (d + 1) (-(d : Int)) ++ rounds n m M aLo bLo c (d + 1)) with ⟨p, q1, q2⟩ | ⟨q1, q2⟩
    · rcases fl_first n m M aLo bLo d (d + 1) (-(d : Int)) with ⟨i, t1, t2, t3⟩ | ⟨t1, _⟩
      · obtain ⟨X, Y, g1, g2, g3⟩ := F_good n m M h hpos d _ (K_of d i t1) ((tF_iff ..).1 t2) (by omega)
        refine ⟨X, Y, ?_, g3⟩
        rw [q2, ← q1, t3, g1]
        congr 3; omega
      · rw [t1] at q1; cases q1
    · rcases fl_first n m M aLo bLo d (d + 1) (-(d : Int)) with ⟨i, t1, t2, t3⟩ | ⟨_, nF⟩
      · rw [t3] at q1; cases q1
      rw [q2]
      rcases first_append (bl n m M aLo bLo d (d + 1) (-(d : Int))) (rounds n m M aLo bLo c (d + 1)) with ⟨p, r1, r2⟩ | ⟨r1, r2⟩
      · rcases bl_first n m M aLo bLo d (d + 1) (-(d : Int)) with ⟨i, t1, t2, t3⟩ | ⟨t1, _⟩
        · have hb := (tB_iff ..).1 t2
          obtain ⟨X, Y, g1, g2, g3⟩ := B_good n m M h hpos d _ (K_of d i t1) hb (by have := hb.1; omega)
          refine ⟨X, Y, ?_, g3⟩
          rw [r2, ← r1, t3, g1]
          congr 3; omega
        · rw [t1] at r1; cases r1
      · rcases bl_first n m M aLo bLo d (d + 1) (-(d : Int)) with ⟨i, t1, t2, t3⟩ | ⟨_, nB⟩
        · rw [t3] at r1; cases r1
        rw [r2]
        refine ih (d + 1) ?_ (by omega)
        by_cases hde : d = e
        · exfalso
          subst hde
          rcases he with he | he
          · obtain ⟨j, hj, hm⟩ := meetB_exists n m M h d he
            obtain ⟨i, hi, rfl⟩ := K_ex d j hj
            have := (tB_iff n m M d _).2 hm
            rw [nB i hi] at this; cases this
          · obtain ⟨j, hj, hm⟩ := meetF_exists n m M h d he
            obtain ⟨i, hi, rfl⟩ := K_ex d j hj
            have := (tF_iff n m M d _).2 hm
            rw [nF i hi] at this; cases this
        · omega

theorem slide_le (n m : Nat) (M : Nat → Nat → Bool) (h : InBox n m M) (f : Nat) : ∀ x y, slide M f x y ≤ n := by
  intro x y
  by_cases h0 : slide M f x y = 0
  · omega
  · have := slide_run M f x y (slide M f x y - 1) (by omega)
    have := (h _ _ this).1
    omega

/-- each turn costs at least 1 and at most n + 1 -/
theorem costs (n m : Nat) (M : Nat → Nat → Bool) (h : InBox n m M) (aLo bLo : Int) : ∀ c d, ∀ e ∈ rounds n m M aLo bLo c d, 0 ≤ e.1 ∧ e.1 ≤ (n : Int) + 1 := by
  have hf : ∀ d c k, ∀ e ∈ fl n m M aLo bLo d c k, 0 ≤ e.1 ∧ e.1 ≤ (n : Int) + 1 := by
    intro d c
    induction c with
    | zero => intro k e he; simp [fl] at he
    | succ c ih =>
      intro k e he
      simp only [fl, List.mem_cons] at he
      rcases he with rfl | he
      · have := slide_le n m M h n (st d k (row M n d)).toNat (st d k (row M n d) - k).toNat
        simp only [evF, slF]; omega
      · exact ih _ e he
  have hb : ∀ d c k, ∀ e ∈ bl n m M aLo bLo d c k, 0 ≤ e.1 ∧ e.1 ≤ (n : Int) + 1 := by
    intro d c
    induction c with
    | zero => intro k e he; simp [bl] at he
    | succ c ih =>
      intro k e he
      simp only [bl, List.mem_cons] at he
      rcases he with rfl | he
      · have := slide_le n m (R n m M) (R_box n m M) n (st d (-k) (row (R n m M) n d)).toNat (st d (-k) (row (R n m M) n d) - -k).toNat
        simp only [evB, slF]; omega
      · exact ih _ e he
  intro c
  induction c with
  | zero => intro d e he; simp [rounds] at he
  | succ c ih =>
    intro d e he
    simp only [rounds, List.mem_append] at he
    rcases he with he | he | he
    · exact hf _ _ _ e he
    · exact hb _ _ _ e he
    · exact ih _ e he

theorem costTo_le (l : List (Int × Option (Int × Int))) (B : Nat) (h : ∀ e ∈ l, 0 ≤ e.1 ∧ e.1 ≤ (B : Int)) : costTo l ≤ (B * l.length : Nat) := by
  induction l with
  | nil => simp [costTo]
  | cons e l ih =>
    obtain ⟨c, o⟩ := e
    have h0 := h (c, o) (by simp)
    have := ih (fun e he => h e (by simp [he]))
    have e1 : B * (l.length + 1) = B * l.length + B := by rw [Nat.mul_add, Nat.mul_one]
    simp only [List.length_cons]
    cases o with
    | some q => simp only [costTo]; omega
    | none => simp only [costTo]; omega

theorem fl_length (n m : Nat) (M : Nat → Nat → Bool) (aLo bLo : Int) (d : Nat) : ∀ c k, (fl n m M aLo bLo d c k).length = c := by
  intro c; induction c with
  | zero => intro k; rfl
  | succ c ih => intro k; simp [fl, ih]
theorem bl_length (n m : Nat) (M : Nat → Nat → Bool) (aLo bLo : Int) (d : Nat) : ∀ c k, (bl n m M aLo bLo d c k).length = c := by
  intro c; induction c with
  | zero => intro k; rfl
  | succ c ih => intro k; simp [bl, ih]
theorem rounds_length (n m : Nat) (M : Nat → Nat → Bool) (aLo bLo : Int) (L : Nat) : ∀ c d, d + c ≤ L → (rounds n m M aLo bLo c d).length ≤ c * (2 * L) := by
  intro c; induction c with
  | zero => intro d _; simp [rounds]
  | succ c ih =>
    intro d hd
    have := ih (d + 1) (by omega)
    simp only [rounds, List.length_append, fl_length, bl_length]
    rw [Nat.add_mul, Nat.one_mul]; omega

/-- THE PLAIN LAW of split: the whole run, from its first turn on -/
theorem split_law (n m : Nat) (M : Nat → Nat → Bool) (aLo bLo : Int) (h : InBox n m M) (h00 : M 0 0 = false) (hn : 1 ≤ n) (hm : 1 ≤ m) (hend : M (n - 1) (m - 1) = false) (hn4 : n ≤ 4096) (hm4 : m ≤ 4096) :
    ∃ (X Y : Nat) (C : Int), Good n m M X Y ∧ 0 ≤ C ∧ C ≤ 1000000000000 ∧
      ∀ S, (C ≤ S → go (rounds n m M aLo bLo ((n + m + 1) / 2 + 1) 0) S = some (aLo + X, bLo + Y, true, S - C)) ∧
        (S < C → ∃ left, go (rounds n m M aLo bLo ((n + m + 1) / 2 + 1) 0) S = some (0, 0, false, left) ∧ left < 0 ∧ S - C ≤ left) := by
  have hpos := Dtot_pos n m M h00 hn hm hend
  have hp := D_par M n m
  have hle := D_le M n m
  obtain ⟨X, Y, hf, hg⟩ := first_good n m M aLo bLo h hpos ((D M n m + 1) / 2).toNat (by omega) ((n + m + 1) / 2 + 1) 0 (by omega) (by omega)
  have hc := costs n m M h aLo bLo ((n + m + 1) / 2 + 1) 0
  obtain ⟨c0, cl⟩ := go_law _ (fun e he => (hc e he).1) _ hf
  refine ⟨X, Y, costTo (rounds n m M aLo bLo ((n + m + 1) / 2 + 1) 0), hg, c0, ?_, cl⟩
  have b1 := costTo_le (rounds n m M aLo bLo ((n + m + 1) / 2 + 1) 0) 4097 (fun e he => by have := hc e he; omega)
  have b2 := rounds_length n m M aLo bLo 4098 ((n + m + 1) / 2 + 1) 0 (by omega)
  have b3 : (rounds n m M aLo bLo ((n + m + 1) / 2 + 1) 0).length ≤ 4098 * (2 * 4098) := Nat.le_trans b2 (Nat.mul_le_mul_right _ (by omega))
  omega

end Go.Proofs.Qxb6605269a.SplitMath
