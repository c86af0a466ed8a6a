namespace Go.Proofs.Qxb6605269a.SplitMath

def rowN (r : Nat → Nat) (q : Nat → Bool) : Nat → Nat
  | 0 => 0
  | j + 1 => if q j then r j + 1 else max (r (j + 1)) (rowN r q j)

def P (M : Nat → Nat → Bool) : Nat → Nat → Nat
  | 0 => fun _ => 0
  | i + 1 => rowN (P M i) (M i)

theorem P_zl (M : Nat → Nat → Bool) (j : Nat) : P M 0 j = 0 := rfl
theorem P_zr (M : Nat → Nat → Bool) (i : Nat) : P M i 0 = 0 := by cases i <;> rfl
theorem P_succ (M : Nat → Nat → Bool) (i j : Nat) :
    P M (i + 1) (j + 1) = if M i j then P M i j + 1 else max (P M i (j + 1)) (P M (i + 1) j) := rfl

theorem P_hv (M : Nat → Nat → Bool) (i : Nat) :
    (∀ j, P M i j ≤ P M i (j + 1) ∧ P M i (j + 1) ≤ P M i j + 1) ∧ (∀ j, P M i j ≤ P M (i + 1) j ∧ P M (i + 1) j ≤ P M i j + 1) := by
  have key : ∀ i, (∀ j, P M i j ≤ P M i (j + 1) ∧ P M i (j + 1) ≤ P M i j + 1) → (∀ j, P M i j ≤ P M (i + 1) j ∧ P M (i + 1) j ≤ P M i j + 1) := by
    intro i hv j
    induction j with
    | zero => simp [P_zr]
    | succ j ih =>
      have := hv j
      rw [P_succ]
      split <;> omega
  have hv : ∀ i, ∀ j, P M i j ≤ P M i (j + 1) ∧ P M i (j + 1) ≤ P M i j + 1 := by
    intro i
    induction i with
    | zero => intro j; simp [P_zl]
    | succ i ih =>
      intro j
      have h1 := ih j
      have h2 := key i ih j
      rw [P_succ]
      split <;> omega
  exact ⟨hv i, key i (hv i)⟩

theorem P_r (M : Nat → Nat → Bool) (i j : Nat) : P M i j ≤ P M (i + 1) j ∧ P M (i + 1) j ≤ P M i j + 1 := (P_hv M i).2 j
theorem P_d (M : Nat → Nat → Bool) (i j : Nat) : P M i j ≤ P M i (j + 1) ∧ P M i (j + 1) ≤ P M i j + 1 := (P_hv M i).1 j
theorem P_diag (M : Nat → Nat → Bool) (i j : Nat) : P M (i + 1) (j + 1) ≤ P M i j + 1 := by
  have := P_r M i j; have := P_d M i j
  rw [P_succ]; split <;> omega
theorem P_le (M : Nat → Nat → Bool) (i j : Nat) : P M i j ≤ i ∧ P M i j ≤ j := by
  constructor
  · induction i with
    | zero => simp [P_zl]
    | succ i ih => have := P_r M i j; omega
  · induction j with
    | zero => simp [P_zr]
    | succ j ih => have := P_d M i j; omega
theorem P_mono_r (M : Nat → Nat → Bool) (i j t : Nat) : P M i j ≤ P M (i + t) j := by
  induction t with
  | zero => simp
  | succ t ih => have := P_r M (i + t) j; rw [← Nat.add_assoc]; omega
theorem P_mono_d (M : Nat → Nat → Bool) (i j t : Nat) : P M i j ≤ P M i (j + t) := by
  induction t with
  | zero => simp
  | succ t ih => have := P_d M i (j + t); rw [← Nat.add_assoc]; omega

/-- the relation, read from the other end -/
def R (n m : Nat) (M : Nat → Nat → Bool) (i j : Nat) : Bool := decide (i < n) && decide (j < m) && M (n - 1 - i) (m - 1 - j)

def InBox (n m : Nat) (M : Nat → Nat → Bool) : Prop := ∀ i j, M i j = true → i < n ∧ j < m

theorem R_box (n m : Nat) (M : Nat → Nat → Bool) : InBox n m (R n m M) := by
  intro i j h
  simp [R] at h
  omega

theorem R_R (n m : Nat) (M : Nat → Nat → Bool) (h : InBox n m M) : R n m (R n m M) = M := by
  funext i j
  by_cases hi : i < n
  · by_cases hj : j < m
    · have e1 : n - 1 - (n - 1 - i) = i := by omega
      have e2 : m - 1 - (m - 1 - j) = j := by omega
      have e3 : n - 1 - i < n := by omega
      have e4 : m - 1 - j < m := by omega
      simp [R, hi, hj, e1, e2, e3, e4]
    · have : M i j ≠ true := fun hm => hj (h i j hm).2
      simp [R, hj, this]
  · have : M i j ≠ true := fun hm => hi (h i j hm).1
    simp [R, hi, this]

theorem P_super (n m : Nat) (M : Nat → Nat → Bool) (i : Nat) :
    ∀ j, i ≤ n → j ≤ m → P M (n - i) (m - j) + P (R n m M) i j ≤ P M n m := by
  induction i with
  | zero =>
    intro j _ hj
    have := P_mono_d M n (m - j) j
    rw [Nat.sub_add_cancel hj] at this
    simpa [P_zl] using this
  | succ i ih =>
    intro j
    induction j with
    | zero =>
      intro hi _
      have := P_mono_r M (n - (i + 1)) m (i + 1)
      rw [Nat.sub_add_cancel hi] at this
      simpa [P_zr] using this
    | succ j jh =>
      intro hi hj
      obtain ⟨x, hx⟩ : ∃ x, n = x + (i + 1) := ⟨n - (i + 1), by omega⟩
      obtain ⟨y, hy⟩ : ∃ y, m = y + (j + 1) := ⟨m - (j + 1), by omega⟩
      have e1 : n - (i + 1) = x := by omega
      have e2 : m - (j + 1) = y := by omega
      have e3 : n - i = x + 1 := by omega
      have e4 : m - j = y + 1 := by omega
      have h1 := ih j (by omega) (by omega)
      have h2 := ih (j + 1) (by omega) hj
      have h3 := jh hi (by omega)
      rw [e3, e4] at h1
      rw [e3, e2] at h2
      rw [e1, e4] at h3
      rw [e1, e2, P_succ]
      have r1 := P_r M x y
      have r2 := P_d M x y
      have eR : R n m M i j = M x y := by
        have a1 : n - 1 - i = x := by omega
        have a2 : m - 1 - j = y := by omega
        have a3 : i < n := by omega
        have a4 : j < m := by omega
        simp [R, a1, a2, a3, a4]
      rw [eR]
      by_cases hm : M x y = true
      · have := P_succ M x y
        rw [if_pos hm] at this
        rw [if_pos hm]
        omega
      · rw [if_neg hm]
        omega

theorem P_rev (n m : Nat) (M : Nat → Nat → Bool) (h : InBox n m M) : P (R n m M) n m = P M n m := by
  have h1 := P_super n m M n m (Nat.le_refl _) (Nat.le_refl _)
  have h2 := P_super n m (R n m M) n m (Nat.le_refl _) (Nat.le_refl _)
  rw [R_R n m M h] at h2
  simp [P_zl] at h1 h2
  omega

/-- the number of edits from the start to (x, y), on the grid without ends -/
def D (M : Nat → Nat → Bool) (x y : Nat) : Int := (x : Int) + y - 2 * (P M x y : Int)

theorem D_r (M : Nat → Nat → Bool) (x y : Nat) : D M (x + 1) y ≤ D M x y + 1 ∧ D M x y ≤ D M (x + 1) y + 1 := by
  have := P_r M x y; unfold D; omega
theorem D_d (M : Nat → Nat → Bool) (x y : Nat) : D M x (y + 1) ≤ D M x y + 1 ∧ D M x y ≤ D M x (y + 1) + 1 := by
  have := P_d M x y; unfold D; omega
theorem D_diag (M : Nat → Nat → Bool) (x y : Nat) : D M x y ≤ D M (x + 1) (y + 1) := by
  have := P_diag M x y; unfold D; omega
theorem D_match (M : Nat → Nat → Bool) (x y : Nat) (h : M x y = true) : D M (x + 1) (y + 1) = D M x y := by
  have := P_succ M x y; rw [if_pos h] at this; unfold D; omega
theorem D_nomatch (M : Nat → Nat → Bool) (x y : Nat) (h : M x y = false) :
    D M (x + 1) (y + 1) = D M x (y + 1) + 1 ∨ D M (x + 1) (y + 1) = D M (x + 1) y + 1 := by
  have := P_succ M x y; rw [if_neg (by simp [h])] at this; unfold D; omega
theorem D_nomatch_le (M : Nat → Nat → Bool) (x y : Nat) (h : M x y = false) :
    D M (x + 1) (y + 1) ≤ D M x (y + 1) + 1 ∧ D M (x + 1) (y + 1) ≤ D M (x + 1) y + 1 := by
  have := P_succ M x y; rw [if_neg (by simp [h])] at this; unfold D; omega
theorem D_abs (M : Nat → Nat → Bool) (x y : Nat) : (x : Int) - y ≤ D M x y ∧ (y : Int) - x ≤ D M x y := by
  have := P_le M x y; unfold D; omega
theorem D_le (M : Nat → Nat → Bool) (x y : Nat) : D M x y ≤ (x : Int) + y := by unfold D; omega
theorem D_par (M : Nat → Nat → Bool) (x y : Nat) : D M x y % 2 = ((x : Int) - y) % 2 := by unfold D; omega
theorem D_diags (M : Nat → Nat → Bool) (x y t : Nat) : D M x y ≤ D M (x + t) (y + t) := by
  induction t with
  | zero => simp
  | succ t ih => have := D_diag M (x + t) (y + t); rw [← Nat.add_assoc, ← Nat.add_assoc]; omega
theorem D_rs (M : Nat → Nat → Bool) (x y t : Nat) : D M (x + t) y ≤ D M x y + t := by
  induction t with
  | zero => simp
  | succ t ih => have := (D_r M (x + t) y).1; rw [← Nat.add_assoc]; omega
theorem D_ds (M : Nat → Nat → Bool) (x y t : Nat) : D M x (y + t) ≤ D M x y + t := by
  induction t with
  | zero => simp
  | succ t ih => have := (D_d M x (y + t)).1; rw [← Nat.add_assoc]; omega

/-- a point of a shortest way at c edits from the start -/
theorem opt (n m : Nat) (M : Nat → Nat → Bool) (c : Int) (hc : c ≤ D M n m) :
    ∀ s i j, i + j ≤ s → i ≤ n → j ≤ m → P M (n - i) (m - j) + P (R n m M) i j = P M n m → D M (n - i) (m - j) ≤ c →
      ∃ x y, x ≤ n ∧ y ≤ m ∧ D M x y = c ∧ P M x y + P (R n m M) (n - x) (m - y) = P M n m := by
  intro s
  induction s with
  | zero =>
    intro i j hs hi hj hp hd
    obtain rfl : i = 0 := by omega
    obtain rfl : j = 0 := by omega
    simp at hd hp
    exact ⟨n, m, Nat.le_refl _, Nat.le_refl _, by omega, by simpa using hp⟩
  | succ s ih =>
    intro i j hs hi hj hp hd
    by_cases he : D M (n - i) (m - j) = c
    · exact ⟨n - i, m - j, by omega, by omega, he, by
        rw [show n - (n - i) = i from by omega, show m - (m - j) = j from by omega]; exact hp⟩
    have hlt : D M (n - i) (m - j) < c := by omega
    match i, j with
    | 0, 0 => simp at hd hlt; omega
    | 0, j + 1 =>
      have a := P_super n m M 0 j (by omega) (by omega)
      have e : m - j = (m - (j + 1)) + 1 := by omega
      have b := P_d M n (m - (j + 1))
      simp [P_zl] at hp a
      simp only [Nat.sub_zero] at hlt
      rw [← e] at b
      refine ih 0 j (by omega) (by omega) (by omega) (by simp [P_zl]; omega) ?_
      simp only [Nat.sub_zero]
      unfold D at hlt ⊢; omega
    | i + 1, 0 =>
      have a := P_super n m M i 0 (by omega) (by omega)
      have e : n - i = (n - (i + 1)) + 1 := by omega
      have b := P_r M (n - (i + 1)) m
      simp [P_zr] at hp a
      simp only [Nat.sub_zero] at hlt
      rw [← e] at b
      refine ih i 0 (by omega) (by omega) (by omega) (by simp [P_zr]; omega) ?_
      simp only [Nat.sub_zero]
      unfold D at hlt ⊢; omega
    | i + 1, j + 1 =>
      obtain ⟨x, hx⟩ : ∃ x, n = x + (i + 1) := ⟨n - (i + 1), by omega⟩
      obtain ⟨y, hy⟩ : ∃ y, m = y + (j + 1) := ⟨m - (j + 1), by omega⟩
      have e1 : n - (i + 1) = x := by omega
      have e2 : m - (j + 1) = y := by omega
      have e3 : n - i = x + 1 := by omega
      have e4 : m - j = y + 1 := by omega
      have eR : R n m M i j = M x y := by
        have a1 : n - 1 - i = x := by omega
        have a2 : m - 1 - j = y := by omega
        have a3 : i < n := by omega
        have a4 : j < m := by omega
        simp [R, a1, a2, a3, a4]
      rw [e1, e2, P_succ, eR] at hp
      rw [e1, e2] at hlt
      by_cases hm : M x y = true
      · rw [if_pos hm] at hp
        have q := P_succ M x y
        rw [if_pos hm] at q
        refine ih i j (by omega) (by omega) (by omega) (by rw [e3, e4]; omega) ?_
        rw [e3, e4, D_match M x y hm]; omega
      · rw [if_neg hm] at hp
        by_cases hb : P (R n m M) (i + 1) j ≤ P (R n m M) i (j + 1)
        · have a := P_super n m M i (j + 1) (by omega) (by omega)
          rw [e3, e2] at a
          have b := P_r M x y
          refine ih i (j + 1) (by omega) (by omega) (by omega) (by rw [e3, e2]; omega) ?_
          rw [e3, e2]; unfold D at hlt ⊢; omega
        · have a := P_super n m M (i + 1) j (by omega) (by omega)
          rw [e1, e4] at a
          have b := P_d M x y
          refine ih (i + 1) j (by omega) (by omega) (by omega) (by rw [e1, e4]; omega) ?_
          rw [e1, e4]; unfold D at hlt ⊢; omega

theorem opt' (n m : Nat) (M : Nat → Nat → Bool) (h : InBox n m M) (c : Int) (h0 : 0 ≤ c) (hc : c ≤ D M n m) :
    ∃ x y, x ≤ n ∧ y ≤ m ∧ D M x y = c ∧ D (R n m M) (n - x) (m - y) = D M n m - c := by
  obtain ⟨x, y, hx, hy, hd, hp⟩ := opt n m M c hc (n + m) n m (Nat.le_refl _) (Nat.le_refl _) (Nat.le_refl _)
    (by simp [P_zl, P_rev n m M h]) (by simp [D, P_zl]; omega)
  refine ⟨x, y, hx, hy, hd, ?_⟩
  unfold D at hd ⊢
  omega


theorem P_out_r (n m : Nat) (M : Nat → Nat → Bool) (h : InBox n m M) (x y : Nat) (hx : n ≤ x) : P M (x + 1) y = P M x y := by
  induction y with
  | zero => simp [P_zr]
  | succ y ih =>
    have : ¬ M x y = true := fun hm => by have := (h x y hm).1; omega
    have := P_d M x y
    rw [P_succ, if_neg ‹_›]; omega
theorem P_out_d (n m : Nat) (M : Nat → Nat → Bool) (h : InBox n m M) (x y : Nat) (hy : m ≤ y) : P M x (y + 1) = P M x y := by
  induction x with
  | zero => simp [P_zl]
  | succ x ih =>
    have : ¬ M x y = true := fun hm => by have := (h x y hm).2; omega
    have := P_r M x y
    rw [P_succ, if_neg ‹_›]; omega
theorem P_le_n (n m : Nat) (M : Nat → Nat → Bool) (h : InBox n m M) (x y : Nat) : P M x y ≤ n := by
  by_cases hx : x ≤ n
  · have := (P_le M x y).1; omega
  · obtain ⟨t, rfl⟩ : ∃ t, x = n + t := ⟨x - n, by omega⟩
    clear hx
    induction t with
    | zero => exact (P_le M n y).1
    | succ t ih => have := P_out_r n m M h (n + t) y (by omega); rw [← Nat.add_assoc]; omega

/-- how far the diagonal runs on over equal lines -/
def slide (M : Nat → Nat → Bool) : Nat → Nat → Nat → Nat
  | 0, _, _ => 0
  | f + 1, x, y => if M x y then slide M f (x + 1) (y + 1) + 1 else 0

theorem slide_run (M : Nat → Nat → Bool) (f : Nat) : ∀ x y i, i < slide M f x y → M (x + i) (y + i) = true := by
  induction f with
  | zero => intro x y i h; simp [slide] at h
  | succ f ih =>
    intro x y i h
    unfold slide at h
    split at h
    · match i with
      | 0 => simpa using ‹_›
      | i + 1 =>
        have := ih (x + 1) (y + 1) i (by omega)
        rw [show x + (i + 1) = x + 1 + i from by omega, show y + (i + 1) = y + 1 + i from by omega]; exact this
    · omega
theorem slide_stop (n m : Nat) (M : Nat → Nat → Bool) (h : InBox n m M) (f : Nat) :
    ∀ x y, n ≤ x + f → M (x + slide M f x y) (y + slide M f x y) = false := by
  induction f with
  | zero =>
    intro x y hx
    cases hm : M (x + slide M 0 x y) (y + slide M 0 x y) with
    | false => rfl
    | true => have := (h _ _ hm).1; simp [slide] at this; omega
  | succ f ih =>
    intro x y hx
    unfold slide
    split
    · have := ih (x + 1) (y + 1) (by omega)
      rw [show x + (slide M f (x + 1) (y + 1) + 1) = x + 1 + slide M f (x + 1) (y + 1) from by omega,
        show y + (slide M f (x + 1) (y + 1) + 1) = y + 1 + slide M f (x + 1) (y + 1) from by omega]
      exact this
    · simpa using ‹¬ M x y = true›
theorem slide_D (M : Nat → Nat → Bool) (x y t : Nat) (h : ∀ i, i < t → M (x + i) (y + i) = true) : D M (x + t) (y + t) = D M x y := by
  induction t with
  | zero => rfl
  | succ t ih =>
    rw [← Nat.add_assoc, ← Nat.add_assoc, D_match M _ _ (h t (by omega)), ih fun i hi => h i (by omega)]

/-- where the round d begins on the diagonal k, from the row before -/
def st (d k : Int) (r : Int → Int) : Int := if k = -d ∨ (k ≠ d ∧ r (k - 1) < r (k + 1)) then r (k + 1) else r (k - 1) + 1

/-- row 0: before the first round; row (d + 1): behind the round d -/
def row (M : Nat → Nat → Bool) (n : Nat) : Nat → Int → Int
  | 0 => fun _ => 0
  | d + 1 => fun k => st d k (row M n d) + (slide M n (st d k (row M n d)).toNat (st d k (row M n d) - k).toNat : Int)

def K (d : Nat) (k : Int) : Prop := -(d : Int) ≤ k ∧ k ≤ d ∧ (k - d) % 2 = 0

def Far (M : Nat → Nat → Bool) (d : Nat) (k v : Int) : Prop :=
  ∃ X Y : Nat, v = X ∧ (X : Int) - Y = k ∧ D M X Y ≤ d ∧ (d : Int) < D M (X + 1) (Y + 1)

theorem far_max {M : Nat → Nat → Bool} {d : Nat} {k v : Int} (hf : Far M d k v) (X Y : Nat) (hk : (X : Int) - Y = k) (hd : D M X Y ≤ d) : (X : Int) ≤ v := by
  obtain ⟨X', Y', rfl, hk', h1, h2⟩ := hf
  by_cases hx : X ≤ X'
  · omega
  · obtain ⟨t, rfl⟩ : ∃ t, X = X' + 1 + t := ⟨X - (X' + 1), by omega⟩
    obtain rfl : Y = Y' + 1 + t := by omega
    have := D_diags M (X' + 1) (Y' + 1) t
    omega

theorem far_step (n m : Nat) (M : Nat → Nat → Bool) (h : InBox n m M) (d : Nat) (k : Int) (x y : Nat) (hk : (x : Int) - y = k) (hd : D M x y ≤ (d + 1 : Nat))
    (hl : ∀ X Y : Nat, (X : Int) - Y = k - 1 → D M X Y ≤ d → X + 1 ≤ x) (hr : ∀ X Y : Nat, (X : Int) - Y = k + 1 → D M X Y ≤ d → X ≤ x) :
    Far M (d + 1) k ((x : Int) + slide M n x y) := by
  have h1 := slide_run M n x y
  have h2 := slide_stop n m M h n x y (by omega)
  generalize slide M n x y = t at *
  have h3 := slide_D M x y t h1
  refine ⟨x + t, y + t, by omega, by omega, by omega, ?_⟩
  have l := hl (x + t) (y + t + 1) (by omega)
  have r := hr (x + t + 1) (y + t) (by omega)
  have := D_nomatch M (x + t) (y + t) h2
  omega

theorem row_far (n m : Nat) (M : Nat → Nat → Bool) (h : InBox n m M) (d : Nat) : ∀ k, K d k →
    Far M d k (row M n (d + 1) k) ∧ 0 ≤ st d k (row M n d) ∧ k ≤ st d k (row M n d) := by
  induction d with
  | zero =>
    intro k hk
    obtain rfl : k = 0 := by unfold K at hk; omega
    have e : st (0 : Nat) 0 (row M n 0) = 0 := by simp [st, row]
    refine ⟨?_, by rw [e]; omega, by rw [e]; omega⟩
    have e2 : row M n (0 + 1) 0 = (slide M n 0 0 : Int) := by
      show st (0 : Nat) 0 (row M n 0) + (slide M n (st (0 : Nat) 0 (row M n 0)).toNat (st (0 : Nat) 0 (row M n 0) - 0).toNat : Int) = _
      rw [e]; simp
    rw [e2]
    have h1 := slide_run M n 0 0
    have h2 := slide_stop n m M h n 0 0 (by omega)
    generalize slide M n 0 0 = t at *
    have h3 := slide_D M 0 0 t h1
    simp only [Nat.zero_add] at *
    refine ⟨t, t, rfl, by omega, ?_, ?_⟩
    · rw [h3]; simp [D, P_zl]
    · have := D_nomatch M t t h2
      have := D_abs M t (t + 1)
      have := D_abs M (t + 1) t
      omega
  | succ d ih =>
    intro k hk
    unfold K at hk
    -- the start, a point of the diagonal
    have key : ∃ x y : Nat, st ((d + 1 : Nat) : Int) k (row M n (d + 1)) = x ∧ (x : Int) - y = k ∧ D M x y ≤ (d + 1 : Nat) ∧
        (∀ X Y : Nat, (X : Int) - Y = k - 1 → D M X Y ≤ d → X + 1 ≤ x) ∧ (∀ X Y : Nat, (X : Int) - Y = k + 1 → D M X Y ≤ d → X ≤ x) := by
      by_cases c1 : k = -((d + 1 : Nat) : Int)
      · have hK : K d (k + 1) := by unfold K; omega
        obtain ⟨X, Y, e, e1, e2, _⟩ := (ih _ hK).1
        refine ⟨X, Y + 1, ?_, by omega, ?_, ?_, ?_⟩
        · unfold st; rw [if_pos (Or.inl c1), e]
        · have := (D_d M X Y).1; omega
        · intro X' Y' q1 q2; have := D_abs M X' Y'; omega
        · intro X' Y' q1 q2; have := far_max (ih _ hK).1 X' Y' q1 q2; omega
      · by_cases c2 : k = ((d + 1 : Nat) : Int)
        · have hK : K d (k - 1) := by unfold K; omega
          obtain ⟨X, Y, e, e1, e2, _⟩ := (ih _ hK).1
          refine ⟨X + 1, Y, ?_, by omega, ?_, ?_, ?_⟩
          · unfold st; rw [if_neg (by omega), e]; omega
          · have := (D_r M X Y).1; omega
          · intro X' Y' q1 q2; have := far_max (ih _ hK).1 X' Y' q1 q2; omega
          · intro X' Y' q1 q2; have := D_abs M X' Y'; omega
        · have hK1 : K d (k - 1) := by unfold K; omega
          have hK2 : K d (k + 1) := by unfold K; omega
          obtain ⟨X1, Y1, e1, f1, g1, _⟩ := (ih _ hK1).1
          obtain ⟨X2, Y2, e2, f2, g2, _⟩ := (ih _ hK2).1
          by_cases c3 : row M n (d + 1) (k - 1) < row M n (d + 1) (k + 1)
          · refine ⟨X2, Y2 + 1, ?_, by omega, ?_, ?_, ?_⟩
            · unfold st; rw [if_pos (Or.inr ⟨c2, c3⟩), e2]
            · have := (D_d M X2 Y2).1; omega
            · intro X' Y' q1 q2; have := far_max (ih _ hK1).1 X' Y' q1 q2; omega
            · intro X' Y' q1 q2; have := far_max (ih _ hK2).1 X' Y' q1 q2; omega
          · refine ⟨X1 + 1, Y1, ?_, by omega, ?_, ?_, ?_⟩
            · unfold st; rw [if_neg (by omega), e1]; omega
            · have := (D_r M X1 Y1).1; omega
            · intro X' Y' q1 q2; have := far_max (ih _ hK1).1 X' Y' q1 q2; omega
            · intro X' Y' q1 q2; have := far_max (ih _ hK2).1 X' Y' q1 q2; omega
    obtain ⟨x, y, e, hxy, hD, hl, hr⟩ := key
    refine ⟨?_, by omega, by omega⟩
    have e2 : row M n (d + 1 + 1) k = (x : Int) + slide M n x y := by
      show st ((d + 1 : Nat) : Int) k (row M n (d + 1)) + (slide M n (st ((d + 1 : Nat) : Int) k (row M n (d + 1))).toNat (st ((d + 1 : Nat) : Int) k (row M n (d + 1)) - k).toNat : Int) = _
      rw [e, show ((x : Int) - k).toNat = y from by omega]; simp
    rw [e2]
    exact far_step n m M h d k x y hxy hD hl hr

theorem row_bounds (n m : Nat) (M : Nat → Nat → Bool) (h : InBox n m M) (d : Nat) (k : Int) (hk : K d k) :
    0 ≤ row M n (d + 1) k ∧ k ≤ row M n (d + 1) k ∧ row M n (d + 1) k ≤ n + d ∧ row M n (d + 1) k - k ≤ n + d := by
  obtain ⟨X, Y, e, e1, e2, _⟩ := (row_far n m M h d k hk).1
  have a := P_le M X Y
  have b := P_le_n n m M h X Y
  unfold D at e2
  omega

/-- the meeting tests of the two half rounds -/
def meetF (n m : Nat) (M : Nat → Nat → Bool) (d : Nat) (k : Int) : Prop :=
  ((n : Int) - m) % 2 ≠ 0 ∧ -(d : Int) < k - (n - m) ∧ k - (n - m) < d ∧ (n : Int) - row (R n m M) n d (-(k - (n - m))) ≤ row M n (d + 1) k
def meetB (n m : Nat) (M : Nat → Nat → Bool) (d : Nat) (j : Int) : Prop :=
  ((n : Int) - m) % 2 = 0 ∧ -(d : Int) ≤ j + (n - m) ∧ j + (n - m) ≤ d ∧ (n : Int) - row (R n m M) n (d + 1) (-j) ≤ row M n (d + 1) (j + (n - m))

theorem far_has {M : Nat → Nat → Bool} {d : Nat} {k v : Int} (hf : Far M d k v) (x y : Nat) (hk : (x : Int) - y = k) (hx : (x : Int) ≤ v) : D M x y ≤ d := by
  obtain ⟨X, Y, rfl, h1, h2, _⟩ := hf
  obtain ⟨t, rfl⟩ : ∃ t, X = x + t := ⟨X - x, by omega⟩
  obtain rfl : Y = y + t := by omega
  have := D_diags M x y t
  omega

theorem D_rev (n m : Nat) (M : Nat → Nat → Bool) (h : InBox n m M) : D (R n m M) n m = D M n m := by
  unfold D; rw [P_rev n m M h]

theorem D_super (n m : Nat) (M : Nat → Nat → Bool) (x y : Nat) (hx : x ≤ n) (hy : y ≤ m) : D M n m ≤ D M x y + D (R n m M) (n - x) (m - y) := by
  have := P_super n m M (n - x) (m - y) (by omega) (by omega)
  rw [show n - (n - x) = x from by omega, show m - (m - y) = y from by omega] at this
  unfold D; omega

theorem meetF_exists (n m : Nat) (M : Nat → Nat → Bool) (h : InBox n m M) (e : Nat) (he : D M n m = 2 * (e : Int) - 1) : ∃ k, K e k ∧ meetF n m M e k := by
  have hp := D_par M n m
  have hab := D_abs M n m
  obtain ⟨x, y, hx, hy, h1, h2⟩ := opt' n m M h e (by omega) (by omega)
  have a1 := D_abs M x y
  have a2 := D_abs (R n m M) (n - x) (m - y)
  have p1 := D_par M x y
  have hK : K e ((x : Int) - y) := by unfold K; omega
  refine ⟨(x : Int) - y, hK, by omega, by omega, by omega, ?_⟩
  obtain ⟨e', rfl⟩ : ∃ e', e = e' + 1 := ⟨e - 1, by omega⟩
  have hK2 : K e' (-((x : Int) - y - (n - m))) := by unfold K; omega
  have f1 := far_max (row_far n m M h (e' + 1) _ hK).1 x y rfl (by omega)
  have f2 := far_max (row_far n m (R n m M) (R_box n m M) e' _ hK2).1 (n - x) (m - y) (by omega) (by omega)
  omega

theorem meetB_exists (n m : Nat) (M : Nat → Nat → Bool) (h : InBox n m M) (e : Nat) (he : D M n m = 2 * (e : Int)) : ∃ j, K e j ∧ meetB n m M e j := by
  have hp := D_par M n m
  have hab := D_abs M n m
  obtain ⟨x, y, hx, hy, h1, h2⟩ := opt' n m M h e (by omega) (by omega)
  have a1 := D_abs M x y
  have a2 := D_abs (R n m M) (n - x) (m - y)
  have p1 := D_par M x y
  have hK : K e ((x : Int) - y) := by unfold K; omega
  have hK2 : K e ((x : Int) - y - (n - m)) := by unfold K; omega
  have hK3 : K e (-((x : Int) - y - (n - m))) := by unfold K; omega
  have ek : (x : Int) - y - (n - m) + (n - m) = x - y := by omega
  refine ⟨(x : Int) - y - (n - m), hK2, by omega, by omega, by omega, ?_⟩
  have f1 := far_max (row_far n m M h e _ hK).1 x y rfl (by omega)
  have f2 := far_max (row_far n m (R n m M) (R_box n m M) e _ hK3).1 (n - x) (m - y) (by omega) (by omega)
  rw [ek]
  omega

/-- what the law asks of the point -/
def Good (n m : Nat) (M : Nat → Nat → Bool) (X Y : Nat) : Prop :=
  X ≤ n ∧ Y ≤ m ∧ P M X Y + P (R n m M) (n - X) (m - Y) = P M n m ∧ ¬ (X = 0 ∧ Y = 0) ∧ ¬ (X = n ∧ Y = m)

theorem D11 (M : Nat → Nat → Bool) (h00 : M 0 0 = false) (x : Nat) (hx : 1 ≤ x) : 1 ≤ D M x x := by
  obtain ⟨t, rfl⟩ : ∃ t, x = 1 + t := ⟨x - 1, by omega⟩
  have a := D_diags M 1 1 t
  have b := D_nomatch M 0 0 h00
  have c1 := D_abs M 0 1
  have c2 := D_abs M 1 0
  simp only [Nat.zero_add] at b
  omega

theorem Dtot_pos (n m : Nat) (M : Nat → Nat → Bool) (h00 : M 0 0 = false) (hn : 1 ≤ n) (hm : 1 ≤ m) (hend : M (n - 1) (m - 1) = false) : 2 ≤ D M n m := by
  obtain ⟨n', rfl⟩ : ∃ n', n = n' + 1 := ⟨n - 1, by omega⟩
  obtain ⟨m', rfl⟩ : ∃ m', m = m' + 1 := ⟨m - 1, by omega⟩
  simp only [Nat.add_sub_cancel] at hend
  have b := D_nomatch M n' m' hend
  have c1 := D_abs M n' (m' + 1)
  have c2 := D_abs M (n' + 1) m'
  by_cases e1 : n' = m' + 1
  · subst e1; have := D11 M h00 (m' + 1) (by omega); omega
  · by_cases e2 : m' = n' + 1
    · subst e2; have := D11 M h00 (n' + 1) (by omega); omega
    · omega

theorem core (n m : Nat) (M : Nat → Nat → Bool) (h : InBox n m M) (hpos : 2 ≤ D M n m) (d e : Nat) (k v u : Int) (hk : K d k) (hke : K e (-(k - (n - m))))
    (f1 : Far M d k v) (f2 : Far (R n m M) e (-(k - (n - m))) u) (hvu : (n : Int) - u ≤ v) (hed : e ≤ d) (hde : d ≤ e + 1) (htot : (d : Int) + e ≤ D M n m) :
    ∃ X Y : Nat, v = X ∧ (X : Int) - Y = k ∧ Good n m M X Y := by
  unfold K at hk hke
  obtain ⟨X, Y, ev, exy, hD, hD'⟩ := f1
  have hle := D_le M n m
  -- the point lies in the box
  have hXY : X ≤ n ∧ Y ≤ m := by
    have box : ∀ x y : Nat, (x : Int) - y = k → x ≤ X → x ≤ n → y ≤ m → (x = n ∨ y = m) → X = x := by
      intro x y hxy hxX hxn hym hb
      by_cases hlt : x < X
      · exfalso
        have q1 : D M (x + 1) (y + 1) ≤ d := by
          obtain ⟨t, rfl⟩ : ∃ t, X = x + 1 + t := ⟨X - (x + 1), by omega⟩
          obtain rfl : Y = y + 1 + t := by omega
          have := D_diags M (x + 1) (y + 1) t
          omega
        have nm : M x y = false := by
          cases hm' : M x y with
          | false => rfl
          | true => have := h x y hm'; omega
        rcases hb with rfl | rfl
        · by_cases hy : y = m
          · subst hy
            have o1 := P_out_r x y M h x (y + 1) (Nat.le_refl _)
            have o2 := P_out_d x y M h x y (Nat.le_refl _)
            unfold D at q1 htot; omega
          · obtain ⟨s, hs⟩ : ∃ s, m = y + 1 + s := ⟨m - (y + 1), by omega⟩
            have q2 := D_ds M x (y + 1) s
            rw [← hs] at q2
            have q3 := D_nomatch M x y nm
            have q4 := P_out_r x m M h x y (Nat.le_refl _)
            have q5 := D_d M x y
            unfold D at *
            omega
        · by_cases hx : x = n
          · subst hx
            have o1 := P_out_r x y M h x (y + 1) (Nat.le_refl _)
            have o2 := P_out_d x y M h x y (Nat.le_refl _)
            unfold D at q1 htot; omega
          · obtain ⟨s, hs⟩ : ∃ s, n = x + 1 + s := ⟨n - (x + 1), by omega⟩
            have q2 := D_rs M (x + 1) y s
            rw [← hs] at q2
            have q3 := D_nomatch M x y nm
            have q4 := P_out_d n y M h x y (Nat.le_refl _)
            have q5 := D_r M x y
            unfold D at *
            omega
      · omega
    by_cases c1 : X ≤ n ∧ Y ≤ m
    · exact c1
    · exfalso
      have hkn : k ≤ n ∧ -(m : Int) ≤ k := by omega
      by_cases c2 : (n : Int) - k ≤ m
      · by_cases c3 : n ≤ X
        · have := box n (n - k).toNat (by omega) c3 (Nat.le_refl _) (by omega) (Or.inl rfl)
          omega
        · omega
      · by_cases c3 : (m : Int) + k ≤ X
        · have := box (m + k).toNat m (by omega) (by omega) (by omega) (Nat.le_refl _) (Or.inr rfl)
          omega
        · omega
  obtain ⟨hX, hY⟩ := hXY
  have r2 := far_has f2 (n - X) (m - Y) (by omega) (by omega)
  have sup := D_super n m M X Y hX hY
  refine ⟨X, Y, ev, exy, hX, hY, ?_, ?_, ?_⟩
  · have sup2 := P_super n m M (n - X) (m - Y) (by omega) (by omega)
    rw [show n - (n - X) = X from by omega, show m - (m - Y) = Y from by omega] at sup2
    unfold D at *
    omega
  · rintro ⟨rfl, rfl⟩
    have := D_le M 1 1
    simp only [Nat.zero_add] at hD'
    omega
  · rintro ⟨rfl, rfl⟩
    omega

theorem F_good (n m : Nat) (M : Nat → Nat → Bool) (h : InBox n m M) (hpos : 2 ≤ D M n m)
    (d : Nat) (k : Int) (hk : K d k) (hmeet : meetF n m M d k) (htot : 2 * (d : Int) - 1 ≤ D M n m) :
    ∃ X Y : Nat, row M n (d + 1) k = X ∧ (X : Int) - Y = k ∧ Good n m M X Y := by
  obtain ⟨hodd, g1, g2, g3⟩ := hmeet
  have hK := hk
  unfold K at hk
  obtain ⟨d', rfl⟩ : ∃ d', d = d' + 1 := ⟨d - 1, by omega⟩
  have hK2 : K d' (-(k - (n - m))) := by unfold K; omega
  exact core n m M h hpos (d' + 1) d' k _ _ hK hK2 (row_far n m M h (d' + 1) _ hK).1 (row_far n m (R n m M) (R_box n m M) d' _ hK2).1 g3 (by omega) (by omega) (by omega)

theorem B_good (n m : Nat) (M : Nat → Nat → Bool) (h : InBox n m M) (hpos : 2 ≤ D M n m)
    (d : Nat) (j : Int) (hj : K d j) (hmeet : meetB n m M d j) (htot : 2 * (d : Int) ≤ D M n m) :
    ∃ X Y : Nat, (n : Int) - row (R n m M) n (d + 1) (-j) = X ∧ (X : Int) - Y = j + (n - m) ∧ Good n m M X Y := by
  obtain ⟨hev, g1, g2, g3⟩ := hmeet
  have hK := hj
  unfold K at hj
  have hK1 : K d (-j) := by unfold K; omega
  have hK2 : K d (j + (n - m)) := by unfold K; omega
  have e1 : -(-j - ((n : Int) - m)) = j + (n - m) := by omega
  obtain ⟨X, Y, q1, q2, q3, q4, q5, q6, q7⟩ := core n m (R n m M) (R_box n m M) (by rw [D_rev n m M h]; exact hpos) d d (-j) _ _ hK1 (by rw [e1]; exact hK2)
    (row_far n m (R n m M) (R_box n m M) d _ hK1).1 (by rw [e1, R_R n m M h]; exact (row_far n m M h d _ hK2).1) (by omega) (Nat.le_refl _) (by omega) (by rw [D_rev n m M h]; omega)
  rw [R_R n m M h, P_rev n m M h] at q5
  refine ⟨n - X, m - Y, by omega, by omega, by omega, by omega, ?_, by omega, by omega⟩
  rw [show n - (n - X) = X from by omega, show m - (m - Y) = Y from by omega]
  omega

end Go.Proofs.Qxb6605269a.SplitMath
