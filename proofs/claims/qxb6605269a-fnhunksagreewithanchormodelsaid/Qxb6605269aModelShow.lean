import Derived.Test.Qxb6605269aModelMath
set_option linter.unusedVariables false
set_option linter.unusedSimpArgs false
namespace Go.Proofs.Qxb6605269a.ModelShow
open Go.Proofs.Qxb6605269a.ModelMath

def F1 (T : List Rc) (x : Nat) : Prop := ∃ (q : Nat) (r : Rc), T[q]? = some r ∧ r.k ≠ 32 ∧ q ≤ x ∧ x ≤ q + 3
def F2 (T : List Rc) (x : Nat) : Prop := ∃ (q : Nat) (r : Rc), T[q]? = some r ∧ r.k ≠ 32 ∧ x ≤ q ∧ q ≤ x + 3
theorem sh_iff (T : List Rc) (x : Nat) : Sh T x ↔ F1 T x ∨ F2 T x := by
  constructor
  · rintro ⟨q, r, h1, h2, h3, h4⟩
    by_cases e : q ≤ x
    · exact Or.inl ⟨q, r, h1, h2, e, h3⟩
    · exact Or.inr ⟨q, r, h1, h2, by omega, h4⟩
  · rintro (⟨q, r, h1, h2, h3, h4⟩ | ⟨q, r, h1, h2, h3, h4⟩)
    · exact ⟨q, r, h1, h2, h4, by omega⟩
    · exact ⟨q, r, h1, h2, by omega, h4⟩
theorem f1_chg {T : List Rc} {p : Nat} {r : Rc} (h : T[p]? = some r) (hr : r.k ≠ 32) : F1 T p := ⟨p, r, h, hr, Nat.le_refl _, by omega⟩

/-- how many unchanged lines stand behind the last change ahead of p -/
def Sn (T : List Rc) (p : Nat) (s : Int) : Prop :=
  (s = -1 ∧ ∀ (q : Nat) (r : Rc), q < p → T[q]? = some r → r.k = 32) ∨
  ∃ n : Nat, s = (n : Int) ∧ n + 1 ≤ p ∧ (∃ r, T[p - 1 - n]? = some r ∧ r.k ≠ 32) ∧ ∀ (q : Nat) (r : Rc), p - 1 - n < q → q < p → T[q]? = some r → r.k = 32
theorem sn_zero (T : List Rc) : Sn T 0 (-1) := Or.inl ⟨rfl, fun q r h => by omega⟩
theorem sn_lo {T : List Rc} {p : Nat} {s : Int} (h : Sn T p s) : -1 ≤ s ∧ s ≤ p := by
  rcases h with ⟨e, _⟩ | ⟨n, e, h1, _⟩ <;> omega
theorem sn_chg {T : List Rc} {p : Nat} {r : Rc} (h : T[p]? = some r) (hr : r.k ≠ 32) : Sn T (p + 1) 0 :=
  Or.inr ⟨0, rfl, by omega, ⟨r, by simpa using h, hr⟩, fun q r h1 h2 => by omega⟩
theorem sn_none {T : List Rc} {p : Nat} {r : Rc} {s : Int} (hs : Sn T p s) (h0 : s < 0) (h : T[p]? = some r) (hr : r.k = 32) : Sn T (p + 1) s ∧ ¬ F1 T p := by
  rcases hs with ⟨e, hq⟩ | ⟨n, e, _⟩
  · constructor
    · refine Or.inl ⟨e, fun q r' h1 h2 => ?_⟩
      by_cases e2 : q = p
      · subst e2; rw [h] at h2; simp only [Option.some.injEq] at h2; rw [← h2]; exact hr
      · exact hq q r' (by omega) h2
    · rintro ⟨q, r', h1, h2, h3, h4⟩
      by_cases e2 : q = p
      · subst e2; rw [h] at h1; simp only [Option.some.injEq] at h1; rw [← h1] at h2; exact h2 hr
      · exact h2 (hq q r' (by omega) h1)
  · omega
theorem sn_some {T : List Rc} {p : Nat} {r : Rc} {s : Int} (hs : Sn T p s) (h0 : 0 ≤ s) (h : T[p]? = some r) (hr : r.k = 32) : Sn T (p + 1) (s + 1) ∧ (F1 T p ↔ s + 1 ≤ 3) := by
  rcases hs with ⟨e, hq⟩ | ⟨n, e, h1, ⟨r1, hr1, hr2⟩, h3⟩
  · omega
  · constructor
    · refine Or.inr ⟨n + 1, by omega, by omega, ⟨r1, by rw [show p + 1 - 1 - (n + 1) = p - 1 - n from by omega]; exact hr1, hr2⟩, fun q r' q1 q2 q3 => ?_⟩
      by_cases e2 : q = p
      · subst e2; rw [h] at q3; simp only [Option.some.injEq] at q3; rw [← q3]; exact hr
      · exact h3 q r' (by omega) (by omega) q3
    · constructor
      · rintro ⟨q, r', q1, q2, q3, q4⟩
        by_cases e2 : q = p
        · subst e2; rw [h] at q1; simp only [Option.some.injEq] at q1; rw [← q1] at q2; exact absurd hr q2
        · by_cases e3 : p - 1 - n < q
          · exact absurd (h3 q r' e3 (by omega) q1) q2
          · omega
      · intro h4
        exact ⟨p - 1 - n, r1, hr1, hr2, by omega, by omega⟩

/-- how many unchanged lines stand ahead of the first change from m on -/
def Un (T : List Rc) (m : Nat) (s : Int) : Prop :=
  (s = -1 ∧ ∀ (q : Nat) (r : Rc), m ≤ q → T[q]? = some r → r.k = 32) ∨
  ∃ n : Nat, s = (n : Int) ∧ (∃ r, T[m + n]? = some r ∧ r.k ≠ 32) ∧ ∀ (q : Nat) (r : Rc), m ≤ q → q < m + n → T[q]? = some r → r.k = 32
theorem un_end (T : List Rc) : Un T T.length (-1) := Or.inl ⟨rfl, fun q r h1 h2 => by have := (List.getElem?_eq_some_iff.1 h2).1; omega⟩
theorem un_lo {T : List Rc} {m : Nat} {s : Int} (h : Un T m s) : -1 ≤ s ∧ s ≤ T.length := by
  rcases h with ⟨e, _⟩ | ⟨n, e, ⟨r, h1, _⟩, _⟩
  · omega
  · have := (List.getElem?_eq_some_iff.1 h1).1; omega
theorem un_chg {T : List Rc} {p : Nat} {r : Rc} (h : T[p]? = some r) (hr : r.k ≠ 32) : Un T p 0 :=
  Or.inr ⟨0, rfl, ⟨r, by simpa using h, hr⟩, fun q r h1 h2 => by omega⟩
theorem un_none {T : List Rc} {p : Nat} {r : Rc} {s : Int} (hs : Un T (p + 1) s) (h0 : s < 0) (h : T[p]? = some r) (hr : r.k = 32) : Un T p s ∧ ¬ F2 T p := by
  rcases hs with ⟨e, hq⟩ | ⟨n, e, _⟩
  · constructor
    · refine Or.inl ⟨e, fun q r' h1 h2 => ?_⟩
      by_cases e2 : q = p
      · subst e2; rw [h] at h2; simp only [Option.some.injEq] at h2; rw [← h2]; exact hr
      · exact hq q r' (by omega) h2
    · rintro ⟨q, r', h1, h2, h3, h4⟩
      by_cases e2 : q = p
      · subst e2; rw [h] at h1; simp only [Option.some.injEq] at h1; rw [← h1] at h2; exact h2 hr
      · exact h2 (hq q r' (by omega) h1)
  · omega
theorem un_some {T : List Rc} {p : Nat} {r : Rc} {s : Int} (hs : Un T (p + 1) s) (h0 : 0 ≤ s) (h : T[p]? = some r) (hr : r.k = 32) : Un T p (s + 1) ∧ (F2 T p ↔ s + 1 ≤ 3) := by
  rcases hs with ⟨e, hq⟩ | ⟨n, e, ⟨r1, hr1, hr2⟩, h3⟩
  · omega
  · constructor
    · refine Or.inr ⟨n + 1, by omega, ⟨r1, by rw [show p + (n + 1) = p + 1 + n from by omega]; exact hr1, hr2⟩, fun q r' q1 q2 q3 => ?_⟩
      by_cases e2 : q = p
      · subst e2; rw [h] at q3; simp only [Option.some.injEq] at q3; rw [← q3]; exact hr
      · exact h3 q r' (by omega) (by omega) q3
    · constructor
      · rintro ⟨q, r', q1, q2, q3, q4⟩
        by_cases e2 : q = p
        · subst e2; rw [h] at q1; simp only [Option.some.injEq] at q1; rw [← q1] at q2; exact absurd hr q2
        · by_cases e3 : q < p + 1 + n
          · exact absurd (h3 q r' (by omega) e3 q1) q2
          · omega
      · intro h4
        exact ⟨p + 1 + n, r1, hr1, hr2, by omega, by omega⟩

/-- the flags behind the first pass, up to p -/
def Fl1 (T : List Rc) (p : Nat) (f : Nat → Bool) : Prop := ∀ x, x < T.length → (f x = true ↔ x < p ∧ F1 T x)
/-- .. behind the second, down to m -/
def Fl2 (T : List Rc) (m : Nat) (f : Nat → Bool) : Prop := ∀ x, x < T.length → (f x = true ↔ F1 T x ∨ (m ≤ x ∧ F2 T x))
theorem fl1_zero (T : List Rc) : Fl1 T 0 (fun _ => false) := fun x hx => by simp
theorem fl1_set {T : List Rc} {p : Nat} {f : Nat → Bool} (h : Fl1 T p f) (hp : F1 T p) : Fl1 T (p + 1) (fun j => if j = p then true else f j) := by
  intro x hx
  by_cases e : x = p
  · subst e; simp [hp]
  · simp only [e, if_false, h x hx]
    constructor
    · rintro ⟨a, b⟩; exact ⟨by omega, b⟩
    · rintro ⟨a, b⟩; exact ⟨by omega, b⟩
theorem fl1_skip {T : List Rc} {p : Nat} {f : Nat → Bool} (h : Fl1 T p f) (hp : ¬ F1 T p) : Fl1 T (p + 1) f := by
  intro x hx
  rw [h x hx]
  constructor
  · rintro ⟨a, b⟩; exact ⟨by omega, b⟩
  · rintro ⟨a, b⟩
    by_cases e : x = p
    · subst e; exact absurd b hp
    · exact ⟨by omega, b⟩
theorem fl2_of {T : List Rc} {f : Nat → Bool} (h : Fl1 T T.length f) : Fl2 T T.length f := by
  intro x hx
  rw [h x hx]
  constructor
  · rintro ⟨_, b⟩; exact Or.inl b
  · rintro (b | ⟨b, _⟩)
    · exact ⟨hx, b⟩
    · omega
theorem fl2_set {T : List Rc} {p : Nat} {f : Nat → Bool} (h : Fl2 T (p + 1) f) (hp : F2 T p) : Fl2 T p (fun j => if j = p then true else f j) := by
  intro x hx
  by_cases e : x = p
  · subst e; simp [hp]
  · simp only [e, if_false, h x hx]
    constructor
    · rintro (a | ⟨a, b⟩)
      · exact Or.inl a
      · exact Or.inr ⟨by omega, b⟩
    · rintro (a | ⟨a, b⟩)
      · exact Or.inl a
      · exact Or.inr ⟨by omega, b⟩
theorem fl2_skip {T : List Rc} {p : Nat} {f : Nat → Bool} (h : Fl2 T (p + 1) f) (hp : F1 T p ∨ ¬ F2 T p) : Fl2 T p f := by
  intro x hx
  rw [h x hx]
  constructor
  · rintro (a | ⟨a, b⟩)
    · exact Or.inl a
    · exact Or.inr ⟨by omega, b⟩
  · rintro (a | ⟨a, b⟩)
    · exact Or.inl a
    · by_cases e : x = p
      · subst e
        rcases hp with hp | hp
        · exact Or.inl hp
        · exact absurd b hp
      · exact Or.inr ⟨by omega, b⟩
theorem fl2_sh {T : List Rc} {f : Nat → Bool} (h : Fl2 T 0 f) : ∀ x, x < T.length → (f x = true ↔ Sh T x) := by
  intro x hx
  rw [h x hx, sh_iff]
  constructor
  · rintro (a | ⟨_, b⟩)
    · exact Or.inl a
    · exact Or.inr b
  · rintro (a | b)
    · exact Or.inl a
    · exact Or.inr ⟨by omega, b⟩
end Go.Proofs.Qxb6605269a.ModelShow
