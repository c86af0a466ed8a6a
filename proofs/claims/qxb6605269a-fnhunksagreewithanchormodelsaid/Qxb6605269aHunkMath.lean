import Derived.Test.Qxb6605269aHunkBools
namespace Go.Proofs.Qxb6605269a.HunkMath
open Go.Proofs.Qxb6605269a.Mark

/-- g unchanged lines, then d removed ones and e added ones -/
structure Tr where
  g : Nat
  d : Nat
  e : Nat

/-- the marks from (i, j) on are the script's, up to (i', j') -/
def Seg (R D : Nat → Bool) : Nat → Nat → List Tr → Nat → Nat → Prop
  | i, j, [], i', j' => i' = i ∧ j' = j
  | i, j, t :: S, i', j' => (∀ k, k < t.g → R (i + k) = false ∧ D (j + k) = false) ∧ (∀ k, k < t.d → R (i + t.g + k) = true) ∧ (∀ k, k < t.e → D (j + t.g + k) = true) ∧ 1 ≤ t.d + t.e ∧ Seg R D (i + t.g + t.d) (j + t.g + t.e) S i' j'

theorem Seg.snoc {R D : Nat → Bool} (S : List Tr) : ∀ {i j i' j' : Nat}, Seg R D i j S i' j' → ∀ t : Tr, (∀ k, k < t.g → R (i' + k) = false ∧ D (j' + k) = false) → (∀ k, k < t.d → R (i' + t.g + k) = true) → (∀ k, k < t.e → D (j' + t.g + k) = true) → 1 ≤ t.d + t.e →
    Seg R D i j (S ++ [t]) (i' + t.g + t.d) (j' + t.g + t.e) := by
  induction S with
  | nil =>
    intro i j i' j' h t h1 h2 h3 h4
    obtain ⟨rfl, rfl⟩ := h
    exact ⟨h1, h2, h3, h4, rfl, rfl⟩
  | cons s S ih =>
    intro i j i' j' h t h1 h2 h3 h4
    obtain ⟨a1, a2, a3, a4, a5⟩ := h
    exact ⟨a1, a2, a3, a4, ih a5 t h1 h2 h3 h4⟩

def endA (i : Nat) : List Tr → Nat
  | [] => i
  | t :: S => endA (i + t.g + t.d) S
def endB (j : Nat) : List Tr → Nat
  | [] => j
  | t :: S => endB (j + t.g + t.e) S
theorem Seg.ends {R D : Nat → Bool} (S : List Tr) : ∀ {i j i' j' : Nat}, Seg R D i j S i' j' → i' = endA i S ∧ j' = endB j S := by
  induction S with
  | nil => intro i j i' j' h; exact h
  | cons s S ih => intro i j i' j' h; exact ih h.2.2.2.2
theorem endA_append (S T : List Tr) : ∀ i, endA i (S ++ T) = endA (endA i S) T := by
  induction S with
  | nil => intro i; rfl
  | cons s S ih => intro i; exact ih _
theorem endB_append (S T : List Tr) : ∀ j, endB j (S ++ T) = endB (endB j S) T := by
  induction S with
  | nil => intro i; rfl
  | cons s S ih => intro i; exact ih _
theorem endA_le (S : List Tr) : ∀ i, i ≤ endA i S := by
  induction S with
  | nil => intro i; exact Nat.le_refl _
  | cons s S ih => intro i; have := ih (i + s.g + s.d); simp only [endA]; omega
theorem endB_le (S : List Tr) : ∀ i, i ≤ endB i S := by
  induction S with
  | nil => intro i; exact Nat.le_refl _
  | cons s S ih => intro i; have := ih (i + s.g + s.e); simp only [endB]; omega

/-- the four numbers of each change, one behind the other -/
def nums : Nat → Nat → List Tr → List Int
  | _, _, [] => []
  | i, j, t :: S => ((i + t.g : Nat) : Int) :: ((i + t.g + t.d : Nat) : Int) :: ((j + t.g : Nat) : Int) :: ((j + t.g + t.e : Nat) : Int) :: nums (i + t.g + t.d) (j + t.g + t.e) S
def vals (l : List Int) : List Value := l.map (Value.int .i64)
theorem nums_len (S : List Tr) : ∀ i j, (nums i j S).length = 4 * S.length := by
  induction S with
  | nil => intro i j; rfl
  | cons s S ih => intro i j; simp only [nums, List.length_cons, ih]; omega
theorem nums_append (S T : List Tr) : ∀ i j, nums i j (S ++ T) = nums i j S ++ nums (endA i S) (endB j S) T := by
  induction S with
  | nil => intro i j; rfl
  | cons s S ih => intro i j; simp only [List.cons_append, nums, ih, endA, endB]
theorem vals_append (a b : List Int) : vals (a ++ b) = vals a ++ vals b := by simp [vals]
theorem vals_len (a : List Int) : (vals a).length = a.length := by simp [vals]

/-- lines as a hunk shows them -/
abbrev Ops := List (Int × ByteArray)
def run (mk : Int) (A : Nat → ByteArray) (o : Nat) : Nat → Ops
  | 0 => []
  | k + 1 => run mk A o k ++ [(mk, A (o + k))]
def flat : Ops → List ByteArray
  | [] => []
  | p :: l => entry p.1 p.2 ++ flat l
theorem flat_append (a b : Ops) : flat (a ++ b) = flat a ++ flat b := by
  induction a with
  | nil => rfl
  | cons p a ih => simp only [List.cons_append, flat, ih, List.append_assoc]
theorem flat_run (mk : Int) (A : Nat → ByteArray) (o n : Nat) : flat (run mk A o n) = entries mk (fun k => A (o + k)) n := by
  induction n with
  | zero => rfl
  | succ n ih => simp only [run, flat_append, ih, entries, flat, List.append_nil]
theorem run_len (mk : Int) (A : Nat → ByteArray) (o n : Nat) : (run mk A o n).length = n := by
  induction n with
  | zero => rfl
  | succ n ih => simp only [run, List.length_append, ih, List.length_cons, List.length_nil]
theorem flat_len (a : Ops) : (flat a).length ≤ 2 * a.length := by
  induction a with
  | nil => simp [flat]
  | cons p a ih => have := entry_len p.1 p.2; simp only [flat, List.length_append, List.length_cons]; omega

/-- the lines of changes with every unchanged line between them -/
def full (A B : Nat → ByteArray) : Nat → Nat → List Tr → Ops
  | _, _, [] => []
  | i, j, t :: S => run 32 A i t.g ++ run 45 A (i + t.g) t.d ++ run 43 B (j + t.g) t.e ++ full A B (i + t.g + t.d) (j + t.g + t.e) S

theorem full_append (A B : Nat → ByteArray) (S T : List Tr) : ∀ i j, full A B i j (S ++ T) = full A B i j S ++ full A B (endA i S) (endB j S) T := by
  induction S with
  | nil => intro i j; rfl
  | cons s S ih => intro i j; simp only [List.cons_append, full, ih, endA, endB, List.append_assoc]

def start (lo hi : Nat) : Nat := if lo < hi then lo + 1 else lo

structure Hk where
  os : Nat
  ol : Nat
  ns : Nat
  nl : Nat
  ub : Nat
  ops : Ops

/-- the hunk of the changes t :: r at (i, j): c unchanged lines are shown ahead of it, c' behind; cp were shown behind the last hunk -/
def hk (A B : Nat → ByteArray) (i j cp c c' : Nat) (t : Tr) (r : List Tr) : Hk :=
  let a0 := i + t.g - c
  let b0 := j + t.g - c
  let a1 := endA i (t :: r) + c'
  let b1 := endB j (t :: r) + c'
  { os := start a0 a1, ol := a1 - a0, ns := start b0 b1, nl := b1 - b0, ub := t.g - c - cp
    ops := run 32 A a0 c ++ run 45 A (i + t.g) t.d ++ run 43 B (j + t.g) t.e ++ full A B (i + t.g + t.d) (j + t.g + t.e) r ++ run 32 A (endA i (t :: r)) c' }

/-- the hunks of a script -/
def HOK (A B : Nat → ByteArray) (la : Nat) : Nat → Nat → Nat → List Tr → List Hk → Nat → Prop
  | i, _, cp, S, [], rest => S = [] ∧ rest = la - (i + cp)
  | i, j, cp, S, h :: hs, rest => ∃ (c c' : Nat) (t : Tr) (r S' : List Tr), S = t :: r ++ S' ∧ (∀ x ∈ r, x.g ≤ 6) ∧ (∀ x S'', S' = x :: S'' → 7 ≤ x.g) ∧ c = min t.g 3 ∧ c' = min 3 (la - endA i (t :: r)) ∧ h = hk A B i j cp c c' t r ∧
      HOK A B la (endA i (t :: r)) (endB j (t :: r)) c' S' hs rest
theorem HOK.nil {A B : Nat → ByteArray} {la : Nat} (i j cp : Nat) : HOK A B la i j cp [] [] (la - (i + cp)) := ⟨rfl, rfl⟩
theorem HOK.cons {A B : Nat → ByteArray} {la : Nat} (i j cp c c' : Nat) (t : Tr) (r S : List Tr) (hs : List Hk) (rest : Nat) (hr : ∀ x ∈ r, x.g ≤ 6) (hS : ∀ x S', S = x :: S' → 7 ≤ x.g) (hc : c = min t.g 3) (hc' : c' = min 3 (la - endA i (t :: r)))
    (next : HOK A B la (endA i (t :: r)) (endB j (t :: r)) c' S hs rest) : HOK A B la i j cp (t :: r ++ S) (hk A B i j cp c c' t r :: hs) rest := ⟨c, c', t, r, S, rfl, hr, hS, hc, hc', rfl, next⟩
theorem HOK.ind {A B : Nat → ByteArray} {la : Nat} {motive : Nat → Nat → Nat → List Tr → List Hk → Nat → Prop} (nil : ∀ i j cp : Nat, motive i j cp [] [] (la - (i + cp)))
    (cons : ∀ (i j cp c c' : Nat) (t : Tr) (r S : List Tr) (hs : List Hk) (rest : Nat), (∀ x ∈ r, x.g ≤ 6) → (∀ x S', S = x :: S' → 7 ≤ x.g) → c = min t.g 3 → c' = min 3 (la - endA i (t :: r)) → HOK A B la (endA i (t :: r)) (endB j (t :: r)) c' S hs rest →
      motive (endA i (t :: r)) (endB j (t :: r)) c' S hs rest → motive i j cp (t :: r ++ S) (hk A B i j cp c c' t r :: hs) rest) : ∀ (hs : List Hk) (i j cp : Nat) (S : List Tr) (rest : Nat), HOK A B la i j cp S hs rest → motive i j cp S hs rest
  | [], i, j, cp, S, rest, h => by obtain ⟨rfl, rfl⟩ := h; exact nil i j cp
  | k :: hs, i, j, cp, S, rest, h => by
    obtain ⟨c, c', t, r, S', rfl, h1, h2, h3, h4, rfl, h5⟩ := h
    exact cons i j cp c c' t r S' hs rest h1 h2 h3 h4 h5 (HOK.ind nil cons hs _ _ _ _ _ h5)

/-- how many unmarked lines there are from i on -/
def cnt (R : Nat → Bool) (l : Nat) : Nat → Nat
  | 0 => 0
  | f + 1 => cnt R l f + if R (l - (f + 1)) then 0 else 1
end Go.Proofs.Qxb6605269a.HunkMath
