import Derived.Test.Qxb6605269aHunkGood
set_option linter.unusedVariables false
set_option linter.unusedSimpArgs false
namespace Go.Proofs.Qxb6605269a.ModelMath
open Go.Proofs.Qxb6605269a.HunkBools
open Go.Proofs.Qxb6605269a.HunkMath
open Go.Proofs.Qxb6605269a.HunkGood

/-- one line of the model's layout -/
structure Rc where
  k : Int
  ai : Nat
  bi : Nat
def k32 : Nat → Nat → Nat → List Rc
  | _, _, 0 => []
  | i, j, n + 1 => ⟨32, i, j⟩ :: k32 (i + 1) (j + 1) n
def k45 : Nat → Nat → List Rc
  | _, 0 => []
  | i, n + 1 => ⟨45, i, 0⟩ :: k45 (i + 1) n
def k43 : Nat → Nat → List Rc
  | _, 0 => []
  | j, n + 1 => ⟨43, 0, j⟩ :: k43 (j + 1) n
def lay : Nat → Nat → List Tr → List Rc
  | _, _, [] => []
  | i, j, t :: S => k32 i j t.g ++ (k45 (i + t.g) t.d ++ k43 (j + t.g) t.e) ++ lay (i + t.g + t.d) (j + t.g + t.e) S

theorem k32_add : ∀ (m n i j : Nat), k32 i j (m + n) = k32 i j m ++ k32 (i + m) (j + m) n
  | 0, n, i, j => by simp [k32]
  | m + 1, n, i, j => by
    rw [show m + 1 + n = (m + n) + 1 from by omega, k32, k32, k32_add m n (i + 1) (j + 1), List.cons_append, show i + 1 + m = i + (m + 1) from by omega, show j + 1 + m = j + (m + 1) from by omega]
theorem k45_add : ∀ (m n i : Nat), k45 i (m + n) = k45 i m ++ k45 (i + m) n
  | 0, n, i => by simp [k45]
  | m + 1, n, i => by
    rw [show m + 1 + n = (m + n) + 1 from by omega, k45, k45, k45_add m n (i + 1), List.cons_append, show i + 1 + m = i + (m + 1) from by omega]
theorem k43_add : ∀ (m n i : Nat), k43 i (m + n) = k43 i m ++ k43 (i + m) n
  | 0, n, i => by simp [k43]
  | m + 1, n, i => by
    rw [show m + 1 + n = (m + n) + 1 from by omega, k43, k43, k43_add m n (i + 1), List.cons_append, show i + 1 + m = i + (m + 1) from by omega]
theorem k32_len : ∀ (n i j : Nat), (k32 i j n).length = n
  | 0, _, _ => rfl
  | n + 1, i, j => by simp [k32, k32_len n]
theorem k45_len : ∀ (n i : Nat), (k45 i n).length = n
  | 0, _ => rfl
  | n + 1, i => by simp [k45, k45_len n]
theorem k43_len : ∀ (n i : Nat), (k43 i n).length = n
  | 0, _ => rfl
  | n + 1, i => by simp [k43, k43_len n]
theorem k32_k : ∀ (n i j : Nat) (r : Rc), r ∈ k32 i j n → r.k = 32
  | n + 1, i, j, r, h => by
    simp only [k32, List.mem_cons] at h
    rcases h with rfl | h
    · rfl
    · exact k32_k n _ _ r h
theorem k45_k : ∀ (n i : Nat) (r : Rc), r ∈ k45 i n → r.k = 45
  | n + 1, i, r, h => by
    simp only [k45, List.mem_cons] at h
    rcases h with rfl | h
    · rfl
    · exact k45_k n _ r h
theorem k43_k : ∀ (n i : Nat) (r : Rc), r ∈ k43 i n → r.k = 43
  | n + 1, i, r, h => by
    simp only [k43, List.mem_cons] at h
    rcases h with rfl | h
    · rfl
    · exact k43_k n _ r h
theorem lay_append : ∀ (S T : List Tr) (i j : Nat), lay i j (S ++ T) = lay i j S ++ lay (endA i S) (endB j S) T
  | [], T, i, j => rfl
  | s :: S, T, i, j => by simp only [List.cons_append, lay, lay_append S T, endA, endB, List.append_assoc]

/-- a record's line as a hunk shows it -/
def opOf (A B : Nat → ByteArray) (r : Rc) : Int × ByteArray := (r.k, if r.k = 43 then B r.bi else A r.ai)
theorem map32 (A B : Nat → ByteArray) (i j : Nat) : ∀ n, (k32 i j n).map (opOf A B) = run 32 A i n
  | 0 => rfl
  | n + 1 => by rw [k32_add n 1, List.map_append, map32 A B i j n]; simp [k32, opOf, run]
theorem map45 (A B : Nat → ByteArray) (i : Nat) : ∀ n, (k45 i n).map (opOf A B) = run 45 A i n
  | 0 => rfl
  | n + 1 => by rw [k45_add n 1, List.map_append, map45 A B i n]; simp [k45, opOf, run]
theorem map43 (A B : Nat → ByteArray) (i : Nat) : ∀ n, (k43 i n).map (opOf A B) = run 43 B i n
  | 0 => rfl
  | n + 1 => by rw [k43_add n 1, List.map_append, map43 A B i n]; simp [k43, opOf, run]
theorem map_lay (A B : Nat → ByteArray) : ∀ (S : List Tr) (i j : Nat), (lay i j S).map (opOf A B) = full A B i j S
  | [], _, _ => rfl
  | t :: S, i, j => by simp only [lay, full, List.map_append, map32, map45, map43, map_lay A B S, List.append_assoc]

/-- how many lines of the old text, of the new text -/
def cO : List Rc → Nat
  | [] => 0
  | r :: l => (if r.k = 43 then 0 else 1) + cO l
def cN : List Rc → Nat
  | [] => 0
  | r :: l => (if r.k = 45 then 0 else 1) + cN l
theorem cO_append : ∀ (a b : List Rc), cO (a ++ b) = cO a + cO b
  | [], b => by simp [cO]
  | r :: a, b => by simp only [List.cons_append, cO, cO_append a b]; omega
theorem cN_append : ∀ (a b : List Rc), cN (a ++ b) = cN a + cN b
  | [], b => by simp [cN]
  | r :: a, b => by simp only [List.cons_append, cN, cN_append a b]; omega
theorem c32 : ∀ (n i j : Nat), cO (k32 i j n) = n ∧ cN (k32 i j n) = n
  | 0, _, _ => ⟨rfl, rfl⟩
  | n + 1, i, j => by have := c32 n (i + 1) (j + 1); simp only [k32, cO, cN]; simp; omega
theorem c45 : ∀ (n i : Nat), cO (k45 i n) = n ∧ cN (k45 i n) = 0
  | 0, _ => ⟨rfl, rfl⟩
  | n + 1, i => by have := c45 n (i + 1); simp only [k45, cO, cN]; simp; omega
theorem c43 : ∀ (n i : Nat), cO (k43 i n) = 0 ∧ cN (k43 i n) = n
  | 0, _ => ⟨rfl, rfl⟩
  | n + 1, i => by have := c43 n (i + 1); simp only [k43, cO, cN]; simp; omega
theorem c_lay : ∀ (S : List Tr) (i j : Nat), i + cO (lay i j S) = endA i S ∧ j + cN (lay i j S) = endB j S
  | [], _, _ => ⟨rfl, rfl⟩
  | t :: S, i, j => by
    have h := c_lay S (i + t.g + t.d) (j + t.g + t.e)
    have a := c32 t.g i j
    have b := c45 t.d (i + t.g)
    have c := c43 t.e (j + t.g)
    simp only [lay, cO_append, cN_append, endA, endB]; omega

/-- the p-th line is shown -/
def Sh (T : List Rc) (p : Nat) : Prop := ∃ (q : Nat) (r : Rc), T[q]? = some r ∧ r.k ≠ 32 ∧ p ≤ q + 3 ∧ q ≤ p + 3
def EndsC (l : List Rc) : Prop := ∃ P r, l = P ++ [r] ∧ r.k ≠ 32
def HeadC (l : List Rc) : Prop := ∃ r Q, l = r :: Q ∧ r.k ≠ 32
def AllSh (T : List Rc) (P : Nat) (l : List Rc) : Prop := ∀ y, y < l.length → Sh T (P + y)
theorem AllSh.append {T : List Rc} {P : Nat} {a b : List Rc} (h1 : AllSh T P a) (h2 : AllSh T (P + a.length) b) : AllSh T P (a ++ b) := by
  intro y hy
  by_cases e : y < a.length
  · exact h1 y e
  · have := h2 (y - a.length) (by simp only [List.length_append] at hy; omega)
    rwa [show P + a.length + (y - a.length) = P + y from by omega] at this

theorem gap_sh {T Pre Post : List Rc} {i j g u : Nat} (hT : T = Pre ++ k32 i j g ++ Post) (h1 : Pre = [] ∨ EndsC Pre) (h2 : Post = [] ∨ HeadC Post) (hu : u < g) :
    Sh T (Pre.length + u) ↔ (Pre ≠ [] ∧ u < 3) ∨ (Post ≠ [] ∧ g ≤ u + 3) := by
  have hl := k32_len g i j
  constructor
  · rintro ⟨q, r, hq, hr, hp1, hp2⟩
    by_cases e1 : q < Pre.length
    · refine Or.inl ⟨fun e => by rw [e] at e1; simp at e1, by omega⟩
    · by_cases e2 : q < Pre.length + g
      · exfalso
        rw [hT, List.getElem?_append_left (by simp only [List.length_append]; omega), List.getElem?_append_right (by omega)] at hq
        exact hr (k32_k g i j r (List.mem_of_getElem? hq))
      · refine Or.inr ⟨fun e => ?_, by omega⟩
        rw [hT, e, List.append_nil] at hq
        have := (List.getElem?_eq_some_iff.1 hq).1
        simp only [List.length_append] at this; omega
  · rintro (⟨hn, h3⟩ | ⟨hn, h3⟩)
    · rcases h1 with e | ⟨P, r, rfl, hr⟩
      · exact absurd e hn
      · refine ⟨P.length, r, ?_, hr, by simp only [List.length_append, List.length_cons, List.length_nil]; omega, by simp only [List.length_append, List.length_cons, List.length_nil]; omega⟩
        rw [hT, List.append_assoc, List.append_assoc, List.getElem?_append_right (by omega), Nat.sub_self]; rfl
    · rcases h2 with e | ⟨r, Q, rfl, hr⟩
      · exact absurd e hn
      · refine ⟨Pre.length + g, r, ?_, hr, by omega, by omega⟩
        rw [hT, List.getElem?_append_right (by simp only [List.length_append]; omega)]
        simp only [List.length_append, hl, Nat.sub_self]; rfl

theorem self_sh {T Pre l Post : List Rc} (hT : T = Pre ++ l ++ Post) (h : ∀ r ∈ l, r.k ≠ 32) : AllSh T Pre.length l := by
  intro y hy
  refine ⟨Pre.length + y, l[y], ?_, h _ (List.getElem_mem hy), by omega, by omega⟩
  rw [hT, List.getElem?_append_left (by simp only [List.length_append]; omega), List.getElem?_append_right (by omega), Nat.add_sub_cancel_left, List.getElem?_eq_getElem hy]

theorem chg_k (i j d e : Nat) : ∀ r ∈ k45 i d ++ k43 j e, r.k ≠ 32 := by
  intro r hr
  rw [List.mem_append] at hr
  rcases hr with hr | hr
  · rw [k45_k _ _ r hr]; decide
  · rw [k43_k _ _ r hr]; decide
theorem chg_head (i j d e : Nat) (h : 1 ≤ d + e) (Q : List Rc) : HeadC ((k45 i d ++ k43 j e) ++ Q) := by
  cases d with
  | succ d => exact ⟨⟨45, i, 0⟩, _, rfl, (by simp)⟩
  | zero =>
    cases e with
    | zero => omega
    | succ e => exact ⟨⟨43, 0, j⟩, _, rfl, (by simp)⟩
theorem endsC_of {l : List Rc} (h0 : l ≠ []) (h : ∀ r ∈ l, r.k ≠ 32) (Pre : List Rc) : EndsC (Pre ++ l) :=
  ⟨Pre ++ l.dropLast, l.getLast h0, by rw [List.append_assoc, List.dropLast_concat_getLast], h _ (List.getLast_mem h0)⟩
theorem chg_ends (i j d e : Nat) (h : 1 ≤ d + e) (Pre : List Rc) : EndsC (Pre ++ (k45 i d ++ k43 j e)) := by
  refine endsC_of ?_ (chg_k i j d e) Pre
  intro e0
  have := congrArg List.length e0
  simp only [List.length_append, k45_len, k43_len, List.length_nil] at this; omega

theorem lay_sh {T : List Rc} : ∀ (r : List Tr) (i j : Nat) (Pre Post : List Rc), T = Pre ++ lay i j r ++ Post → EndsC Pre → (∀ x ∈ r, x.g ≤ 6) → (∀ x ∈ r, 1 ≤ x.d + x.e) → AllSh T Pre.length (lay i j r) ∧ EndsC (Pre ++ lay i j r)
  | [], i, j, Pre, Post, hT, hE, _, _ => ⟨fun y hy => absurd hy (by simp [lay]), by simpa [lay] using hE⟩
  | t :: r, i, j, Pre, Post, hT, hE, h6, h1 => by
    have ht6 := h6 t (by simp)
    have ht1 := h1 t (by simp)
    have hE2 := chg_ends (i + t.g) (j + t.g) t.d t.e ht1 (Pre ++ k32 i j t.g)
    have hT2 : T = (Pre ++ k32 i j t.g ++ (k45 (i + t.g) t.d ++ k43 (j + t.g) t.e)) ++ lay (i + t.g + t.d) (j + t.g + t.e) r ++ Post := by rw [hT]; simp only [lay, List.append_assoc]
    obtain ⟨a1, a2⟩ := lay_sh r _ _ _ Post hT2 hE2 (fun x hx => h6 x (by simp [hx])) (fun x hx => h1 x (by simp [hx]))
    have hT3 : T = Pre ++ k32 i j t.g ++ ((k45 (i + t.g) t.d ++ k43 (j + t.g) t.e) ++ (lay (i + t.g + t.d) (j + t.g + t.e) r ++ Post)) := by rw [hT]; simp only [lay, List.append_assoc]
    have hT4 : T = (Pre ++ k32 i j t.g) ++ (k45 (i + t.g) t.d ++ k43 (j + t.g) t.e) ++ (lay (i + t.g + t.d) (j + t.g + t.e) r ++ Post) := by rw [hT]; simp only [lay, List.append_assoc]
    have hne : Pre ≠ [] := by obtain ⟨P, x, e, _⟩ := hE; rw [e]; simp
    have hH := chg_head (i + t.g) (j + t.g) t.d t.e ht1 (lay (i + t.g + t.d) (j + t.g + t.e) r ++ Post)
    have hne2 : ((k45 (i + t.g) t.d ++ k43 (j + t.g) t.e) ++ (lay (i + t.g + t.d) (j + t.g + t.e) r ++ Post)) ≠ [] := by obtain ⟨x, Q, e, _⟩ := hH; rw [e]; simp
    constructor
    · simp only [lay]
      refine AllSh.append (AllSh.append ?_ ?_) ?_
      · intro u hu
        rw [k32_len] at hu
        rw [gap_sh hT3 (Or.inr hE) (Or.inr hH) hu]
        by_cases e : u < 3
        · exact Or.inl ⟨hne, e⟩
        · exact Or.inr ⟨hne2, by omega⟩
      · have := self_sh hT4 (chg_k (i + t.g) (j + t.g) t.d t.e)
        rwa [List.length_append] at this
      · rwa [List.length_append, List.length_append, Nat.add_assoc, ← List.length_append] at a1
    · simp only [lay]
      simpa only [List.append_assoc] using a2

/-- the runs of shown lines of T from index P on are the hunks hs -/
def MOK (A B : Nat → ByteArray) (T : List Rc) : Nat → Nat → Nat → List Hk → Nat → Prop
  | P, _, _, [], n => P + n = T.length ∧ ∀ x, x < n → ¬ Sh T (P + x)
  | P, old, new, h :: hs, rest => ∃ (n : Nat) (Pre HR Post : List Rc), T = Pre ++ HR ++ Post ∧ Pre.length = P + n ∧ HR ≠ [] ∧ (∀ x, x < n → ¬ Sh T (P + x)) ∧ AllSh T (P + n) HR ∧ (P + n + HR.length < T.length → ¬ Sh T (P + n + HR.length)) ∧
      h.os = HunkMath.start (old + n) (old + n + cO HR) ∧ h.ol = cO HR ∧ h.ns = HunkMath.start (new + n) (new + n + cN HR) ∧ h.nl = cN HR ∧ h.ub = n ∧ h.ops = HR.map (opOf A B) ∧ MOK A B T (P + n + HR.length) (old + n + cO HR) (new + n + cN HR) hs rest
theorem MOK.nil {A B : Nat → ByteArray} {T : List Rc} (P old new n : Nat) (hn : P + n = T.length) (hh : ∀ x, x < n → ¬ Sh T (P + x)) : MOK A B T P old new [] n := ⟨hn, hh⟩
theorem MOK.cons {A B : Nat → ByteArray} {T : List Rc} (P old new n : Nat) (Pre HR Post : List Rc) (h : Hk) (hs : List Hk) (rest : Nat) (hT : T = Pre ++ HR ++ Post) (hP : Pre.length = P + n) (hne : HR ≠ []) (hh : ∀ x, x < n → ¬ Sh T (P + x)) (hsh : AllSh T (P + n) HR)
    (hnx : P + n + HR.length < T.length → ¬ Sh T (P + n + HR.length)) (h1 : h.os = HunkMath.start (old + n) (old + n + cO HR)) (h2 : h.ol = cO HR) (h3 : h.ns = HunkMath.start (new + n) (new + n + cN HR)) (h4 : h.nl = cN HR) (h5 : h.ub = n) (h6 : h.ops = HR.map (opOf A B))
    (next : MOK A B T (P + n + HR.length) (old + n + cO HR) (new + n + cN HR) hs rest) : MOK A B T P old new (h :: hs) rest := ⟨n, Pre, HR, Post, hT, hP, hne, hh, hsh, hnx, h1, h2, h3, h4, h5, h6, next⟩

theorem seg_ne {R D : Nat → Bool} : ∀ {S : List Tr} {i j i' j' : Nat}, Seg R D i j S i' j' → ∀ x ∈ S, 1 ≤ x.d + x.e
  | t :: S, i, j, i', j', h, x, hx => by
    simp only [List.mem_cons] at hx
    rcases hx with rfl | hx
    · exact h.2.2.2.1
    · exact seg_ne h.2.2.2.2 x hx

theorem mok_of {A B : Nat → ByteArray} {la gf : Nat} {T : List Rc} {i j cp : Nat} {S : List Tr} {hs : List Hk} {rest : Nat} (h : HOK A B la i j cp S hs rest) :
    ∀ Pre, T = Pre ++ lay i j S ++ k32 (endA i S) (endB j S) gf → endA i S + gf = la → (∀ x ∈ S, 1 ≤ x.d + x.e) → ((Pre = [] ∧ cp = 0) ∨ (EndsC Pre ∧ cp = min 3 (la - i) ∧ ∀ x S', S = x :: S' → 7 ≤ x.g)) →
      MOK A B T (Pre.length + cp) (i + cp) (j + cp) hs rest := by
  refine HOK.ind (motive := fun i j cp S hs rest => ∀ Pre, T = Pre ++ lay i j S ++ k32 (endA i S) (endB j S) gf → endA i S + gf = la → (∀ x ∈ S, 1 ≤ x.d + x.e) → ((Pre = [] ∧ cp = 0) ∨ (EndsC Pre ∧ cp = min 3 (la - i) ∧ ∀ x S', S = x :: S' → 7 ≤ x.g)) → MOK A B T (Pre.length + cp) (i + cp) (j + cp) hs rest) ?_ ?_ hs i j cp S rest h
  · intro i j cp
    intro Pre hT hla _ hc
    simp only [lay, List.append_nil, endA, endB] at hT hla
    have hcp : cp ≤ gf := by rcases hc with ⟨_, e⟩ | ⟨_, e, _⟩ <;> omega
    have hTn : T = Pre ++ k32 i j gf ++ [] := by rw [hT]; simp
    rw [show la - (i + cp) = gf - cp from by omega]
    refine MOK.nil _ _ _ _ (by rw [hT, List.length_append, k32_len]; omega) ?_
    intro x hx
    rw [Nat.add_assoc, gap_sh hTn (by rcases hc with ⟨e, _⟩ | ⟨e, _⟩; exact Or.inl e; exact Or.inr e) (Or.inl rfl) (by omega)]
    rintro (⟨h1, h2⟩ | ⟨h1, _⟩)
    · rcases hc with ⟨e, _⟩ | ⟨_, e, _⟩
      · exact h1 e
      · omega
    · exact h1 rfl
  · intro i j cp c c' t r S hs rest hr hS hc hc' next ih
    intro Pre hT hla h1 hcd
    have ht1 := h1 t (by simp)
    generalize ex : endA i (t :: r) = x at *
    generalize ey : endB j (t :: r) = y at *
    have hT' : T = Pre ++ lay i j (t :: r) ++ (lay x y S ++ k32 (endA x S) (endB y S) gf) := by
      rw [hT, lay_append, endA_append, endB_append, ex, ey]; simp only [List.append_assoc]
    have hla' : endA x S + gf = la := by rw [endA_append, ex] at hla; exact hla
    have hcp : cp + c ≤ t.g ∧ (Pre = [] ∨ cp = 3 ∧ 7 ≤ t.g) := by
      rcases hcd with ⟨e0, e⟩ | ⟨_, e, h7⟩
      · exact ⟨by omega, Or.inl e0⟩
      · have h7 := h7 t (r ++ S) rfl
        have b1 := endA_le S x
        have b2 := endA_le r (i + t.g + t.d)
        have b3 : endA (i + t.g + t.d) r = x := ex
        exact ⟨by omega, Or.inr ⟨by omega, h7⟩⟩
    have hEnd : EndsC (Pre ++ lay i j (t :: r)) ∧ AllSh T (Pre.length + t.g) ((k45 (i + t.g) t.d ++ k43 (j + t.g) t.e) ++ lay (i + t.g + t.d) (j + t.g + t.e) r) := by
      have hE2 := chg_ends (i + t.g) (j + t.g) t.d t.e ht1 (Pre ++ k32 i j t.g)
      have hT2 : T = (Pre ++ k32 i j t.g ++ (k45 (i + t.g) t.d ++ k43 (j + t.g) t.e)) ++ lay (i + t.g + t.d) (j + t.g + t.e) r ++ (lay x y S ++ k32 (endA x S) (endB y S) gf) := by rw [hT']; simp only [lay, List.append_assoc]
      have hT4 : T = (Pre ++ k32 i j t.g) ++ (k45 (i + t.g) t.d ++ k43 (j + t.g) t.e) ++ (lay (i + t.g + t.d) (j + t.g + t.e) r ++ (lay x y S ++ k32 (endA x S) (endB y S) gf)) := by rw [hT']; simp only [lay, List.append_assoc]
      obtain ⟨a1, a2⟩ := lay_sh r _ _ _ _ hT2 hE2 hr (fun z hz => h1 z (by simp [hz]))
      refine ⟨by simpa only [lay, List.append_assoc] using a2, ?_⟩
      refine AllSh.append ?_ ?_
      · have := self_sh hT4 (chg_k (i + t.g) (j + t.g) t.d t.e)
        rwa [List.length_append, k32_len] at this
      · rw [List.length_append, List.length_append, k32_len] at a1
        exact a1
    -- the gap behind the hunk
    obtain ⟨G, Post, hPost, hG1, hG2, hGc, hPostC, hG7, hTl⟩ : ∃ (G : Nat) (Post : List Rc), T = (Pre ++ lay i j (t :: r)) ++ k32 x y G ++ Post ∧ c' ≤ G ∧ (c' < G → c' = 3) ∧ lay x y S ++ k32 (endA x S) (endB y S) gf = k32 x y G ++ Post ∧ (Post = [] ∨ HeadC Post) ∧ (Post ≠ [] → 7 ≤ G) ∧ (Post = [] → True) := by
      cases S with
      | nil =>
        simp only [lay, List.nil_append, endA, endB] at hT' hla' ⊢
        exact ⟨gf, [], by rw [hT']; simp, by omega, by omega, by simp, Or.inl rfl, fun e => absurd rfl e, fun _ => trivial⟩
      | cons s S' =>
        have h7 := hS s S' rfl
        have b1 := endA_le S' (x + s.g + s.d)
        have hs1 := h1 s (by simp)
        simp only [endA] at hla'
        refine ⟨s.g, (k45 (x + s.g) s.d ++ k43 (y + s.g) s.e) ++ (lay (x + s.g + s.d) (y + s.g + s.e) S' ++ k32 (endA x (s :: S')) (endB y (s :: S')) gf), by rw [hT']; simp only [lay, List.append_assoc], by omega, by omega, by simp only [lay, List.append_assoc], Or.inr (chg_head _ _ _ _ hs1 _), fun _ => h7, fun _ => trivial⟩
    have hPne : Pre ++ lay i j (t :: r) ≠ [] := by obtain ⟨P, z, e, _⟩ := hEnd.1; rw [e]; simp
    -- the gap ahead
    have hTg : T = Pre ++ k32 i j t.g ++ ((k45 (i + t.g) t.d ++ k43 (j + t.g) t.e) ++ (lay (i + t.g + t.d) (j + t.g + t.e) r ++ (lay x y S ++ k32 (endA x S) (endB y S) gf))) := by rw [hT']; simp only [lay, List.append_assoc]
    have hH := chg_head (i + t.g) (j + t.g) t.d t.e ht1 (lay (i + t.g + t.d) (j + t.g + t.e) r ++ (lay x y S ++ k32 (endA x S) (endB y S) gf))
    have hne2 : ((k45 (i + t.g) t.d ++ k43 (j + t.g) t.e) ++ (lay (i + t.g + t.d) (j + t.g + t.e) r ++ (lay x y S ++ k32 (endA x S) (endB y S) gf))) ≠ [] := by obtain ⟨z, Q, e, _⟩ := hH; rw [e]; simp
    have hPc : Pre = [] ∨ EndsC Pre := by rcases hcd with ⟨e, _⟩ | ⟨e, _⟩; exact Or.inl e; exact Or.inr e
    -- the hunk's records
    obtain ⟨HR, hHR⟩ : ∃ HR, HR = k32 (i + t.g - c) (j + t.g - c) c ++ ((k45 (i + t.g) t.d ++ k43 (j + t.g) t.e) ++ lay (i + t.g + t.d) (j + t.g + t.e) r) ++ k32 x y c' := ⟨_, rfl⟩
    obtain ⟨n, hn⟩ : ∃ n, n = t.g - c - cp := ⟨_, rfl⟩
    have hsplit : k32 i j t.g = k32 i j (cp + n) ++ k32 (i + t.g - c) (j + t.g - c) c := by
      have := k32_add (cp + n) c i j
      rw [show cp + n + c = t.g from by omega, show i + (cp + n) = i + t.g - c from by omega, show j + (cp + n) = j + t.g - c from by omega] at this
      exact this
    have hGs : k32 x y G = k32 x y c' ++ k32 (x + c') (y + c') (G - c') := by
      have := k32_add c' (G - c') x y
      rwa [show c' + (G - c') = G from by omega] at this
    have hTH : T = (Pre ++ k32 i j (cp + n)) ++ HR ++ (k32 (x + c') (y + c') (G - c') ++ Post) := by
      rw [hT', hGc, hGs, hHR]
      simp only [lay, hsplit, List.append_assoc]
    have hcO : i + cp + n + cO HR = x + c' ∧ j + cp + n + cN HR = y + c' := by
      have a1 := c32 c (i + t.g - c) (j + t.g - c)
      have a2 := c45 t.d (i + t.g)
      have a3 := c43 t.e (j + t.g)
      have a4 := c_lay r (i + t.g + t.d) (j + t.g + t.e)
      have a5 := c32 c' x y
      have b3 : endA (i + t.g + t.d) r = x := ex
      have b4 : endB (j + t.g + t.e) r = y := ey
      rw [hHR]
      simp only [cO_append, cN_append]
      omega
    have hlenH : HR.length = c + (t.d + t.e) + (lay (i + t.g + t.d) (j + t.g + t.e) r).length + c' := by
      rw [hHR]; simp only [List.length_append, k32_len, k45_len, k43_len]; omega
    have hlenL : (lay i j (t :: r)).length = t.g + (t.d + t.e) + (lay (i + t.g + t.d) (j + t.g + t.e) r).length := by
      simp only [lay, List.length_append, k32_len, k45_len, k43_len]
    have hPP : Pre.length + cp + n + HR.length = (Pre ++ lay i j (t :: r)).length + c' := by
      rw [List.length_append, hlenH, hlenL]; omega
    have hnext := ih (Pre ++ lay i j (t :: r)) (by rw [hT']; simp only [List.append_assoc]) hla' (fun z hz => h1 z (by simp [hz])) (Or.inr ⟨hEnd.1, hc', hS⟩)
    rw [← hPP, ← hcO.1, ← hcO.2] at hnext
    refine MOK.cons (Pre.length + cp) (i + cp) (j + cp) n (Pre ++ k32 i j (cp + n)) HR _ _ hs rest hTH (by rw [List.length_append, k32_len]; omega) ?_ ?_ ?_ ?_ ?_ ?_ ?_ ?_ ?_ ?_ hnext
    · intro e
      have := congrArg List.length e
      rw [hlenH] at this; simp at this; omega
    · intro z hz
      rw [Nat.add_assoc, gap_sh hTg hPc (Or.inr hH) (by omega)]
      rintro (⟨q1, q2⟩ | ⟨_, q2⟩)
      · rcases hcp.2 with e | e
        · exact q1 e
        · omega
      · omega
    · rw [hHR]
      refine AllSh.append (AllSh.append ?_ ?_) ?_
      · intro u hu
        rw [k32_len] at hu
        rw [show Pre.length + cp + n + u = Pre.length + (cp + n + u) from by omega, gap_sh hTg hPc (Or.inr hH) (by omega)]
        exact Or.inr ⟨hne2, by omega⟩
      · rw [k32_len, show Pre.length + cp + n + c = Pre.length + t.g from by omega]; exact hEnd.2
      · intro u hu
        rw [k32_len] at hu
        have e : Pre.length + cp + n + (k32 (i + t.g - c) (j + t.g - c) c ++ (k45 (i + t.g) t.d ++ k43 (j + t.g) t.e ++ lay (i + t.g + t.d) (j + t.g + t.e) r)).length = (Pre ++ lay i j (t :: r)).length := by
          simp only [List.length_append, k32_len, k45_len, k43_len, hlenL]; omega
        rw [e, gap_sh hPost (Or.inr hEnd.1) hPostC (by omega)]
        exact Or.inl ⟨hPne, by omega⟩
    · intro hlt
      rw [hPP] at hlt ⊢
      have hlG : c' < G := by
        rcases Nat.lt_or_ge c' G with h | h
        · exact h
        · exfalso
          have hcg : c' = G := by omega
          have hPe : Post = [] := by
            rcases hPostC with e | e
            · exact e
            · obtain ⟨z, Q, e, _⟩ := e
              have := hG7 (by rw [e]; simp)
              omega
          rw [hPost, hPe, List.append_nil] at hlt
          simp only [List.length_append, k32_len] at hlt
          omega
      rw [gap_sh hPost (Or.inr hEnd.1) hPostC hlG]
      have := hG2 hlG
      rintro (⟨_, q⟩ | ⟨q1, q2⟩)
      · omega
      · have := hG7 q1; omega
    · simp only [hk, ex]; rw [hcO.1]; congr 1; omega
    · simp only [hk, ex]; omega
    · simp only [hk, ey]; rw [hcO.2]; congr 1; omega
    · simp only [hk, ey]; omega
    · simp only [hk]; omega
    · rw [hHR]; simp only [hk, ex, List.map_append, map32, map45, map43, map_lay, List.append_assoc]

/-- the layout that the anchors force: removed lines before added ones, then an anchor -/
def Lay (R D : Nat → Bool) (la lb : Nat) : Nat → Nat → List Rc → Prop
  | i, j, [] => i = la ∧ j = lb
  | i, j, r :: L => (r = ⟨45, i, 0⟩ ∧ i < la ∧ R i = true ∧ Lay R D la lb (i + 1) j L) ∨ (r = ⟨43, 0, j⟩ ∧ (i < la → R i = false) ∧ j < lb ∧ D j = true ∧ Lay R D la lb i (j + 1) L) ∨
      (r = ⟨32, i, j⟩ ∧ i < la ∧ j < lb ∧ R i = false ∧ D j = false ∧ Lay R D la lb (i + 1) (j + 1) L)
theorem Lay.nil {R D : Nat → Bool} {la lb : Nat} : Lay R D la lb la lb [] := ⟨rfl, rfl⟩
theorem Lay.rem {R D : Nat → Bool} {la lb : Nat} (i j : Nat) (L : List Rc) (h1 : i < la) (h2 : R i = true) (h : Lay R D la lb (i + 1) j L) : Lay R D la lb i j (⟨45, i, 0⟩ :: L) := Or.inl ⟨rfl, h1, h2, h⟩
theorem Lay.add {R D : Nat → Bool} {la lb : Nat} (i j : Nat) (L : List Rc) (h0 : i < la → R i = false) (h1 : j < lb) (h2 : D j = true) (h : Lay R D la lb i (j + 1) L) : Lay R D la lb i j (⟨43, 0, j⟩ :: L) := Or.inr (Or.inl ⟨rfl, h0, h1, h2, h⟩)
theorem Lay.keep {R D : Nat → Bool} {la lb : Nat} (i j : Nat) (L : List Rc) (h1 : i < la) (h2 : j < lb) (h3 : R i = false) (h4 : D j = false) (h : Lay R D la lb (i + 1) (j + 1) L) : Lay R D la lb i j (⟨32, i, j⟩ :: L) := Or.inr (Or.inr ⟨rfl, h1, h2, h3, h4, h⟩)

theorem lay_keep {R D : Nat → Bool} {la lb : Nat} {L : List Rc} : ∀ (n i j : Nat), (∀ k, k < n → R (i + k) = false ∧ D (j + k) = false) → i + n ≤ la → j + n ≤ lb → Lay R D la lb (i + n) (j + n) L → Lay R D la lb i j (k32 i j n ++ L)
  | 0, i, j, _, _, _, h => h
  | n + 1, i, j, h1, h2, h3, h => by
    have h0 := h1 0 (by omega)
    refine Lay.keep i j _ (by omega) (by omega) h0.1 h0.2 (lay_keep n (i + 1) (j + 1) (fun k hk => ?_) (by omega) (by omega) ?_)
    · rw [show i + 1 + k = i + (k + 1) from by omega, show j + 1 + k = j + (k + 1) from by omega]; exact h1 _ (by omega)
    · rw [show i + 1 + n = i + (n + 1) from by omega, show j + 1 + n = j + (n + 1) from by omega]; exact h
theorem lay_rem {R D : Nat → Bool} {la lb : Nat} {L : List Rc} : ∀ (n i j : Nat), (∀ k, k < n → R (i + k) = true) → i + n ≤ la → Lay R D la lb (i + n) j L → Lay R D la lb i j (k45 i n ++ L)
  | 0, i, j, _, _, h => h
  | n + 1, i, j, h1, h2, h => by
    refine Lay.rem i j _ (by omega) (h1 0 (by omega)) (lay_rem n (i + 1) j (fun k hk => ?_) (by omega) ?_)
    · rw [show i + 1 + k = i + (k + 1) from by omega]; exact h1 _ (by omega)
    · rw [show i + 1 + n = i + (n + 1) from by omega]; exact h
theorem lay_add {R D : Nat → Bool} {la lb : Nat} {L : List Rc} (i : Nat) (h0 : i < la → R i = false) : ∀ (n j : Nat), (∀ k, k < n → D (j + k) = true) → j + n ≤ lb → Lay R D la lb i (j + n) L → Lay R D la lb i j (k43 j n ++ L)
  | 0, j, _, _, h => h
  | n + 1, j, h1, h2, h => by
    refine Lay.add i j _ h0 (by omega) (h1 0 (by omega)) (lay_add i h0 n (j + 1) (fun k hk => ?_) (by omega) ?_)
    · rw [show j + 1 + k = j + (k + 1) from by omega]; exact h1 _ (by omega)
    · rw [show j + 1 + n = j + (n + 1) from by omega]; exact h

theorem lay_of {R D : Nat → Bool} {la lb gf : Nat} (g1 : gf ≤ la) (g2 : gf ≤ lb) (ht : ∀ k, k < gf → R (la - gf + k) = false ∧ D (lb - gf + k) = false) :
    ∀ (S : List Tr) (i j : Nat), Seg R D i j S (la - gf) (lb - gf) → (∀ x ∈ S.tail, 1 ≤ x.g) → Lay R D la lb i j (lay i j S ++ k32 (endA i S) (endB j S) gf)
  | [], i, j, h, _ => by
    obtain ⟨e1, e2⟩ := h
    simp only [lay, List.nil_append, endA, endB]
    subst e1 e2
    have := lay_keep (R := R) (D := D) (la := la) (lb := lb) (L := []) gf (la - gf) (lb - gf) ht (by omega) (by omega) (by rw [show la - gf + gf = la from by omega, show lb - gf + gf = lb from by omega]; exact Lay.nil)
    simpa using this
  | t :: S, i, j, h, hg => by
    obtain ⟨h1, h2, h3, h4, h5⟩ := h
    have he := Seg.ends S h5
    have b1 := endA_le S (i + t.g + t.d)
    have b2 := endB_le S (j + t.g + t.e)
    have ih := lay_of g1 g2 ht S _ _ h5 (fun x hx => by
      cases S with
      | nil => simp at hx
      | cons s S => exact hg x (by simp at hx ⊢; exact Or.inr hx))
    have hfree : i + t.g + t.d < la → R (i + t.g + t.d) = false := by
      intro hl
      cases S with
      | nil =>
        obtain ⟨e1, e2⟩ := h5
        have := (ht 0 (by omega)).1
        rwa [Nat.add_zero, e1] at this
      | cons s S =>
        have hs := hg s (by simp)
        have := (h5.1 0 (by omega)).1
        rwa [Nat.add_zero] at this
    simp only [lay, endA, endB, List.append_assoc]
    refine lay_keep t.g i j h1 (by omega) (by omega) (lay_rem t.d (i + t.g) (j + t.g) h2 (by omega) (lay_add _ hfree t.e (j + t.g) h3 (by omega) ?_))
    exact ih

theorem next_un (R : Nat → Bool) (la : Nat) : ∀ (f ka : Nat), f = la - ka → (∃ y, ka ≤ y ∧ y < la ∧ R y = false ∧ ∀ z, ka ≤ z → z < y → R z = true) ∨ (∀ z, ka ≤ z → z < la → R z = true)
  | 0, ka, h => Or.inr (fun z h1 h2 => by omega)
  | f + 1, ka, h => by
    cases hR : R ka
    · exact Or.inl ⟨ka, Nat.le_refl _, by omega, hR, fun z h1 h2 => by omega⟩
    · rcases next_un R la f (ka + 1) (by omega) with ⟨y, h1, h2, h3, h4⟩ | h4
      · refine Or.inl ⟨y, by omega, h2, h3, fun z z1 z2 => ?_⟩
        by_cases e : z = ka
        · rw [e]; exact hR
        · exact h4 z (by omega) z2
      · refine Or.inr (fun z z1 z2 => ?_)
        by_cases e : z = ka
        · rw [e]; exact hR
        · exact h4 z (by omega) z2
theorem ul_to (R : Nat → Bool) (a b : Nat) (h : a ≤ b) (hm : ∀ z, a ≤ z → z < b → R z = true) : ul R b = ul R a := by
  have := ul_marked R a (b - a) (fun k hk => hm (a + k) (by omega) (by omega))
  rwa [show a + (b - a) = b from by omega] at this
/-- the next unmarked line -/
theorem um_next (R : Nat → Bool) (la ka k x : Nat) (hk : ul R ka = k) (hka : ka ≤ la) (hx : (um R la)[k]? = some x) : ka ≤ x ∧ x < la ∧ R x = false ∧ (∀ z, ka ≤ z → z < x → R z = true) ∧ ul R x = k := by
  rcases next_un R la _ ka rfl with ⟨y, h1, h2, h3, h4⟩ | h4
  · have hu := ul_to R ka y h1 h4
    have := um_at R la y h2 h3
    rw [hu, hk, hx] at this
    simp only [Option.some.injEq] at this
    subst this
    exact ⟨h1, h2, h3, h4, by omega⟩
  · have hu := ul_to R ka la hka h4
    have := (List.getElem?_eq_some_iff.1 hx).1
    unfold ul at hu hk; omega
theorem um_last (R : Nat → Bool) (la ka : Nat) (hk : ul R ka = (um R la).length) (hka : ka ≤ la) : ∀ z, ka ≤ z → z < la → R z = true := by
  rcases next_un R la _ ka rfl with ⟨y, h1, h2, h3, h4⟩ | h4
  · have hu := ul_to R ka y h1 h4
    have := (List.getElem?_eq_some_iff.1 (um_at R la y h2 h3)).1
    omega
  · exact h4
theorem lay_len {R D : Nat → Bool} {la lb : Nat} : ∀ {L : List Rc} {i j : Nat}, Lay R D la lb i j L → L.length + i + j ≤ la + lb ∧ i ≤ la ∧ j ≤ lb
  | [], i, j, h => by obtain ⟨rfl, rfl⟩ := h; simp
  | r :: L, i, j, h => by
    rcases h with ⟨_, h1, _, h⟩ | ⟨_, _, h1, _, h⟩ | ⟨_, h1, h2, _, _, h⟩
    all_goals
      have := lay_len h
      simp only [List.length_cons]; omega
/-- the layout's next line, read off the marks -/
theorem lay_inv_rem {R D : Nat → Bool} {la lb i j : Nat} {L : List Rc} (h : Lay R D la lb i j L) (h1 : i < la) (h2 : R i = true) : ∃ L', L = ⟨45, i, 0⟩ :: L' ∧ Lay R D la lb (i + 1) j L' := by
  cases L with
  | nil => obtain ⟨e, _⟩ := h; omega
  | cons r L =>
    rcases h with ⟨rfl, _, _, h⟩ | ⟨_, h0, _, _, h⟩ | ⟨_, _, _, h3, _, h⟩
    · exact ⟨L, rfl, h⟩
    · rw [h0 h1] at h2; cases h2
    · rw [h3] at h2; cases h2
theorem lay_inv_add {R D : Nat → Bool} {la lb i j : Nat} {L : List Rc} (h : Lay R D la lb i j L) (h0 : i < la → R i = false) (h1 : j < lb) (h2 : D j = true) : ∃ L', L = ⟨43, 0, j⟩ :: L' ∧ Lay R D la lb i (j + 1) L' := by
  cases L with
  | nil => obtain ⟨_, e⟩ := h; omega
  | cons r L =>
    rcases h with ⟨_, h3, h4, h⟩ | ⟨rfl, _, _, _, h⟩ | ⟨_, _, _, _, h4, h⟩
    · rw [h0 h3] at h4; cases h4
    · exact ⟨L, rfl, h⟩
    · rw [h4] at h2; cases h2
theorem lay_inv_keep {R D : Nat → Bool} {la lb i j : Nat} {L : List Rc} (h : Lay R D la lb i j L) (h1 : i < la) (h2 : R i = false) (h3 : j < lb) (h4 : D j = false) : ∃ L', L = ⟨32, i, j⟩ :: L' ∧ Lay R D la lb (i + 1) (j + 1) L' := by
  cases L with
  | nil => obtain ⟨e, _⟩ := h; omega
  | cons r L =>
    rcases h with ⟨_, _, h5, h⟩ | ⟨_, _, _, h5, h⟩ | ⟨rfl, _, _, _, _, h⟩
    · rw [h2] at h5; cases h5
    · rw [h4] at h5; cases h5
    · exact ⟨L, rfl, h⟩
theorem lay_inv_nil {R D : Nat → Bool} {la lb : Nat} {L : List Rc} (h : Lay R D la lb la lb L) : L = [] := by
  have := (lay_len h).1
  exact List.eq_nil_of_length_eq_zero (by omega)
end Go.Proofs.Qxb6605269a.ModelMath
