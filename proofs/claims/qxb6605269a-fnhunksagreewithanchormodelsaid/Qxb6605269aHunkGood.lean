import Derived.Test.Qxb6605269aHunkMath
namespace Go.Proofs.Qxb6605269a.HunkGood
open Go.Proofs.Qxb6605269a.HunkBools
open Go.Proofs.Qxb6605269a.HunkMath

/-- a hunk's lines, taken from X at p and given to Y at q -/
def Eat (X Y : Nat → ByteArray) (lx ly : Nat) (tk gv : Int) : Nat → Nat → Ops → Nat → Nat → Prop
  | p, q, [], p', q' => p' = p ∧ q' = q
  | p, q, o :: l, p', q' =>
    (o.1 = 32 ∧ p < lx ∧ q < ly ∧ o.2 = X p ∧ o.2 = Y q ∧ Eat X Y lx ly tk gv (p + 1) (q + 1) l p' q') ∨
    (o.1 = tk ∧ p < lx ∧ o.2 = X p ∧ Eat X Y lx ly tk gv (p + 1) q l p' q') ∨
    (o.1 = gv ∧ q < ly ∧ o.2 = Y q ∧ Eat X Y lx ly tk gv p (q + 1) l p' q')

theorem Eat.le {X Y : Nat → ByteArray} {lx ly : Nat} {tk gv : Int} : ∀ {l : Ops} {p q p' q' : Nat}, Eat X Y lx ly tk gv p q l p' q' → p ≤ p' ∧ q ≤ q' ∧ (p ≤ lx → p' ≤ lx) ∧ (q ≤ ly → q' ≤ ly)
  | [], p, q, p', q', h => by obtain ⟨rfl, rfl⟩ := h; exact ⟨Nat.le_refl _, Nat.le_refl _, id, id⟩
  | o :: l, p, q, p', q', h => by
    rcases h with ⟨_, h1, h2, _, _, h⟩ | ⟨_, h1, _, h⟩ | ⟨_, h2, _, h⟩
    all_goals
      obtain ⟨a, b, c, d⟩ := Eat.le h
      refine ⟨by omega, by omega, fun h => c (by omega), fun h => d (by omega)⟩

theorem Eat.swap {X Y : Nat → ByteArray} {lx ly : Nat} {tk gv : Int} : ∀ {l : Ops} {p q p' q' : Nat}, Eat X Y lx ly tk gv p q l p' q' → Eat Y X ly lx gv tk q p l q' p'
  | [], p, q, p', q', h => ⟨h.2, h.1⟩
  | o :: l, p, q, p', q', h => by
    rcases h with ⟨h0, h1, h2, h3, h4, h⟩ | ⟨h0, h1, h2, h⟩ | ⟨h0, h1, h2, h⟩
    · exact Or.inl ⟨h0, h2, h1, h4, h3, Eat.swap h⟩
    · exact Or.inr (Or.inr ⟨h0, h1, h2, Eat.swap h⟩)
    · exact Or.inr (Or.inl ⟨h0, h1, h2, Eat.swap h⟩)

theorem Eat.append {X Y : Nat → ByteArray} {lx ly : Nat} {tk gv : Int} : ∀ {l m : Ops} {p q p1 q1 p2 q2 : Nat}, Eat X Y lx ly tk gv p q l p1 q1 → Eat X Y lx ly tk gv p1 q1 m p2 q2 → Eat X Y lx ly tk gv p q (l ++ m) p2 q2
  | [], m, p, q, p1, q1, p2, q2, h, hm => by obtain ⟨rfl, rfl⟩ := h; exact hm
  | o :: l, m, p, q, p1, q1, p2, q2, h, hm => by
    rcases h with ⟨h0, h1, h2, h3, h4, h⟩ | ⟨h0, h1, h2, h⟩ | ⟨h0, h1, h2, h⟩
    · exact Or.inl ⟨h0, h1, h2, h3, h4, Eat.append h hm⟩
    · exact Or.inr (Or.inl ⟨h0, h1, h2, Eat.append h hm⟩)
    · exact Or.inr (Or.inr ⟨h0, h1, h2, Eat.append h hm⟩)

theorem eat_keep {X Y : Nat → ByteArray} {lx ly : Nat} {tk gv : Int} (p q : Nat) : ∀ n, p + n ≤ lx → q + n ≤ ly → (∀ k, k < n → X (p + k) = Y (q + k)) → Eat X Y lx ly tk gv p q (run 32 X p n) (p + n) (q + n)
  | 0, _, _, _ => ⟨rfl, rfl⟩
  | n + 1, h1, h2, h => Eat.append (eat_keep p q n (by omega) (by omega) (fun k hk => h k (by omega))) (Or.inl ⟨rfl, by omega, by omega, rfl, h n (by omega), rfl, rfl⟩)
theorem eat_take {X Y : Nat → ByteArray} {lx ly : Nat} {tk gv : Int} (p q : Nat) : ∀ n, p + n ≤ lx → Eat X Y lx ly tk gv p q (run tk X p n) (p + n) q
  | 0, _ => ⟨rfl, rfl⟩
  | n + 1, h1 => Eat.append (eat_take p q n (by omega)) (Or.inr (Or.inl ⟨rfl, by omega, rfl, rfl, rfl⟩))
theorem eat_give {X Y : Nat → ByteArray} {lx ly : Nat} {tk gv : Int} (p q : Nat) : ∀ n, q + n ≤ ly → Eat X Y lx ly tk gv p q (run gv Y q n) p (q + n)
  | 0, _ => ⟨rfl, rfl⟩
  | n + 1, h1 => Eat.append (eat_give p q n (by omega)) (Or.inr (Or.inr ⟨rfl, by omega, rfl, rfl, rfl⟩))

/-- the unchanged lines of a script are the same -/
def Sq (A B : Nat → ByteArray) : Nat → Nat → List Tr → Prop
  | _, _, [] => True
  | i, j, t :: S => (∀ k, k < t.g → A (i + k) = B (j + k)) ∧ Sq A B (i + t.g + t.d) (j + t.g + t.e) S
theorem Sq.split {A B : Nat → ByteArray} : ∀ {S T : List Tr} {i j : Nat}, Sq A B i j (S ++ T) → Sq A B i j S ∧ Sq A B (endA i S) (endB j S) T
  | [], _, _, _, h => ⟨trivial, h⟩
  | _ :: _, _, _, _, h => ⟨⟨h.1, (Sq.split h.2).1⟩, (Sq.split h.2).2⟩

theorem eat_full {A B : Nat → ByteArray} {la lb : Nat} : ∀ (S : List Tr) (i j : Nat), Sq A B i j S → endA i S ≤ la → endB j S ≤ lb → Eat A B la lb 45 43 i j (full A B i j S) (endA i S) (endB j S)
  | [], _, _, _, _, _ => ⟨rfl, rfl⟩
  | t :: S, i, j, hs, h1, h2 => by
    have e1 := endA_le S (i + t.g + t.d)
    have e2 := endB_le S (j + t.g + t.e)
    simp only [endA, endB] at h1 h2
    simp only [full, endA, endB]
    have k1 := eat_keep (X := A) (Y := B) (lx := la) (ly := lb) (tk := 45) (gv := 43) i j t.g (by omega) (by omega) hs.1
    have k2 := eat_take (X := A) (Y := B) (lx := la) (ly := lb) (tk := 45) (gv := 43) (i + t.g) (j + t.g) t.d (by omega)
    have k3 := eat_give (X := A) (Y := B) (lx := la) (ly := lb) (tk := 45) (gv := 43) (i + t.g + t.d) (j + t.g) t.e (by omega)
    exact ((k1.append k2).append k3).append (eat_full S _ _ hs.2 h1 h2)

/-- hunks that patch X into Y from (p, q) on -/
def GoodP (A B : Nat → ByteArray) (la lb : Nat) : Nat → Nat → List Hk → Nat → Prop
  | p, q, [], n => p + n = la ∧ q + n = lb ∧ ∀ k, k < n → A (p + k) = B (q + k)
  | p, q, h :: hs, rest => ∃ n f g p' q', f = p + n ∧ g = q + n ∧ (∀ k, k < n → A (p + k) = B (q + k)) ∧ f ≤ la ∧ g ≤ lb ∧ h.ub = n ∧ h.os = HunkMath.start f p' ∧ h.ol = p' - f ∧ h.ns = HunkMath.start g q' ∧ h.nl = q' - g ∧ Eat A B la lb 45 43 f g h.ops p' q' ∧ GoodP A B la lb p' q' hs rest
theorem GoodP.nil {A B : Nat → ByteArray} {la lb : Nat} (p q n : Nat) (h1 : p + n = la) (h2 : q + n = lb) (h : ∀ k, k < n → A (p + k) = B (q + k)) : GoodP A B la lb p q [] n := ⟨h1, h2, h⟩
theorem GoodP.cons {A B : Nat → ByteArray} {la lb : Nat} (p q n f g p' q' : Nat) (h : Hk) (hs : List Hk) (rest : Nat) (hf : f = p + n) (hg : g = q + n) (hk : ∀ k, k < n → A (p + k) = B (q + k)) (l1 : f ≤ la) (l2 : g ≤ lb) (ub : h.ub = n)
    (s1 : h.os = HunkMath.start f p') (s2 : h.ol = p' - f) (s3 : h.ns = HunkMath.start g q') (s4 : h.nl = q' - g) (eat : Eat A B la lb 45 43 f g h.ops p' q') (next : GoodP A B la lb p' q' hs rest) : GoodP A B la lb p q (h :: hs) rest :=
  ⟨n, f, g, p', q', hf, hg, hk, l1, l2, ub, s1, s2, s3, s4, eat, next⟩

theorem good_of {A B : Nat → ByteArray} {la lb gf : Nat} {i j cp : Nat} {S : List Tr} {hs : List Hk} {rest : Nat} (h : HOK A B la i j cp S hs rest) :
    Sq A B i j S → endA i S + gf = la → endB j S + gf = lb → (∀ k, k < gf → A (endA i S + k) = B (endB j S + k)) → (S = [] → cp ≤ gf) → (∀ x S', S = x :: S' → cp = 0 ∨ cp ≤ 3 ∧ 7 ≤ x.g) → GoodP A B la lb (i + cp) (j + cp) hs rest := by
  refine HOK.ind (motive := fun i j cp S hs rest => Sq A B i j S → endA i S + gf = la → endB j S + gf = lb → (∀ k, k < gf → A (endA i S + k) = B (endB j S + k)) → (S = [] → cp ≤ gf) → (∀ x S', S = x :: S' → cp = 0 ∨ cp ≤ 3 ∧ 7 ≤ x.g) → GoodP A B la lb (i + cp) (j + cp) hs rest) ?_ ?_ hs i j cp S rest h
  · intro i j cp
    intro _ h1 h2 h3 h4 _
    simp only [endA, endB] at h1 h2 h3
    have := h4 rfl
    rw [show la - (i + cp) = gf - cp from by omega]
    exact GoodP.nil _ _ _ (by omega) (by omega) (fun k hk => by rw [Nat.add_assoc, Nat.add_assoc]; exact h3 (cp + k) (by omega))
  · intro i j cp c c' t r S hs rest hr hS hc hc' next ih
    intro q1 h1 h2 h3 h4 h5
    have h5 := h5 t (r ++ S) rfl
    have hg := q1.1
    obtain ⟨sq1, sq2⟩ := Sq.split q1
    rw [endA_append] at h1 h3
    rw [endB_append] at h2 h3
    generalize ea : endA i (t :: r) = x at *
    generalize eb : endB j (t :: r) = y at *
    have b1 := endA_le S x
    have b2 := endB_le S y
    have b3 := endA_le r (i + t.g + t.d)
    have b4 := endB_le r (j + t.g + t.e)
    have ea' : endA (i + t.g + t.d) r = x := ea
    have eb' : endB (j + t.g + t.e) r = y := eb
    rw [ea'] at b3
    rw [eb'] at b4
    have hcp : cp + c ≤ t.g := by omega
    have hnext : c' + x ≤ la ∧ c' + y ≤ lb ∧ (∀ k, k < c' → A (x + k) = B (y + k)) ∧ (S = [] → c' ≤ gf) := by
      cases S with
      | nil =>
        simp only [endA, endB] at h1 h2 h3
        refine ⟨by omega, by omega, fun k hk => h3 k (by omega), fun _ => by omega⟩
      | cons s S' =>
        have h7 := hS s S' rfl
        have b5 := endA_le S' (x + s.g + s.d)
        have b6 := endB_le S' (y + s.g + s.e)
        simp only [endA, endB] at h1 h2 b5 b6
        refine ⟨by omega, by omega, fun k hk => sq2.1 k (by omega), fun h => by cases h⟩
    refine GoodP.cons (i + cp) (j + cp) (t.g - c - cp) (i + t.g - c) (j + t.g - c) (x + c') (y + c') _ hs rest (by omega) (by omega) ?_ (by omega) (by omega) rfl ?_ ?_ ?_ ?_ ?_ ?_
    · intro k hk
      rw [Nat.add_assoc, Nat.add_assoc]; exact hg (cp + k) (by omega)
    · simp only [hk, ea]
    · simp only [hk, ea]
    · simp only [hk, eb]
    · simp only [hk, eb]
    · simp only [hk, ea]
      have k0 := eat_keep (X := A) (Y := B) (lx := la) (ly := lb) (tk := 45) (gv := 43) (i + t.g - c) (j + t.g - c) c (by omega) (by omega) (fun k hk => by
        rw [show i + t.g - c + k = i + (t.g - c + k) from by omega, show j + t.g - c + k = j + (t.g - c + k) from by omega]; exact hg _ (by omega))
      rw [show i + t.g - c + c = i + t.g from by omega, show j + t.g - c + c = j + t.g from by omega] at k0
      have k2 := eat_take (X := A) (Y := B) (lx := la) (ly := lb) (tk := 45) (gv := 43) (i + t.g) (j + t.g) t.d (by omega)
      have k3 := eat_give (X := A) (Y := B) (lx := la) (ly := lb) (tk := 45) (gv := 43) (i + t.g + t.d) (j + t.g) t.e (by omega)
      have k4 := eat_full (la := la) (lb := lb) r _ _ sq1.2 (by omega) (by omega)
      rw [ea', eb'] at k4
      have k5 := eat_keep (X := A) (Y := B) (lx := la) (ly := lb) (tk := 45) (gv := 43) x y c' (by omega) (by omega) hnext.2.2.1
      exact (((k0.append k2).append k3).append k4).append k5
    · exact ih sq2 h1 h2 h3 hnext.2.2.2 (fun s S' e => Or.inr ⟨by omega, hS s S' e⟩)

/-- how many lines stand unmarked ahead of x -/
def ul (R : Nat → Bool) (x : Nat) : Nat := (um R x).length
theorem ul_succ (R : Nat → Bool) (x : Nat) : ul R (x + 1) = ul R x + if R x then 0 else 1 := by
  unfold ul; rw [um, List.length_append]; cases R x <;> simp
theorem ul_free (R : Nat → Bool) (i : Nat) : ∀ n, (∀ k, k < n → R (i + k) = false) → ul R (i + n) = ul R i + n
  | 0, _ => rfl
  | n + 1, h => by rw [← Nat.add_assoc, ul_succ, ul_free R i n (fun k hk => h k (by omega)), h n (by omega)]; simp; omega
theorem ul_marked (R : Nat → Bool) (i : Nat) : ∀ n, (∀ k, k < n → R (i + k) = true) → ul R (i + n) = ul R i
  | 0, _ => rfl
  | n + 1, h => by rw [← Nat.add_assoc, ul_succ, ul_marked R i n (fun k hk => h k (by omega)), h n (by omega)]; simp
theorem um_at (R : Nat → Bool) : ∀ (n x : Nat), x < n → R x = false → (um R n)[ul R x]? = some x
  | n + 1, x, h, hx => by
    by_cases e : x = n
    · subst e; rw [um, hx]; unfold ul; simp
    · have := um_at R n x (by omega) hx
      rw [um, List.getElem?_append_left (List.getElem?_eq_some_iff.1 this).1]; exact this
theorem ul_cnt (R : Nat → Bool) (l : Nat) : ∀ f, f ≤ l → ul R (l - f) + cnt R l f = ul R l
  | 0, _ => rfl
  | f + 1, h => by
    have := ul_cnt R l f (by omega)
    have e := ul_succ R (l - (f + 1))
    rw [show l - (f + 1) + 1 = l - f from by omega] at e
    rw [cnt]; omega
theorem um_cnt (R : Nat → Bool) (l : Nat) : (um R l).length = cnt R l l := by
  have := ul_cnt R l l (Nat.le_refl _)
  rw [Nat.sub_self] at this
  have e : ul R 0 = 0 := rfl
  unfold ul at *; omega

theorem sq_of {A B : Nat → ByteArray} {R D : Nat → Bool} {la lb : Nat} (heq : ∀ x y, ul R x = ul D y → x < la → y < lb → R x = false → D y = false → A x = B y) :
    ∀ (S : List Tr) (i j i' j' : Nat), Seg R D i j S i' j' → i' ≤ la → j' ≤ lb → ul R i = ul D j → Sq A B i j S ∧ ul R i' = ul D j'
  | [], i, j, i', j', h, _, _, hu => by obtain ⟨rfl, rfl⟩ := h; exact ⟨trivial, hu⟩
  | t :: S, i, j, i', j', h, l1, l2, hu => by
    obtain ⟨h1, h2, h3, _, h5⟩ := h
    have he := Seg.ends S h5
    have b1 := endA_le S (i + t.g + t.d)
    have b2 := endB_le S (j + t.g + t.e)
    have u1 := ul_free R i t.g (fun k hk => (h1 k hk).1)
    have u2 := ul_free D j t.g (fun k hk => (h1 k hk).2)
    have u3 := ul_marked R (i + t.g) t.d h2
    have u4 := ul_marked D (j + t.g) t.e h3
    obtain ⟨r1, r2⟩ := sq_of heq S _ _ i' j' h5 l1 l2 (by omega)
    refine ⟨⟨fun k hk => ?_, r1⟩, r2⟩
    have u5 := ul_free R i k (fun k' hk' => (h1 k' (by omega)).1)
    have u6 := ul_free D j k (fun k' hk' => (h1 k' (by omega)).2)
    exact heq _ _ (by omega) (by omega) (by omega) (h1 k hk).1 (h1 k hk).2

/-- the hunks of a script that keeps the same lines are a patch -/
theorem good_all {A B : Nat → ByteArray} {R D : Nat → Bool} {la lb gf : Nat} {S : List Tr} {hs : List Hk} {rest : Nat} (heq : ∀ (k x y : Nat), (um R la)[k]? = some x → (um D lb)[k]? = some y → A x = B y)
    (hseg : Seg R D 0 0 S (la - gf) (lb - gf)) (g1 : gf ≤ la) (g2 : gf ≤ lb) (htail : ∀ k, k < gf → R (la - gf + k) = false ∧ D (lb - gf + k) = false) (h : HOK A B la 0 0 0 S hs rest) : GoodP A B la lb 0 0 hs rest := by
  have heq' : ∀ x y, ul R x = ul D y → x < la → y < lb → R x = false → D y = false → A x = B y := by
    intro x y hu hx hy h1 h2
    have a1 := um_at R la x hx h1
    have a2 := um_at D lb y hy h2
    rw [← hu] at a2
    exact heq _ _ _ a1 a2
  obtain ⟨q1, q2⟩ := sq_of heq' S 0 0 _ _ hseg (by omega) (by omega) rfl
  obtain ⟨e1, e2⟩ := Seg.ends S hseg
  refine good_of (gf := gf) h q1 (by omega) (by omega) (fun k hk => ?_) (fun _ => by omega) (fun _ _ _ => Or.inl rfl)
  rw [← e1, ← e2]
  have u1 := ul_free R (la - gf) k (fun k' hk' => (htail k' (by omega)).1)
  have u2 := ul_free D (lb - gf) k (fun k' hk' => (htail k' (by omega)).2)
  exact heq' _ _ (by omega) (by omega) (by omega) (htail k hk).1 (htail k hk).2
end Go.Proofs.Qxb6605269a.HunkGood
