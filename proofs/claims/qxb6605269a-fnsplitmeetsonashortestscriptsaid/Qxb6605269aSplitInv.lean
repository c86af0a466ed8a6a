import Derived.Test.Qxb6605269aLcs
namespace Go.Proofs.Qxb6605269a.SplitInv
open Go.RowKit
open Go.Proofs.Qxb6605269a.SplitMath
open Go.Proofs.Qxb6605269a.Lcs (hide rowIs_drewN set_int)

/-! ### what the two scratch rows hold, round by round (h: half; the diagonal k lies at h + 1 + k) -/
def ix (h : Nat) (k : Int) : Nat := ((h : Int) + 1 + k).toNat
def Was (d : Nat) (s : Int) (k : Int) : Prop := (d = 0 ∧ k = s) ∨ (1 ≤ d ∧ K (d - 1) k)
def PrevF (M : Nat → Nat → Bool) (n h d : Nat) (F : Nat → Int) : Prop := ∀ k, Was d 1 k → F (ix h k) = row M n d k
def CurF (M : Nat → Nat → Bool) (n h d : Nat) (k : Int) (F : Nat → Int) : Prop := ∀ k', K d k' → k' < k → F (ix h k') = row M n (d + 1) k'
def PrevG (M : Nat → Nat → Bool) (n h d : Nat) (G : Nat → Int) : Prop := ∀ j, Was d (-1) j → G (ix h j) = n - row M n d (-j)
def CurG (M : Nat → Nat → Bool) (n h d : Nat) (j : Int) (G : Nat → Int) : Prop := ∀ j', K d j' → j' < j → G (ix h j') = n - row M n (d + 1) (-j')

def put (F : Nat → Int) (i : Nat) (v : Int) : Nat → Int := fun j => if j = i then v else F j
theorem put_here (F : Nat → Int) (i : Nat) (v : Int) : put F i v i = v := by simp [put]
theorem put_other (F : Nat → Int) (i j : Nat) (v : Int) (h : j ≠ i) : put F i v j = F j := by simp [put, h]

theorem was_bound {d h : Nat} {s k : Int} (hw : Was d s k) (hd : d ≤ h) (hs : s = 1 ∨ s = -1) : -((h : Int) + 1) ≤ k ∧ k ≤ h + 1 ∧ (k - d) % 2 = 1 := by
  unfold Was at hw
  rcases hw with ⟨h1, h2⟩ | ⟨h1, h2⟩
  · omega
  · unfold K at h2; omega

theorem prevF_put {M : Nat → Nat → Bool} {n h d : Nat} {F : Nat → Int} (hp : PrevF M n h d F) (hd : d ≤ h) (k v : Int) (hk : K d k) : PrevF M n h d (put F (ix h k) v) := by
  intro k' hw
  have hb := was_bound hw hd (Or.inl rfl)
  unfold K at hk
  rw [put_other _ _ _ _ (by unfold ix; omega)]
  exact hp k' hw
theorem prevG_put {M : Nat → Nat → Bool} {n h d : Nat} {F : Nat → Int} (hp : PrevG M n h d F) (hd : d ≤ h) (k v : Int) (hk : K d k) : PrevG M n h d (put F (ix h k) v) := by
  intro k' hw
  have hb := was_bound hw hd (Or.inr rfl)
  unfold K at hk
  rw [put_other _ _ _ _ (by unfold ix; omega)]
  exact hp k' hw
theorem curF_put {M : Nat → Nat → Bool} {n h d : Nat} {F : Nat → Int} {k : Int} (hp : CurF M n h d k F) (hd : d ≤ h) (v : Int) (hk : K d k) (hv : v = row M n (d + 1) k) : CurF M n h d (k + 2) (put F (ix h k) v) := by
  intro k' hk' hlt
  by_cases e : k' = k
  · subst e; rw [put_here, hv]
  · have h1 := hk
    have h2 := hk'
    unfold K at h1 h2
    rw [put_other _ _ _ _ (by unfold ix; omega)]
    exact hp k' hk' (by omega)
theorem curG_put {M : Nat → Nat → Bool} {n h d : Nat} {F : Nat → Int} {k : Int} (hp : CurG M n h d k F) (hd : d ≤ h) (v : Int) (hk : K d k) (hv : v = n - row M n (d + 1) (-k)) : CurG M n h d (k + 2) (put F (ix h k) v) := by
  intro k' hk' hlt
  by_cases e : k' = k
  · subst e; rw [put_here, hv]
  · have h1 := hk
    have h2 := hk'
    unfold K at h1 h2
    rw [put_other _ _ _ _ (by unfold ix; omega)]
    exact hp k' hk' (by omega)
theorem curF_zero (M : Nat → Nat → Bool) (n h d : Nat) (F : Nat → Int) : CurF M n h d (-(d : Int)) F := by
  intro k' hk' hlt; unfold K at hk'; omega
theorem curG_zero (M : Nat → Nat → Bool) (n h d : Nat) (F : Nat → Int) : CurG M n h d (-(d : Int)) F := by
  intro k' hk' hlt; unfold K at hk'; omega
theorem prevF_next {M : Nat → Nat → Bool} {n h d : Nat} {F : Nat → Int} {k : Int} (hp : CurF M n h d k F) (hk : (d : Int) < k) : PrevF M n h (d + 1) F := by
  intro k' hw
  rcases hw with ⟨h1, _⟩ | ⟨_, h2⟩
  · omega
  · exact hp k' h2 (by have := h2.2.1; simp at this; omega)
theorem prevG_next {M : Nat → Nat → Bool} {n h d : Nat} {F : Nat → Int} {k : Int} (hp : CurG M n h d k F) (hk : (d : Int) < k) : PrevG M n h (d + 1) F := by
  intro k' hw
  rcases hw with ⟨h1, _⟩ | ⟨_, h2⟩
  · omega
  · exact hp k' h2 (by have := h2.2.1; simp at this; omega)
theorem prevF_zero (M : Nat → Nat → Bool) (n h : Nat) (F : Nat → Int) : PrevF M n h 0 (put F (h + 2) 0) := by
  intro k hw
  rcases hw with ⟨_, h2⟩ | ⟨h1, _⟩
  · subst h2
    have e : ix h 1 = h + 2 := by unfold ix; omega
    rw [e, put_here]; rfl
  · omega
theorem prevG_zero (M : Nat → Nat → Bool) (n h : Nat) (F : Nat → Int) : PrevG M n h 0 (put F h (n : Int)) := by
  intro k hw
  rcases hw with ⟨_, h2⟩ | ⟨h1, _⟩
  · subst h2
    have e : ix h (-1) = h := by unfold ix; omega
    rw [e, put_here]; simp [row]
  · omega

/-! ### the start of a turn -/
/-- what stands left and right of k in the row before, as the code reads it -/
theorem st_lo {M : Nat → Nat → Bool} {n h d : Nat} {F : Nat → Int} {k : Int} (hp : PrevF M n h d F) (hk : K d k) (e : k = -(d : Int)) : st d k (row M n d) = F (ix h (k + 1)) := by
  unfold st; rw [if_pos (Or.inl e)]
  refine (hp _ ?_).symm
  unfold K at hk
  by_cases hd : d = 0
  · exact Or.inl ⟨hd, by omega⟩
  · refine Or.inr ⟨by omega, ?_⟩; unfold K; omega
theorem st_hi {M : Nat → Nat → Bool} {n h d : Nat} {F : Nat → Int} {k : Int} (hp : PrevF M n h d F) (hk : K d k) (e1 : k ≠ -(d : Int)) (e2 : k = d) : st d k (row M n d) = F (ix h (k - 1)) + 1 := by
  unfold K at hk
  unfold st; rw [if_neg (by omega)]
  congr 1
  refine (hp _ (Or.inr ⟨by omega, ?_⟩)).symm
  unfold K; omega
theorem st_mid {M : Nat → Nat → Bool} {n h d : Nat} {F : Nat → Int} {k : Int} (hp : PrevF M n h d F) (hk : K d k) (e1 : k ≠ -(d : Int)) (e2 : k ≠ d) :
    (F (ix h (k - 1)) < F (ix h (k + 1)) → st d k (row M n d) = F (ix h (k + 1))) ∧ (¬ F (ix h (k - 1)) < F (ix h (k + 1)) → st d k (row M n d) = F (ix h (k - 1)) + 1) := by
  unfold K at hk
  have a1 := hp (k - 1) (Or.inr ⟨by omega, by unfold K; omega⟩)
  have a2 := hp (k + 1) (Or.inr ⟨by omega, by unfold K; omega⟩)
  rw [a1, a2]
  unfold st
  exact ⟨fun hlt => by rw [if_pos (Or.inr ⟨e2, hlt⟩)], fun hge => by rw [if_neg (by omega)]⟩

theorem stG_lo {M : Nat → Nat → Bool} {n h d : Nat} {G : Nat → Int} {j : Int} (hp : PrevG M n h d G) (hk : K d j) (e : j = d) : (n : Int) - st d (-j) (row M n d) = G (ix h (j - 1)) := by
  unfold st; rw [if_pos (Or.inl (by omega))]
  have := hp (j - 1) (by
    unfold K at hk
    by_cases hd : d = 0
    · exact Or.inl ⟨hd, by omega⟩
    · refine Or.inr ⟨by omega, ?_⟩; unfold K; omega)
  rw [this, show -(j - 1) = -j + 1 from by omega]
theorem stG_hi {M : Nat → Nat → Bool} {n h d : Nat} {G : Nat → Int} {j : Int} (hp : PrevG M n h d G) (hk : K d j) (e1 : j ≠ d) (e2 : j = -(d : Int)) : (n : Int) - st d (-j) (row M n d) = G (ix h (j + 1)) - 1 := by
  unfold K at hk
  unfold st; rw [if_neg (by omega)]
  have := hp (j + 1) (Or.inr ⟨by omega, by unfold K; omega⟩)
  rw [this, show -(j + 1) = -j - 1 from by omega]; omega
theorem stG_mid {M : Nat → Nat → Bool} {n h d : Nat} {G : Nat → Int} {j : Int} (hp : PrevG M n h d G) (hk : K d j) (e1 : j ≠ d) (e2 : j ≠ -(d : Int)) :
    (G (ix h (j - 1)) ≤ G (ix h (j + 1)) - 1 → (n : Int) - st d (-j) (row M n d) = G (ix h (j - 1))) ∧ (¬ G (ix h (j - 1)) ≤ G (ix h (j + 1)) - 1 → (n : Int) - st d (-j) (row M n d) = G (ix h (j + 1)) - 1) := by
  unfold K at hk
  have a1 := hp (j - 1) (Or.inr ⟨by omega, by unfold K; omega⟩)
  have a2 := hp (j + 1) (Or.inr ⟨by omega, by unfold K; omega⟩)
  rw [show -(j - 1) = -j + 1 from by omega] at a1
  rw [show -(j + 1) = -j - 1 from by omega] at a2
  rw [a1, a2]
  unfold st
  refine ⟨fun hlt => by rw [if_pos (Or.inr ⟨by omega, by omega⟩)], fun hge => by rw [if_neg (by omega)]; omega⟩

/-! ### the world -/
structure Inv (w : World) (bc bf bg lf lg : Nat) (C : Nat → Value) (wr : World) (F G : Nat → Int) (s : Int) : Prop where
  rf : wr.rowIs bf 3 lf (fun i => .int .i64 (F i))
  rg : wr.rowIs bg 3 lg (fun i => .int .i64 (G i))
  rc : wr.rowIs bc 49 7 (fun i => if i = 4 then .int .i64 s else C i)
  os : wr.os = w.os
  tape : wr.tape = w.tape
  output : wr.output = w.output
  size : wr.heap.size = w.heap.size
  blk : ∀ k, k ≠ bf → k ≠ bg → k ≠ bc → wr.heap[k]? = w.heap[k]?

variable {w wr : World} {bc bf bg lf lg : Nat} {C : Nat → Value} {F G : Nat → Int} {s : Int}

theorem heap_set_other (wr : World) (a : Addr) (u : Value) (k : Nat) (h : k ≠ a.block) : (wr.setCell a u).heap[k]? = wr.heap[k]? := Below.heap_setCell _ _ _ _ h

theorem Inv.drewN (hi : Inv w bc bf bg lf lg C wr F G s) (q : Nat) : Inv w bc bf bg lf lg C (wr.drewN q) F G s :=
  ⟨rowIs_drewN hi.rf q, rowIs_drewN hi.rg q, rowIs_drewN hi.rc q, hi.os, hi.tape, hi.output, hi.size, hi.blk⟩
theorem Inv.setF (hi : Inv w bc bf bg lf lg C wr F G s) (h1 : bf ≠ bg) (h2 : bf ≠ bc) (i : Nat) (v : Int) : Inv w bc bf bg lf lg C (wr.setCell ⟨bf, i, none⟩ (.int .i64 v)) (put F i v) G s :=
  ⟨set_int hi.rf i v, hi.rg.setOther (fun e => h1 e.symm) _, hi.rc.setOther (fun e => h2 e.symm) _, hi.os, hi.tape, hi.output, by have := hi.size; simpa [World.setCell] using this,
    fun k a b c => by rw [heap_set_other _ _ _ _ (by exact a)]; exact hi.blk k a b c⟩
theorem Inv.setG (hi : Inv w bc bf bg lf lg C wr F G s) (h1 : bg ≠ bf) (h2 : bg ≠ bc) (i : Nat) (v : Int) : Inv w bc bf bg lf lg C (wr.setCell ⟨bg, i, none⟩ (.int .i64 v)) F (put G i v) s :=
  ⟨hi.rf.setOther (fun e => h1 e.symm) _, set_int hi.rg i v, hi.rc.setOther (fun e => h2 e.symm) _, hi.os, hi.tape, hi.output, by have := hi.size; simpa [World.setCell] using this,
    fun k a b c => by rw [heap_set_other _ _ _ _ (by exact b)]; exact hi.blk k a b c⟩
theorem Inv.setS (hi : Inv w bc bf bg lf lg C wr F G s) (h1 : bc ≠ bf) (h2 : bc ≠ bg) (v : Int) : Inv w bc bf bg lf lg C (wr.setCell ⟨bc, 4, none⟩ (.int .i64 v)) F G v :=
  ⟨hi.rf.setOther (fun e => h1 e.symm) _, hi.rg.setOther (fun e => h2 e.symm) _,
    (hi.rc.set 4 (.int .i64 v)).congr (fun i _ => by by_cases e : i = 4 <;> simp [e]), hi.os, hi.tape, hi.output, by have := hi.size; simpa [World.setCell] using this,
    fun k a b c => by rw [heap_set_other _ _ _ _ (by exact c)]; exact hi.blk k a b c⟩
theorem Inv.steps (hi : Inv w bc bf bg lf lg C wr F G s) : wr.cell? ⟨bc, 4, none⟩ = some (.int .i64 s) := by
  have := hi.rc.cell (i := 4) (by omega)
  simpa using this
theorem Inv.old (hi : Inv w bc bf bg lf lg C wr F G s) {b : Nat} (h1 : b ≠ bf) (h2 : b ≠ bg) (h3 : b ≠ bc) (i : Nat) : wr.cell? ⟨b, i, none⟩ = w.cell? ⟨b, i, none⟩ :=
  World.cell?_of_block (w := w) (hi.blk b h1 h2 h3)

/-! ### the run -/
theorem go_neg {c s : Int} {o : Option (Int × Int)} {r : List (Int × Option (Int × Int))} (h : s - c < 0) : go ((c, o) :: r) s = some (0, 0, false, s - c) := by
  simp only [go]; rw [if_pos h]
theorem go_yes {c s : Int} {x y : Int} {r : List (Int × Option (Int × Int))} (h : ¬ s - c < 0) : go ((c, some (x, y)) :: r) s = some (x, y, true, s - c) := by
  simp only [go]; rw [if_neg h]
theorem go_no {c s : Int} {r : List (Int × Option (Int × Int))} (h : ¬ s - c < 0) : go ((c, none) :: r) s = go r (s - c) := by
  simp only [go]; rw [if_neg h]

structure Pars where
  (n m h : Nat) (M : Nat → Nat → Bool) (p q : Int) (S : Int)
def Pars.whole (P : Pars) : Option (Int × Int × Bool × Int) := go (rounds P.n P.m P.M P.p P.q (P.h + 1) 0) P.S

structure Head (P : Pars) (d : Nat) (F G : Nat → Int) (s : Int) : Prop where
  hd : d ≤ P.h + 1
  pf : PrevF P.M P.n P.h d F
  pg : PrevG (R P.n P.m P.M) P.n P.h d G
  s0 : 0 ≤ s
  s1 : s ≤ P.S
  run : P.whole = go (rounds P.n P.m P.M P.p P.q (P.h + 1 - d) d) s
structure HeadF (P : Pars) (d : Nat) (k : Int) (F G : Nat → Int) (s : Int) : Prop where
  hd : d ≤ P.h
  kk : -(d : Int) ≤ k ∧ k ≤ d + 2 ∧ (k - d) % 2 = 0
  pf : PrevF P.M P.n P.h d F
  cf : CurF P.M P.n P.h d k F
  pg : PrevG (R P.n P.m P.M) P.n P.h d G
  s0 : 0 ≤ s
  s1 : s ≤ P.S
  run : P.whole = go (fl P.n P.m P.M P.p P.q d ((d + 2 - k) / 2).toNat k ++ (bl P.n P.m P.M P.p P.q d (d + 1) (-(d : Int)) ++ rounds P.n P.m P.M P.p P.q (P.h - d) (d + 1))) s
structure HeadG (P : Pars) (d : Nat) (j : Int) (F G : Nat → Int) (s : Int) : Prop where
  hd : d ≤ P.h
  kk : -(d : Int) ≤ j ∧ j ≤ d + 2 ∧ (j - d) % 2 = 0
  cf : CurF P.M P.n P.h d (d + 2) F
  pg : PrevG (R P.n P.m P.M) P.n P.h d G
  cg : CurG (R P.n P.m P.M) P.n P.h d j G
  s0 : 0 ≤ s
  s1 : s ≤ P.S
  run : P.whole = go (bl P.n P.m P.M P.p P.q d ((d + 2 - j) / 2).toNat j ++ rounds P.n P.m P.M P.p P.q (P.h - d) (d + 1)) s

theorem Head.toF {P : Pars} {d : Nat} {F G : Nat → Int} {s : Int} (h : Head P d F G s) (hd : d ≤ P.h) : HeadF P d (-(d : Int)) F G s := by
  refine ⟨hd, by omega, h.pf, curF_zero _ _ _ _ _, h.pg, h.s0, h.s1, ?_⟩
  rw [h.run, show P.h + 1 - d = (P.h - d) + 1 from by omega, rounds, show (((d : Int) + 2 - -(d : Int)) / 2).toNat = d + 1 from by omega]
theorem HeadF.toG {P : Pars} {d : Nat} {k : Int} {F G : Nat → Int} {s : Int} (h : HeadF P d k F G s) (hk : (d : Int) < k) : HeadG P d (-(d : Int)) F G s := by
  obtain rfl : k = d + 2 := by have := h.kk; omega
  refine ⟨h.hd, by omega, h.cf, h.pg, curG_zero _ _ _ _ _, h.s0, h.s1, ?_⟩
  rw [h.run, show (((d : Int) + 2 - ((d : Int) + 2)) / 2).toNat = 0 from by omega, fl, show (((d : Int) + 2 - -(d : Int)) / 2).toNat = d + 1 from by omega, List.nil_append]
theorem HeadG.toHead {P : Pars} {d : Nat} {j : Int} {F G : Nat → Int} {s : Int} (h : HeadG P d j F G s) (hk : (d : Int) < j) : Head P (d + 1) F G s := by
  obtain rfl : j = d + 2 := by have := h.kk; omega
  refine ⟨by have := h.hd; omega, prevF_next h.cf (by omega), prevG_next h.cg (by omega), h.s0, h.s1, ?_⟩
  rw [h.run, show (((d : Int) + 2 - ((d : Int) + 2)) / 2).toNat = 0 from by omega, bl, List.nil_append, show P.h + 1 - (d + 1) = P.h - d from by omega]

theorem HeadF.K {P : Pars} {d : Nat} {k : Int} {F G : Nat → Int} {s : Int} (h : HeadF P d k F G s) (hk : k ≤ d) : K d k := by have := h.kk; unfold SplitMath.K; omega
theorem HeadG.K {P : Pars} {d : Nat} {k : Int} {F G : Nat → Int} {s : Int} (h : HeadG P d k F G s) (hk : k ≤ d) : K d k := by have := h.kk; unfold SplitMath.K; omega

theorem HeadF.list {P : Pars} {d : Nat} {k : Int} {F G : Nat → Int} {s : Int} (h : HeadF P d k F G s) (hk : k ≤ d) :
    fl P.n P.m P.M P.p P.q d ((d + 2 - k) / 2).toNat k = evF P.n P.m P.M P.p P.q d k :: fl P.n P.m P.M P.p P.q d ((d + 2 - (k + 2)) / 2).toNat (k + 2) := by
  have := h.kk
  rw [show (((d : Int) + 2 - k) / 2).toNat = (((d : Int) + 2 - (k + 2)) / 2).toNat + 1 from by omega, fl]
theorem HeadG.list {P : Pars} {d : Nat} {k : Int} {F G : Nat → Int} {s : Int} (h : HeadG P d k F G s) (hk : k ≤ d) :
    bl P.n P.m P.M P.p P.q d ((d + 2 - k) / 2).toNat k = evB P.n P.m P.M P.p P.q d k :: bl P.n P.m P.M P.p P.q d ((d + 2 - (k + 2)) / 2).toNat (k + 2) := by
  have := h.kk
  rw [show (((d : Int) + 2 - k) / 2).toNat = (((d : Int) + 2 - (k + 2)) / 2).toNat + 1 from by omega, bl]

theorem HeadF.neg {P : Pars} {d : Nat} {k : Int} {F G : Nat → Int} {s s' : Int} (h : HeadF P d k F G s) (hk : k ≤ d) (hs : s' = s - (1 + (slF P.n P.m P.M d k : Int))) (hn : s' < 0) : P.whole = some (0, 0, false, s') := by
  rw [h.run, h.list hk, List.cons_append, evF, go_neg (by omega), hs]
theorem HeadG.neg {P : Pars} {d : Nat} {k : Int} {F G : Nat → Int} {s s' : Int} (h : HeadG P d k F G s) (hk : k ≤ d) (hs : s' = s - (1 + (slF P.n P.m (R P.n P.m P.M) d (-k) : Int))) (hn : s' < 0) : P.whole = some (0, 0, false, s') := by
  rw [h.run, h.list hk, List.cons_append, evB, go_neg (by omega), hs]
theorem HeadF.yes {P : Pars} {d : Nat} {k : Int} {F G : Nat → Int} {s s' x y : Int} (h : HeadF P d k F G s) (hk : k ≤ d) (hs : s' = s - (1 + (slF P.n P.m P.M d k : Int))) (hn : ¬ s' < 0)
    (ht : tF P.n P.m P.M d k = true) (hx : x = P.p + row P.M P.n (d + 1) k) (hy : y = P.q + (row P.M P.n (d + 1) k - k)) : P.whole = some (x, y, true, s') := by
  rw [h.run, h.list hk, List.cons_append, evF, if_pos ht, go_yes (by omega), hs, hx, hy]
theorem HeadG.yes {P : Pars} {d : Nat} {k : Int} {F G : Nat → Int} {s s' x y : Int} (h : HeadG P d k F G s) (hk : k ≤ d) (hs : s' = s - (1 + (slF P.n P.m (R P.n P.m P.M) d (-k) : Int))) (hn : ¬ s' < 0)
    (ht : tB P.n P.m P.M d k = true) (hx : x = P.p + (P.n - row (R P.n P.m P.M) P.n (d + 1) (-k))) (hy : y = P.q + (P.n - row (R P.n P.m P.M) P.n (d + 1) (-k) - (k + (P.n - P.m)))) : P.whole = some (x, y, true, s') := by
  rw [h.run, h.list hk, List.cons_append, evB, if_pos ht, go_yes (by omega), hs, hx, hy]
theorem HeadF.next {P : Pars} {d : Nat} {k : Int} {F G : Nat → Int} {s s' v : Int} (h : HeadF P d k F G s) (hk : k ≤ d) (hs : s' = s - (1 + (slF P.n P.m P.M d k : Int))) (hn : ¬ s' < 0)
    (ht : tF P.n P.m P.M d k = false) (hv : v = row P.M P.n (d + 1) k) : HeadF P d (k + 2) (put F (ix P.h k) v) G s' := by
  have hK := h.K hk
  refine ⟨h.hd, by have := h.kk; omega, prevF_put h.pf h.hd k v hK, curF_put h.cf h.hd v hK hv, h.pg, by omega, by have := h.s1; omega, ?_⟩
  rw [h.run, h.list hk, List.cons_append, evF, if_neg (by simp [ht]), go_no (by omega), hs]
theorem HeadG.next {P : Pars} {d : Nat} {k : Int} {F G : Nat → Int} {s s' v : Int} (h : HeadG P d k F G s) (hk : k ≤ d) (hs : s' = s - (1 + (slF P.n P.m (R P.n P.m P.M) d (-k) : Int))) (hn : ¬ s' < 0)
    (ht : tB P.n P.m P.M d k = false) (hv : v = P.n - row (R P.n P.m P.M) P.n (d + 1) (-k)) : HeadG P d (k + 2) F (put G (ix P.h k) v) s' := by
  have hK := h.K hk
  refine ⟨h.hd, by have := h.kk; omega, h.cf, prevG_put h.pg h.hd k v hK, curG_put h.cg h.hd v hK hv, by omega, by have := h.s1; omega, ?_⟩
  rw [h.run, h.list hk, List.cons_append, evB, if_neg (by simp [ht]), go_no (by omega), hs]
theorem head_zero (P : Pars) (F G : Nat → Int) (h0 : 0 ≤ P.S) : Head P 0 (put F (P.h + 2) 0) (put G P.h (P.n : Int)) P.S :=
  ⟨by omega, prevF_zero _ _ _ _, prevG_zero _ _ _ _, h0, Int.le_refl _, rfl⟩

end Go.Proofs.Qxb6605269a.SplitInv
