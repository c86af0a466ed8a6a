import Derived.Test.Qxb6605269aHunkGood
import Derived.Test.Qxb6605269aHunkStage
namespace Go.Proofs.Qxb6605269a.ApplyMath
open Go.ChangeShapes Go.WideShapes Go.ChangeAt Go.RowKit
open Go.Proofs.Qxb6605269a.Strs
open Go.Proofs.Qxb6605269a.Mark
open Go.Proofs.Qxb6605269a.MarkLaw (getD_at getD_next entry_head listOf listOf_len listOf_at app_tail marker_ne cut_back)
open Go.Proofs.Qxb6605269a.HunkMath
open Go.Proofs.Qxb6605269a.HunkMem
open Go.Proofs.Qxb6605269a.HunkGood
open Go.Proofs.Qxb6605269a.HunkStage

def tk (rev : Bool) : Int := if rev then 43 else 45
def gv (rev : Bool) : Int := if rev then 45 else 43
def hst (rev : Bool) (h : Hk) : Nat := if rev then h.ns else h.os
def hct (rev : Bool) (h : Hk) : Nat := if rev then h.nl else h.ol
def hgi (rev : Bool) (h : Hk) : Nat := if rev then h.ol else h.nl

/-- hunks that patch X into Y, one way -/
def GoodR (rev : Bool) (X Y : Nat → ByteArray) (lx ly : Nat) : Nat → Nat → List Hk → Nat → Prop
  | p, q, [], n => p + n = lx ∧ q + n = ly ∧ ∀ k, k < n → X (p + k) = Y (q + k)
  | p, q, h :: hs, rest => ∃ n f g p' q', f = p + n ∧ g = q + n ∧ (∀ k, k < n → X (p + k) = Y (q + k)) ∧ f ≤ lx ∧ g ≤ ly ∧ h.ub = n ∧ hst rev h = HunkMath.start f p' ∧ hct rev h = p' - f ∧ hgi rev h = q' - g ∧ Eat X Y lx ly (tk rev) (gv rev) f g h.ops p' q' ∧ GoodR rev X Y lx ly p' q' hs rest

theorem good_fwd {A B : Nat → ByteArray} {la lb : Nat} : ∀ {hs : List Hk} {p q rest : Nat}, GoodP A B la lb p q hs rest → GoodR false A B la lb p q hs rest
  | [], _, _, _, h => h
  | _ :: _, _, _, _, ⟨n, f, g, p', q', hf, hg, hk, l1, l2, ub, s1, s2, _, s4, eat, next⟩ => ⟨n, f, g, p', q', hf, hg, hk, l1, l2, ub, s1, s2, s4, eat, good_fwd next⟩
theorem good_bwd {A B : Nat → ByteArray} {la lb : Nat} : ∀ {hs : List Hk} {p q rest : Nat}, GoodP A B la lb p q hs rest → GoodR true B A lb la q p hs rest
  | [], _, _, _, ⟨h1, h2, h⟩ => ⟨h2, h1, fun k hk => (h k hk).symm⟩
  | _ :: _, _, _, _, ⟨n, f, g, p', q', hf, hg, hk, l1, l2, ub, _, s2, s3, s4, eat, next⟩ => ⟨n, g, f, q', p', hg, hf, fun k h => (hk k h).symm, l2, l1, ub, s3, s4, s2, eat.swap, good_bwd next⟩

/-- the marks that a hunk shows -/
def Mks (l : Ops) : Prop := ∀ x ∈ l, x.1 = 32 ∨ x.1 = 45 ∨ x.1 = 43
theorem eat_mks {X Y : Nat → ByteArray} {lx ly : Nat} {rev : Bool} : ∀ {l : Ops} {p q p' q' : Nat}, Eat X Y lx ly (tk rev) (gv rev) p q l p' q' → Mks l
  | [], _, _, _, _, _ => fun x hx => absurd hx (by simp)
  | o :: l, p, q, p', q', h => by
    intro x hx
    simp only [List.mem_cons] at hx
    rcases h with ⟨h0, _, _, _, _, h⟩ | ⟨h0, _, _, h⟩ | ⟨h0, _, _, h⟩
    all_goals
      rcases hx with rfl | hx
      · rw [h0]; cases rev <;> simp [tk, gv]
      · exact eat_mks h x hx

theorem flat_at (d r : Ops) (o : Int × ByteArray) (hm : Mks (o :: r)) :
    (flat (d ++ o :: r)).getD (flat d).length nonl = Utf8.encode o.1 ++ cut o.2 ∧ (flat d).length < (flat (d ++ o :: r)).length ∧
    (ends o.2 = false → (flat (d ++ o :: r)).getD ((flat d).length + 1) nonl = nonl ∧ (flat d).length + 1 < (flat (d ++ o :: r)).length) ∧
    (ends o.2 = true → (flat d).length + 1 < (flat (d ++ o :: r)).length → ∃ m c, (m = 32 ∨ m = 45 ∨ m = 43) ∧ (flat (d ++ o :: r)).getD ((flat d).length + 1) nonl = Utf8.encode m ++ c) := by
  obtain ⟨t, ht, r1, r2⟩ := entry_head o.1 o.2
  have e : flat (d ++ o :: r) = flat d ++ (Utf8.encode o.1 ++ cut o.2) :: (t ++ flat r) := by rw [flat_append, flat, ht, List.cons_append]
  rw [e]
  refine ⟨getD_at _ _ _ _ _ rfl, by simp, ?_, ?_⟩
  · intro he
    rw [r2 he, List.singleton_append]
    exact ⟨getD_next _ _ _ _ _ _ rfl, by simp only [List.length_append, List.length_cons]; omega⟩
  · intro he hlt
    rw [r1 he, List.nil_append] at hlt ⊢
    cases r with
    | nil => simp [flat] at hlt
    | cons o2 r =>
      obtain ⟨t2, ht2, _, _⟩ := entry_head o2.1 o2.2
      rw [flat, ht2, List.cons_append]
      exact ⟨o2.1, cut o2.2, hm o2 (by simp), getD_next _ _ _ _ _ _ rfl⟩
theorem flat_next (d : Ops) (o : Int × ByteArray) : (flat (d ++ [o])).length = (flat d).length + if ends o.2 then 1 else 2 := by
  rw [flat_append, List.length_append, flat, flat, List.append_nil]
  unfold entry
  cases ends o.2 <;> simp

theorem enc32 : Utf8.encode 32 = ⟨#[32]⟩ := by rw [encode_eq 32 (by omega) (by omega)]; rfl
theorem enc45 : Utf8.encode 45 = ⟨#[45]⟩ := by rw [encode_eq 45 (by omega) (by omega)]; rfl
theorem enc43 : Utf8.encode 43 = ⟨#[43]⟩ := by rw [encode_eq 43 (by omega) (by omega)]; rfl

/-- what is owned, with its place -/
theorem hcells_len : ∀ (hs : List Hk) (vs : List Value), hs.length = vs.length → (hcells hs vs).length = hs.length * 6
  | [], [], _ => rfl
  | _ :: hs, _ :: vs, h => by simp only [hcells, List.length_cons, hcells_len hs vs (by simpa using h)]; omega
  | [], _ :: _, h => by simp at h
  | _ :: _, [], h => by simp at h
theorem hcells_append : ∀ (P : List Hk) (VP : List Value) (Q : List Hk) (VQ : List Value), P.length = VP.length → hcells (P ++ Q) (VP ++ VQ) = hcells P VP ++ hcells Q VQ
  | [], [], _, _, _ => rfl
  | _ :: P, _ :: VP, Q, VQ, h => by simp only [List.cons_append, hcells, hcells_append P VP Q VQ (by simpa using h)]
  | [], _ :: _, _, _, h => by simp at h
  | _ :: _, [], _, _, h => by simp at h
theorem lines_split {base : Nat} {w : World} : ∀ (P : List Hk) (h : Hk) (Q : List Hk) (vs : List Value), LinesAt base w (P ++ h :: Q) vs → ∃ VP vl VQ, vs = VP ++ vl :: VQ ∧ P.length = VP.length ∧ w.ownsRow base 9 1 vl (flat h.ops).length (strs (flat h.ops))
  | [], h, Q, v :: vs, hl => ⟨[], v, vs, rfl, rfl, hl.1⟩
  | [], _, _, [], hl => hl.elim
  | _ :: _, _, _, [], hl => hl.elim
  | p :: P, h, Q, v :: vs, hl => by
    obtain ⟨VP, vl, VQ, e, e2, e3⟩ := lines_split P h Q vs hl.2
    exact ⟨v :: VP, vl, VQ, by rw [e]; rfl, by simp [e2], e3⟩

/-- the hunks can be read -/
def RdHs (w : World) (a : Option Addr) (hs : List Hk) : Prop :=
  ∀ P h Q, hs = P ++ h :: Q → ∃ g al cl, a = some ⟨g, 0, none⟩ ∧ w.cell? ⟨g, P.length * 6, none⟩ = some (.int .i64 (h.os : Int)) ∧ w.cell? ⟨g, P.length * 6 + 1, none⟩ = some (.int .i64 (h.ol : Int)) ∧
    w.cell? ⟨g, P.length * 6 + 2, none⟩ = some (.int .i64 (h.ns : Int)) ∧ w.cell? ⟨g, P.length * 6 + 3, none⟩ = some (.int .i64 (h.nl : Int)) ∧ w.cell? ⟨g, P.length * 6 + 4, none⟩ = some (.int .i64 (h.ub : Int)) ∧
    w.cell? ⟨g, P.length * 6 + 5, none⟩ = some (.slice al (flat h.ops).length cl) ∧ (flat h.ops).length ≤ maxLen ∧
    (0 < (flat h.ops).length → ∃ gl, al = some ⟨gl, 0, none⟩ ∧ ∀ i, i < (flat h.ops).length → w.cell? ⟨gl, i, none⟩ = some (.string ((flat h.ops).getD i nonl)))

theorem hat_read {base : Nat} {w : World} {v : Value} {hs : List Hk} (h : HAt base w v hs) : ∃ a cap, v = .slice a hs.length cap ∧ hs.length ≤ maxLen ∧ RdHs w a hs := by
  obtain ⟨vs, hl, ho⟩ := h
  have hlen := lines_len hs vs hl
  rcases ho.2 with ⟨e, e2⟩ | ⟨g, cap, cur, e, hb, hh, r1, r2, r3, r4⟩
  · refine ⟨none, 0, by rw [e, e2], by rw [e2]; exact Nat.zero_le _, ?_⟩
    intro P h Q hpq
    rw [hpq] at e2; simp at e2
  · refine ⟨some ⟨g, 0, none⟩, cap, e, by omega, ?_⟩
    intro P h Q hpq
    subst hpq
    obtain ⟨VP, vl, VQ, rfl, hpl, hown⟩ := lines_split P h Q vs hl
    have hc : ∀ k x, (hcells (P ++ h :: Q) (VP ++ vl :: VQ))[k]? = some x → w.cell? ⟨g, k, none⟩ = some x := by
      intro k x hx
      subst e
      have := ho.cells (g := g) rfl k x hx
      rw [add_plain, Nat.zero_add] at this; exact this
    rw [hcells_append P VP _ _ hpl] at hc
    have hl6 := hcells_len P VP hpl
    have hmax : (flat h.ops).length ≤ maxLen := by
      rcases hown.2 with ⟨_, e2⟩ | ⟨_, _, _, _, _, _, q1, q2, _⟩
      · rw [e2]; exact Nat.zero_le _
      · omega
    obtain ⟨al, cl, rfl, hrd⟩ := own_read hown
    have hat : ∀ f x, (hcells (h :: Q) (.slice al (flat h.ops).length cl :: VQ))[f]? = some x → w.cell? ⟨g, P.length * 6 + f, none⟩ = some x := by
      intro f x hx
      apply hc
      rw [List.getElem?_append_right (by omega), hl6, Nat.add_sub_cancel_left]
      exact hx
    refine ⟨g, al, cl, rfl, hat 0 _ rfl, hat 1 _ rfl, hat 2 _ rfl, hat 3 _ rfl, hat 4 _ rfl, hat 5 _ rfl, hmax, ?_⟩
    intro h0
    obtain ⟨gl, e1, _, e3⟩ := hrd h0
    exact ⟨gl, e1, e3⟩

theorem listOf_succ (Y : Nat → ByteArray) (q : Nat) : listOf Y (q + 1) = listOf Y q ++ [Y q] := by simp [listOf, List.range_succ]

/-- the text that was made so far -/
structure Out (Y : Nat → ByteArray) (w wx : World) (v : Value) (q : Nat) : Prop where
  own : wx.ownsRow w.heap.size 9 1 v q (strs (listOf Y q))
  below : Below w.heap.size w wx

theorem Out.alloc {Y : Nat → ByteArray} {w wx : World} {v : Value} {q : Nat} (h : Out Y w wx v q) (o : Obj) : Out Y w (wx.alloc o) v q := ⟨h.own.alloc o, h.below.alloc h.below.size o⟩
theorem Out.push {Y : Nat → ByteArray} {w wx w1 : World} {v v1 : Value} {q : Nat} {t : TypeId} {x : ByteArray} (h : Out Y w wx v q) (hx : x = Y q) (hown : w1.ownsRow w.heap.size 9 1 v1 (q + 1) (Mark.strs (listOf Y q) ++ [.string x]))
    (hgrow : (wx.alloc (.cells #[.string x] t)).grownBy w1 v.ownBlock) : Out Y w w1 v1 (q + 1) := by
  refine ⟨?_, (h.below.alloc h.below.size _).grown hgrow (by rw [World.size_alloc]; have := h.below.size; omega) (fun g hg => (h.own.lt g hg).1)⟩
  rw [listOf_succ, strs_append, ← hx]; exact hown
theorem Out.keep {Y : Nat → ByteArray} {w wx w1 : World} {v : Value} {q g m : Nat} {f : Nat → Value} {o : Obj} (h : Out Y w wx v q) (hr : wx.rowIs g 45 m f) (hgrow : (wx.alloc o).grownBy w1 v.ownBlock) : w1.rowIs g 45 m f :=
  row_grown (hr.alloc o) hgrow (ne_own hr (by decide) h.own)
theorem hk_new (w : World) (os ol ns nl ub : Nat) (vl : Value) : (w.alloc (.cells #[.int .i64 (os : Int), .int .i64 (ol : Int), .int .i64 (ns : Int), .int .i64 (nl : Int), .int .i64 (ub : Int), vl] 45)).rowIs w.heap.size 45 6 (hv os ol ns nl ub vl) := by
  refine World.rowIs_alloc w _ 45 (hv os ol ns nl ub vl) ?_
  intro i hi
  have : i < 6 := hi
  match i, this with
  | 0, _ => rfl
  | 1, _ => rfl
  | 2, _ => rfl
  | 3, _ => rfl
  | 4, _ => rfl
  | 5, _ => rfl
end Go.Proofs.Qxb6605269a.ApplyMath
