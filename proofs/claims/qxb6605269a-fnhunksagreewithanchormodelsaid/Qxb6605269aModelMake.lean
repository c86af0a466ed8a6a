import Derived.Test.Qxb6605269aModelMem
import Derived.Test.Qxb6605269aModelShow
set_option linter.unusedVariables false
set_option linter.unusedSimpArgs false
namespace Go.Proofs.Qxb6605269a.ModelMake
open Go.ChangeShapes Go.WideShapes Go.ChangeAt Go.RowKit
open Go.Proofs.Qxb6605269a.Lcs (hide rowIs_drewN info3)
open Go.Proofs.Qxb6605269a.Strs
open Go.Proofs.Qxb6605269a.Mark
open Go.Proofs.Qxb6605269a.HunkMath
open Go.Proofs.Qxb6605269a.HunkMem
open Go.Proofs.Qxb6605269a.HunkStage
open Go.Proofs.Qxb6605269a.ModelMath
open Go.Proofs.Qxb6605269a.ModelBits

/-- the model between two hunks: hid unchanged lines were passed -/
def C6 (A B : Nat → ByteArray) (T : List Rc) (p hid old new : Nat) (hs : List Hk) (rest : Nat) : Prop :=
  ∃ P O W, p = P + hid ∧ old = O + hid ∧ new = W + hid ∧ MOK A B T P O W hs rest ∧ ∀ y, y < hid → ¬ Sh T (P + y)
theorem c6_start {A B : Nat → ByteArray} {T : List Rc} {hs : List Hk} {rest : Nat} (h : MOK A B T 0 0 0 hs rest) : C6 A B T 0 0 0 0 hs rest := ⟨0, 0, 0, rfl, rfl, rfl, h, fun y hy => by omega⟩
theorem c6_skip {A B : Nat → ByteArray} {T : List Rc} {p hid old new : Nat} {hs : List Hk} {rest : Nat} (h : C6 A B T p hid old new hs rest) (hn : ¬ Sh T p) : C6 A B T (p + 1) (hid + 1) (old + 1) (new + 1) hs rest := by
  obtain ⟨P, O, W, e1, e2, e3, hm, hy⟩ := h
  refine ⟨P, O, W, by omega, by omega, by omega, hm, fun y h => ?_⟩
  by_cases e : y = hid
  · rw [e, ← e1]; exact hn
  · exact hy y (by omega)
theorem c6_end {A B : Nat → ByteArray} {T : List Rc} {p hid old new : Nat} {hs : List Hk} {rest : Nat} (h : C6 A B T p hid old new hs rest) (hp : p = T.length) : hs = [] ∧ rest = hid := by
  obtain ⟨P, O, W, e1, e2, e3, hm, hy⟩ := h
  cases hs with
  | nil => obtain ⟨hn, hh⟩ := hm; exact ⟨rfl, by omega⟩
  | cons k hs =>
    obtain ⟨n, Pre, HR, Post, hT, hP, hne, hh, hsh, hnx, h1, h2, h3, h4, h5, h6, next⟩ := hm
    exfalso
    have hl : 0 < HR.length := List.length_pos_iff.2 hne
    have htl := congrArg List.length hT
    simp only [List.length_append] at htl
    have hs0 := hsh 0 hl
    exact hy n (by omega) (by simpa using hs0)
theorem c6_hunk {A B : Nat → ByteArray} {T : List Rc} {p hid old new : Nat} {hs : List Hk} {rest : Nat} (h : C6 A B T p hid old new hs rest) (hp : p < T.length) (hsp : Sh T p) :
    ∃ (Pre HR Post : List Rc) (k : Hk) (hs' : List Hk), hs = k :: hs' ∧ T = Pre ++ HR ++ Post ∧ Pre.length = p ∧ AllSh T p HR ∧ (p + HR.length < T.length → ¬ Sh T (p + HR.length)) ∧ k.os = HunkMath.start old (old + cO HR) ∧ k.ol = cO HR ∧ k.ns = HunkMath.start new (new + cN HR) ∧ k.nl = cN HR ∧ k.ub = hid ∧ k.ops = HR.map (opOf A B) ∧
      C6 A B T (p + HR.length) 0 (old + cO HR) (new + cN HR) hs' rest ∧ HR ≠ [] := by
  obtain ⟨P, O, W, e1, e2, e3, hm, hy⟩ := h
  cases hs with
  | nil =>
    obtain ⟨hn, hh⟩ := hm
    exfalso
    exact hh hid (by omega) (by rw [← e1]; exact hsp)
  | cons k hs' =>
    obtain ⟨n, Pre, HR, Post, hT, hP, hne, hh, hsh, hnx, h1, h2, h3, h4, h5, h6, next⟩ := hm
    have hl : 0 < HR.length := List.length_pos_iff.2 hne
    have hs0 := hsh 0 hl
    have hx : hid = n := by
      rcases Nat.lt_trichotomy hid n with h | h | h
      · exact absurd (by rw [← e1]; exact hsp) (hh hid h)
      · exact h
      · exact absurd (by simpa using hs0) (hy n h)
    subst hx
    subst e1 e2 e3
    exact ⟨Pre, HR, Post, k, hs', rfl, hT, hP, hsh, hnx, h1, h2, h3, h4, h5, h6, ⟨_, _, _, rfl, rfl, rfl, next, fun y hy => by omega⟩, hne⟩

/-- what a record may be -/
theorem lay_mem {R D : Nat → Bool} {la lb : Nat} : ∀ {L : List Rc} {i j : Nat}, Lay R D la lb i j L → ∀ r ∈ L, (r.k = 32 ∧ r.ai < la) ∨ (r.k = 45 ∧ r.ai < la) ∨ (r.k = 43 ∧ r.bi < lb)
  | [], _, _, _ => fun r hr => by simp at hr
  | x :: L, i, j, h => by
    intro r hr
    simp only [List.mem_cons] at hr
    rcases h with ⟨e, h1, _, h⟩ | ⟨e, _, h1, _, h⟩ | ⟨e, h1, _, _, _, h⟩
    · rcases hr with rfl | hr
      · rw [e]; exact Or.inr (Or.inl ⟨rfl, h1⟩)
      · exact lay_mem h r hr
    · rcases hr with rfl | hr
      · rw [e]; exact Or.inr (Or.inr ⟨rfl, h1⟩)
      · exact lay_mem h r hr
    · rcases hr with rfl | hr
      · rw [e]; exact Or.inl ⟨rfl, h1⟩
      · exact lay_mem h r hr

/-- one line more in the hunk -/
theorem mark1 {w1 wx : World} {os ol ns nl ub : Nat} {vl : Value} {ops : Ops} (h : L6 w1 os ol ns nl ub vl ops wx) (mk : Int) (m line : ByteArray) (hm : Utf8.encode mk = m) (hmk : 0 ≤ mk ∧ mk ≤ 255) (hs : line.size ≤ 1048576) (hl : ops.length ≤ 1000000) :
    Calls Try.prog 28 #[vl, .string m, .string line] wx fun e w2 => MkP w1 os ol ns nl ub (ops ++ [(mk, line)]) wx e w2 := by
  subst hm
  have hfl := flat_len ops
  refine (marked_any (w1.heap.size + 1) vl (flat ops) mk line wx h.own h.size (by omega) hmk hs).mono ?_
  rintro e w2 ⟨v', rfl, hO⟩
  have hO2 : Own wx vl w2 (w1.heap.size + 1) v' (flat ops ++ entries mk (fun k => (fun _ => line) (0 + k)) 1) := by simpa [entries] using hO
  obtain ⟨a4, c4, rfl, _⟩ := own_read hO2.own
  have hst := h.store (A := fun _ => line) (lo := 0) (n := 1) hO2
  rw [show run mk (fun _ => line) 0 1 = [(mk, line)] from rfl] at hst
  exact ⟨a4, _, c4, rfl, (h.marked hO2).frozen 5, ⟨_, (h.marked hO2).cell (i := 5) (by omega)⟩, ⟨hst, fun gc n0 n1 n2 n3 hc => ch_store hc h hO2⟩⟩

/-- one of the hunk's numbers is written -/
theorem upd {w1 wx : World} {os ol ns nl ub os' ol' ns' nl' : Nat} {vl : Value} {ops : Ops} (h : L6 w1 os ol ns nl ub vl ops wx) (j : Nat) (x : Value) (hc : ∀ i, i < 6 → (if i = j then x else hv os ol ns nl ub vl i) = hv os' ol' ns' nl' ub vl i) :
    L6 w1 os' ol' ns' nl' ub vl ops (wx.setCell ⟨w1.heap.size, j, none⟩ x) :=
  ⟨(h.row.set j x).congr hc, own_set h.own (by simp) x, h.below.setCell (Nat.le_refl _) x⟩
theorem upd0 {w1 wx : World} {os ol ns nl ub : Nat} {vl : Value} {ops : Ops} (h : L6 w1 os ol ns nl ub vl ops wx) (v : Nat) : L6 w1 v ol ns nl ub vl ops (wx.setCell ⟨w1.heap.size, 0, none⟩ (.int .i64 (v : Int))) :=
  upd h 0 _ (fun i hi => by match i, hi with | 0, _ => rfl | 1, _ => rfl | 2, _ => rfl | 3, _ => rfl | 4, _ => rfl | 5, _ => rfl)
theorem upd1 {w1 wx : World} {os ol ns nl ub : Nat} {vl : Value} {ops : Ops} (h : L6 w1 os ol ns nl ub vl ops wx) (v : Nat) : L6 w1 os v ns nl ub vl ops (wx.setCell ⟨w1.heap.size, 1, none⟩ (.int .i64 (v : Int))) :=
  upd h 1 _ (fun i hi => by match i, hi with | 0, _ => rfl | 1, _ => rfl | 2, _ => rfl | 3, _ => rfl | 4, _ => rfl | 5, _ => rfl)
theorem upd2 {w1 wx : World} {os ol ns nl ub : Nat} {vl : Value} {ops : Ops} (h : L6 w1 os ol ns nl ub vl ops wx) (v : Nat) : L6 w1 os ol v nl ub vl ops (wx.setCell ⟨w1.heap.size, 2, none⟩ (.int .i64 (v : Int))) :=
  upd h 2 _ (fun i hi => by match i, hi with | 0, _ => rfl | 1, _ => rfl | 2, _ => rfl | 3, _ => rfl | 4, _ => rfl | 5, _ => rfl)
theorem upd3 {w1 wx : World} {os ol ns nl ub : Nat} {vl : Value} {ops : Ops} (h : L6 w1 os ol ns nl ub vl ops wx) (v : Nat) : L6 w1 os ol ns v ub vl ops (wx.setCell ⟨w1.heap.size, 3, none⟩ (.int .i64 (v : Int))) :=
  upd h 3 _ (fun i hi => by match i, hi with | 0, _ => rfl | 1, _ => rfl | 2, _ => rfl | 3, _ => rfl | 4, _ => rfl | 5, _ => rfl)

theorem ret_pair {v : Value} {x y : Int} (h : x = y) : Ending.returned (.tuple #[v, .int .i64 x]) = .returned (.tuple #[v, .int .i64 y]) := by rw [h]
/-- the hunk in the making, wherever its lines lie -/
def L6E (w1 : World) (os ol ns nl ub : Nat) (ops : Ops) (wx : World) : Prop := ∃ vl, L6 w1 os ol ns nl ub vl ops wx
theorem hat_mono {base base' : Nat} {w : World} {v : Value} {hs : List Hk} (h : HAt base w v hs) (hb : base' ≤ base) : HAt base' w v hs := by
  obtain ⟨vs, h1, h2⟩ := h
  refine ⟨vs, ?_, own_mono h2 hb⟩
  have : ∀ (hs : List Hk) (vs : List Value), LinesAt base w hs vs → LinesAt base' w hs vs := by
    intro hs
    induction hs with
    | nil => intro vs h; cases vs with
      | nil => trivial
      | cons => exact h.elim
    | cons x hs ih => intro vs h; cases vs with
      | nil => exact h.elim
      | cons v vs => exact ⟨own_mono h.1 hb, ih vs h.2⟩
  exact this hs vs h1
end Go.Proofs.Qxb6605269a.ModelMake
