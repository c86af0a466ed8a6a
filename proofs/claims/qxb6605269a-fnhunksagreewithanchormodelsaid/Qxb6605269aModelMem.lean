import Derived.Test.Qxb6605269aModelMath
import Derived.Test.Qxb6605269aModelBits
set_option linter.unusedVariables false
set_option linter.unusedSimpArgs false
namespace Go.Proofs.Qxb6605269a.ModelMem
open Go.ChangeShapes Go.WideShapes Go.ChangeAt Go.RowKit
open Go.Proofs.Qxb6605269a.Lcs (hide rowIs_drewN info3)
open Go.Proofs.Qxb6605269a.HunkMath
open Go.Proofs.Qxb6605269a.HunkMem
open Go.Proofs.Qxb6605269a.HunkStage
open Go.Proofs.Qxb6605269a.ModelMath

theorem info56 : (Try.prog.info? 56).map (fun i => (i.zero, i.size, i.bytes)) = some (some (.agg #[.int .u8 0, .int .i64 0, .int .i64 0]), 3, 24) := by kernel_rfl

def rcells : List Rc → List Value
  | [] => []
  | r :: l => .int .u8 r.k :: .int .i64 (r.ai : Int) :: .int .i64 (r.bi : Int) :: rcells l
theorem rcells_append : ∀ (a b : List Rc), rcells (a ++ b) = rcells a ++ rcells b
  | [], _ => rfl
  | r :: a, b => by simp only [List.cons_append, rcells, rcells_append a b]
theorem rcells_len : ∀ (a : List Rc), (rcells a).length = a.length * 3
  | [] => rfl
  | r :: a => by simp only [rcells, List.length_cons, rcells_len a]; omega
theorem rcells_at : ∀ (l : List Rc) (p : Nat) (r : Rc), l[p]? = some r → (rcells l)[p * 3]? = some (.int .u8 r.k) ∧ (rcells l)[p * 3 + 1]? = some (.int .i64 (r.ai : Int)) ∧ (rcells l)[p * 3 + 2]? = some (.int .i64 (r.bi : Int))
  | [], p, r, h => by simp at h
  | x :: l, 0, r, h => by simp at h; subst h; exact ⟨rfl, rfl, rfl⟩
  | x :: l, p + 1, r, h => by
    have := rcells_at l p r (by simpa using h)
    rw [show (p + 1) * 3 = p * 3 + 3 from by omega, show p * 3 + 3 + 1 = p * 3 + 1 + 3 from by omega, show p * 3 + 3 + 2 = p * 3 + 2 + 3 from by omega]
    simp only [rcells, List.getElem?_cons_succ]
    exact this

/-- the layout that was laid so far -/
structure OpsAt (w wr : World) (v : Value) (pre : List Rc) : Prop where
  own : wr.ownsRow w.heap.size 56 3 v pre.length (rcells pre)
  below : Below w.heap.size w wr

theorem OpsAt.push {w wr w1 : World} {v v1 : Value} {pre : List Rc} {r : Rc} {o : Obj} (h : OpsAt w wr v pre) (hown : w1.ownsRow w.heap.size 56 3 v1 (pre.length + 1) (rcells pre ++ [.int .u8 r.k, .int .i64 (r.ai : Int), .int .i64 (r.bi : Int)]))
    (hgrow : (wr.alloc o).grownBy w1 v.ownBlock) : OpsAt w w1 v1 (pre ++ [r]) := by
  refine ⟨?_, (h.below.alloc h.below.size _).grown hgrow (by rw [World.size_alloc]; have := h.below.size; omega) (fun g hg => (h.own.lt g hg).1)⟩
  rw [rcells_append, List.length_append]; exact hown
theorem three_new (w : World) (x0 x1 x2 : Value) (t : TypeId) : ∀ j u, [x0, x1, x2][j]? = some u → (w.alloc (.cells #[x0, x1, x2] t)).cell? ((⟨w.heap.size, 0, none⟩ : Addr).add j) = some u := by
  intro j u hj
  match j, hj with
  | 0, hj => simp at hj; subst hj; simp [Addr.add]
  | 1, hj => simp at hj; subst hj; simp [Addr.add]
  | 2, hj => simp at hj; subst hj; simp [Addr.add]
theorem three_cell (k : IntKind) (x0 x1 x2 : Int) : ∀ u ∈ [Value.int k x0, .int .i64 x1, .int .i64 x2], u.oneCell' = true := by
  intro u hu; simp at hu; rcases hu with rfl | rfl | rfl <;> rfl
theorem ops_read {w wr : World} {v : Value} {pre : List Rc} (h : OpsAt w wr v pre) : ∃ a cap, v = .slice a pre.length cap ∧ (pre ≠ [] → ∃ g, a = some ⟨g, 0, none⟩ ∧ w.heap.size ≤ g ∧ ∀ p r, pre[p]? = some r →
    wr.cell? ⟨g, p * 3, none⟩ = some (.int .u8 r.k) ∧ wr.cell? ⟨g, p * 3 + 1, none⟩ = some (.int .i64 (r.ai : Int)) ∧ wr.cell? ⟨g, p * 3 + 2, none⟩ = some (.int .i64 (r.bi : Int))) := by
  have ho := h.own
  rcases ho.2 with ⟨e, e2⟩ | ⟨g, cap, cur, e, hb, hh, r1, r2, r3, r4⟩
  · exact ⟨none, 0, by rw [e, e2], fun h0 => absurd (List.eq_nil_of_length_eq_zero e2) h0⟩
  · subst e
    refine ⟨_, _, rfl, fun _ => ⟨g, rfl, hb, fun p r hp => ?_⟩⟩
    obtain ⟨a1, a2, a3⟩ := rcells_at pre p r hp
    have k1 := ho.cells (g := g) rfl _ _ a1
    have k2 := ho.cells (g := g) rfl _ _ a2
    have k3 := ho.cells (g := g) rfl _ _ a3
    rw [add_plain, Nat.zero_add] at k1 k2 k3
    exact ⟨k1, k2, k3⟩
end Go.Proofs.Qxb6605269a.ModelMem
