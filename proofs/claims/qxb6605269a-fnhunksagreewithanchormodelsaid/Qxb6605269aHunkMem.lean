import Derived.Test.Qxb6605269aHunkMath
namespace Go.Proofs.Qxb6605269a.HunkMem
open Go.ChangeShapes Go.WideShapes Go.ChangeAt Go.RowKit
open Go.Proofs.Qxb6605269a.Lcs (hide rowIs_drewN info3)
open Go.Proofs.Qxb6605269a.Mark
open Go.Proofs.Qxb6605269a.HunkMath

theorem info45 : (Try.prog.info? 45).map (fun i => (i.zero, i.size, i.bytes)) = some (some (.agg #[.int .i64 0, .int .i64 0, .int .i64 0, .int .i64 0, .int .i64 0, .slice none 0 0]), 6, 64) := by kernel_rfl

/-- a row of changes can be read -/
def RdC (w : World) (a : Option Addr) (i j : Nat) (S : List Tr) : Prop :=
  S ≠ [] → ∃ b o, a = some ⟨b, o, none⟩ ∧ ∀ k x, (nums i j S)[k]? = some x → w.cell? ⟨b, o + k, none⟩ = some (.int .i64 x)

theorem RdC.below {w wx : World} {a : Option Addr} {i j : Nat} {S : List Tr} (h : RdC w a i j S) (hb : Below w.heap.size w wx) : RdC wx a i j S := by
  intro h0
  obtain ⟨b, o, ha, hc⟩ := h h0
  exact ⟨b, o, ha, fun k x hx => by rw [hb.cell (World.block_lt_of_cell? w _ (hc k x hx))]; exact hc k x hx⟩

theorem own_rdc {w : World} {base n : Nat} {v : Value} {S : List Tr} (h : w.ownsRow base 63 4 v n (vals (nums 0 0 S))) :
    ∃ a cap, v = .slice a S.length cap ∧ S.length ≤ cap ∧ cap ≤ maxLen ∧ RdC w a 0 0 S ∧ ∀ b o, a = some ⟨b, o, none⟩ → base ≤ b := by
  have hn : n = S.length := by have := h.1; rw [vals_len, nums_len] at this; omega
  subst hn
  have h' := h
  rcases h.2 with ⟨e, e2⟩ | ⟨g, cap, cur, e, hb, hh, r1, r2, r3, r4⟩
  · refine ⟨none, 0, by rw [e, e2], by omega, by unfold maxLen; omega, fun h0 => ?_, fun b o hx => by cases hx⟩
    exact absurd (List.eq_nil_of_length_eq_zero e2) h0
  · subst e
    refine ⟨_, _, rfl, r1, r2, fun _ => ⟨g, 0, rfl, fun k x hx => ?_⟩, fun b o hx => ?_⟩
    · have := h'.cells (g := g) rfl k (.int .i64 x) (by simp [vals, hx])
      rw [add_plain] at this; exact this
    · simp only [Option.some.injEq, Addr.mk.injEq] at hx
      obtain ⟨rfl, _⟩ := hx
      exact hb

/-- the next change's numbers -/
theorem RdC.head {w : World} {a : Option Addr} {i j : Nat} {t : Tr} {S : List Tr} (h : RdC w a i j (t :: S)) :
    ∃ b o, a = some ⟨b, o, none⟩ ∧ w.cell? ⟨b, o, none⟩ = some (.int .i64 ((i + t.g : Nat) : Int)) ∧ w.cell? ⟨b, o + 1, none⟩ = some (.int .i64 ((i + t.g + t.d : Nat) : Int)) ∧
      w.cell? ⟨b, o + 2, none⟩ = some (.int .i64 ((j + t.g : Nat) : Int)) ∧ w.cell? ⟨b, o + 3, none⟩ = some (.int .i64 ((j + t.g + t.e : Nat) : Int)) := by
  obtain ⟨b, o, ha, hc⟩ := h (by simp)
  exact ⟨b, o, ha, hc 0 _ rfl, hc 1 _ rfl, hc 2 _ rfl, hc 3 _ rfl⟩

/-- the change behind the first of S ++ t :: T -/
theorem RdC.at {w : World} {b o i j : Nat} {S T : List Tr} {t : Tr} (hc : ∀ k x, (nums i j (S ++ t :: T))[k]? = some x → w.cell? ⟨b, o + k, none⟩ = some (.int .i64 x)) :
    w.cell? ⟨b, o + 4 * S.length, none⟩ = some (.int .i64 ((endA i S + t.g : Nat) : Int)) ∧ w.cell? ⟨b, o + (4 * S.length + 1), none⟩ = some (.int .i64 ((endA i S + t.g + t.d : Nat) : Int)) ∧
      w.cell? ⟨b, o + (4 * S.length + 2), none⟩ = some (.int .i64 ((endB j S + t.g : Nat) : Int)) ∧ w.cell? ⟨b, o + (4 * S.length + 3), none⟩ = some (.int .i64 ((endB j S + t.g + t.e : Nat) : Int)) := by
  have hl := nums_len S i j
  rw [nums_append] at hc
  refine ⟨hc _ _ ?_, hc _ _ ?_, hc _ _ ?_, hc _ _ ?_⟩
  all_goals
    rw [List.getElem?_append_right (by omega), hl]
    first
      | rw [Nat.sub_self]; rfl
      | rw [show 4 * S.length + 1 - 4 * S.length = 1 from by omega]; rfl
      | rw [show 4 * S.length + 2 - 4 * S.length = 2 from by omega]; rfl
      | rw [show 4 * S.length + 3 - 4 * S.length = 3 from by omega]; rfl

theorem RdC.drop {w : World} {b o i j : Nat} {S T : List Tr} (hc : ∀ k x, (nums i j (S ++ T))[k]? = some x → w.cell? ⟨b, o + k, none⟩ = some (.int .i64 x)) :
    RdC w (some ⟨b, o + 4 * S.length, none⟩) (endA i S) (endB j S) T := by
  intro _
  refine ⟨b, _, rfl, fun k x hx => ?_⟩
  rw [Nat.add_assoc]
  apply hc
  rw [nums_append, List.getElem?_append_right (by rw [nums_len]; omega), nums_len]
  rw [show 4 * S.length + k - 4 * S.length = k from by omega]
  exact hx

def hcells : List Hk → List Value → List Value
  | h :: hs, v :: vs => .int .i64 (h.os : Int) :: .int .i64 (h.ol : Int) :: .int .i64 (h.ns : Int) :: .int .i64 (h.nl : Int) :: .int .i64 (h.ub : Int) :: v :: hcells hs vs
  | _, _ => []
def LinesAt (base : Nat) (w : World) : List Hk → List Value → Prop
  | [], [] => True
  | h :: hs, v :: vs => w.ownsRow base 9 1 v (flat h.ops).length (strs (flat h.ops)) ∧ LinesAt base w hs vs
  | _, _ => False
theorem lines_len {base : Nat} {w : World} : ∀ (hs : List Hk) (vs : List Value), LinesAt base w hs vs → hs.length = vs.length
  | [], [], _ => rfl
  | _ :: hs, _ :: vs, h => by simp only [List.length_cons, lines_len hs vs h.2]
  | [], _ :: _, h => h.elim
  | _ :: _, [], h => h.elim
theorem hcells_snoc : ∀ (hs : List Hk) (vs : List Value) (h : Hk) (v : Value), hs.length = vs.length → hcells (hs ++ [h]) (vs ++ [v]) = hcells hs vs ++ [.int .i64 (h.os : Int), .int .i64 (h.ol : Int), .int .i64 (h.ns : Int), .int .i64 (h.nl : Int), .int .i64 (h.ub : Int), v]
  | [], [], _, _, _ => rfl
  | _ :: hs, _ :: vs, h, v, e => by simp only [List.cons_append, hcells, hcells_snoc hs vs h v (by simpa using e)]
  | [], _ :: _, _, _, e => by simp at e
  | _ :: _, [], _, _, e => by simp at e
theorem lines_snoc {base : Nat} {w : World} : ∀ (hs : List Hk) (vs : List Value) (h : Hk) (v : Value), LinesAt base w hs vs → w.ownsRow base 9 1 v (flat h.ops).length (strs (flat h.ops)) → LinesAt base w (hs ++ [h]) (vs ++ [v])
  | [], [], _, _, _, h2 => ⟨h2, trivial⟩
  | _ :: hs, _ :: vs, h, v, h1, h2 => ⟨h1.1, lines_snoc hs vs h v h1.2 h2⟩
  | [], _ :: _, _, _, h1, _ => h1.elim
  | _ :: _, [], _, _, h1, _ => h1.elim
theorem lines_map {base : Nat} {w wx : World} (hk : ∀ v n xs, w.ownsRow base 9 1 v n xs → wx.ownsRow base 9 1 v n xs) : ∀ (hs : List Hk) (vs : List Value), LinesAt base w hs vs → LinesAt base wx hs vs
  | [], [], _ => trivial
  | _ :: hs, _ :: vs, h => ⟨hk _ _ _ h.1, lines_map hk hs vs h.2⟩
  | [], _ :: _, h => h.elim
  | _ :: _, [], h => h.elim

/-- the hunks lie in memory -/
def HAt (base : Nat) (w : World) (v : Value) (hs : List Hk) : Prop := ∃ vs, LinesAt base w hs vs ∧ w.ownsRow base 45 6 v hs.length (hcells hs vs)

theorem own_below' {w wx : World} {base B e s : Nat} {v : Value} {n : Nat} {xs : List Value} (h : w.ownsRow base e s v n xs) (hb : Below B w wx) (hB : w.heap.size ≤ B) : wx.ownsRow base e s v n xs := by
  have hl := h.lt
  refine ⟨h.1, ?_⟩
  rcases h.2 with e | ⟨g, cap, cur, e, h1, h2, h3⟩
  · exact Or.inl e
  · exact Or.inr ⟨g, cap, cur, e, h1, by rw [hb.block g (Nat.lt_of_lt_of_le (hl g (by rw [e]; rfl)).2 hB)]; exact h2, h3⟩
theorem HAt.below {base : Nat} {w wx : World} {v : Value} {hs : List Hk} (h : HAt base w v hs) (hb : Below w.heap.size w wx) : HAt base wx v hs := by
  obtain ⟨vs, h1, h2⟩ := h
  exact ⟨vs, lines_map (fun v n xs h => own_below' h hb (Nat.le_refl _)) hs vs h1, own_below' h2 hb (Nat.le_refl _)⟩

/-- one hunk more -/
theorem HAt.push {base : Nat} {w w1 : World} {v v1 vl : Value} {hs : List Hk} {h : Hk} (hh : HAt base w v hs) (hl : w.ownsRow base 9 1 vl (flat h.ops).length (strs (flat h.ops)))
    (hown : ∀ vs, w.ownsRow base 45 6 v hs.length (hcells hs vs) → w1.ownsRow base 45 6 v1 (hs.length + 1) (hcells hs vs ++ [.int .i64 (h.os : Int), .int .i64 (h.ol : Int), .int .i64 (h.ns : Int), .int .i64 (h.nl : Int), .int .i64 (h.ub : Int), vl]))
    (hgrow : w.grownBy w1 v.ownBlock) : HAt base w1 v1 (hs ++ [h]) := by
  obtain ⟨vs, h1, h2⟩ := hh
  have hkeep : ∀ u n xs, w.ownsRow base 9 1 u n xs → w1.ownsRow base 9 1 u n xs := by
    intro u n xs hu
    refine hu.kept hgrow ?_
    rcases hu.2 with ⟨e, _⟩ | ⟨g, cap, cur, e, b1, b2, _⟩
    · exact Or.inl (by rw [e]; rfl)
    · refine Or.inr ?_
      rcases h2.2 with ⟨e2, _⟩ | ⟨g2, cap2, cur2, e2, c1, c2, _⟩
      · rw [e, e2]; simp [Value.ownBlock]
      · rw [e, e2]
        simp only [Value.ownBlock, ne_eq, Option.some.injEq]
        intro eg
        rw [eg, c2] at b2
        simp at b2
  refine ⟨vs ++ [vl], lines_snoc hs vs h vl (lines_map hkeep hs vs h1) (hkeep _ _ _ hl), ?_⟩
  rw [hcells_snoc hs vs h vl (lines_len hs vs h1), List.length_append]
  exact hown vs h2
end Go.Proofs.Qxb6605269a.HunkMem
