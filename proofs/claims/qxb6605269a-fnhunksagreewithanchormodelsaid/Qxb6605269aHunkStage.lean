import Derived.Test.Qxb6605269aHunkMem
namespace Go.Proofs.Qxb6605269a.HunkStage
open Go.ChangeShapes Go.WideShapes Go.ChangeAt Go.RowKit
open Go.Proofs.Qxb6605269a.Lcs (hide rowIs_drewN info3)
open Go.Proofs.Qxb6605269a.Strs
open Go.Proofs.Qxb6605269a.Mark
open Go.Proofs.Qxb6605269a.MarkLaw (below_of_grown)
open Go.Proofs.Qxb6605269a.HunkMath
open Go.Proofs.Qxb6605269a.HunkMem

/-- the cells of a hunk -/
def hv (os ol ns nl ub : Nat) (vl : Value) : Nat → Value
  | 0 => .int .i64 (os : Int)
  | 1 => .int .i64 (ol : Int)
  | 2 => .int .i64 (ns : Int)
  | 3 => .int .i64 (nl : Int)
  | 4 => .int .i64 (ub : Int)
  | _ => vl
/-- the cells of a change -/
def f4 (n0 n1 n2 n3 : Nat) : Nat → Value
  | 0 => .int .i64 (n0 : Int)
  | 1 => .int .i64 (n1 : Int)
  | 2 => .int .i64 (n2 : Int)
  | _ => .int .i64 (n3 : Int)

/-- the hunk in the making: it was begun at the world w1 -/
structure L6 (w1 : World) (os ol ns nl ub : Nat) (vl : Value) (ops : Ops) (wx : World) : Prop where
  row : wx.rowIs w1.heap.size 45 6 (hv os ol ns nl ub vl)
  own : wx.ownsRow (w1.heap.size + 1) 9 1 vl (flat ops).length (strs (flat ops))
  below : Below w1.heap.size w1 wx

theorem L6.new (w1 : World) (os ol ns nl ub : Nat) : L6 w1 os ol ns nl ub (.slice none 0 0) [] (w1.alloc (.cells #[.int .i64 (os : Int), .int .i64 (ol : Int), .int .i64 (ns : Int), .int .i64 (nl : Int), .int .i64 (ub : Int), .slice none 0 0] 45)) := by
  refine ⟨World.rowIs_alloc w1 _ 45 (hv os ol ns nl ub (.slice none 0 0)) ?_, World.ownsRow_nil _ _ _ _, (Below.refl _ _).alloc (Nat.le_refl _) _⟩
  intro i hi
  have : i < 6 := hi
  match i, this with
  | 0, _ => rfl
  | 1, _ => rfl
  | 2, _ => rfl
  | 3, _ => rfl
  | 4, _ => rfl
  | 5, _ => rfl
theorem L6.size {w1 wx : World} {os ol ns nl ub : Nat} {vl : Value} {ops : Ops} (h : L6 w1 os ol ns nl ub vl ops wx) : w1.heap.size + 1 ≤ wx.heap.size := h.row.lt
theorem L6.drewN {w1 wx : World} {os ol ns nl ub : Nat} {vl : Value} {ops : Ops} (h : L6 w1 os ol ns nl ub vl ops wx) (q : Nat) : L6 w1 os ol ns nl ub vl ops (wx.drewN q) := ⟨rowIs_drewN h.row q, own_below' h.own (below_drewN (Below.refl wx.heap.size _) q) (Nat.le_refl _), below_drewN h.below q⟩
theorem L6.drew {w1 wx : World} {os ol ns nl ub : Nat} {vl : Value} {ops : Ops} (h : L6 w1 os ol ns nl ub vl ops wx) : L6 w1 os ol ns nl ub vl ops wx.drew := ⟨h.row.drew, h.own.drew, h.below.drew⟩
theorem L6.alloc {w1 wx : World} {os ol ns nl ub : Nat} {vl : Value} {ops : Ops} (h : L6 w1 os ol ns nl ub vl ops wx) (o : Obj) : L6 w1 os ol ns nl ub vl ops (wx.alloc o) :=
  ⟨h.row.alloc o, h.own.alloc o, h.below.alloc (by have := h.size; omega) o⟩

theorem ne_own {w : World} {base n g t m : Nat} {vl : Value} {xs : List Value} {f : Nat → Value} (hrow : w.rowIs g t m f) (ht : t ≠ 9) (hown : w.ownsRow base 9 1 vl n xs) : some g ≠ vl.ownBlock := by
  rcases hown.2 with ⟨rfl, _⟩ | ⟨g', cap, cur, rfl, hb, hh, _⟩
  · simp [Value.ownBlock]
  · simp only [Value.ownBlock, ne_eq, Option.some.injEq]
    intro e
    subst e
    obtain ⟨c, h1, _⟩ := hrow
    rw [h1] at hh
    simp at hh
    exact ht hh.2

theorem row_grown {w w' : World} {g t m : Nat} {f : Nat → Value} {row : Option Nat} (h : w.rowIs g t m f) (hg : w.grownBy w' row) (hne : some g ≠ row) : w'.rowIs g t m f := h.of_block (hg.block g h.lt hne)

theorem own_set {w : World} {base e s n : Nat} {v : Value} {xs : List Value} (h : w.ownsRow base e s v n xs) {p : Addr} (hp : p.block < base) (u : Value) : (w.setCell p u).ownsRow base e s v n xs := by
  refine ⟨h.1, ?_⟩
  rcases h.2 with e | ⟨g, cap, cur, e, h1, h2, h3⟩
  · exact Or.inl e
  · exact Or.inr ⟨g, cap, cur, e, h1, by rw [Below.heap_setCell _ _ _ _ (by omega)]; exact h2, h3⟩

theorem L6.marked {w1 wx w' : World} {os ol ns nl ub : Nat} {vl v' : Value} {ops : Ops} {l : List ByteArray} (h : L6 w1 os ol ns nl ub vl ops wx) (hO : Own wx vl w' (w1.heap.size + 1) v' l) :
    w'.rowIs w1.heap.size 45 6 (hv os ol ns nl ub vl) := row_grown h.row hO.grown (ne_own h.row (by decide) h.own)

theorem L6.store {w1 wx w' : World} {os ol ns nl ub : Nat} {vl v' : Value} {ops : Ops} {mk : Int} {A : Nat → ByteArray} {lo n : Nat} (h : L6 w1 os ol ns nl ub vl ops wx)
    (hO : Own wx vl w' (w1.heap.size + 1) v' (flat ops ++ entries mk (fun k => A (lo + k)) n)) : L6 w1 os ol ns nl ub v' (ops ++ run mk A lo n) (w'.setCell ⟨w1.heap.size, 5, none⟩ v') := by
  have hf : flat (ops ++ run mk A lo n) = flat ops ++ entries mk (fun k => A (lo + k)) n := by rw [flat_append, flat_run]
  have hsz := h.size
  refine ⟨((h.marked hO).set 5 v').congr ?_, ?_, ?_⟩
  · intro i hi
    match i, hi with
    | 0, _ => rfl
    | 1, _ => rfl
    | 2, _ => rfl
    | 3, _ => rfl
    | 4, _ => rfl
    | 5, _ => rfl
  · rw [hf]; exact own_set hO.own (by simp) v'
  · exact (h.below.trans (below_of_grown hO.grown (by omega) (fun k hk => by have := (h.own.lt k hk).1; omega))).setCell (Nat.le_refl _) _

theorem ch_store {w1 wx w' : World} {os ol ns nl ub gc n0 n1 n2 n3 : Nat} {vl v' : Value} {ops : Ops} {l : List ByteArray} (hc : wx.rowIs gc 63 4 (f4 n0 n1 n2 n3)) (h : L6 w1 os ol ns nl ub vl ops wx) (hO : Own wx vl w' (w1.heap.size + 1) v' l) :
    (w'.setCell ⟨w1.heap.size, 5, none⟩ v').rowIs gc 63 4 (f4 n0 n1 n2 n3) := by
  refine (row_grown hc hO.grown (ne_own hc (by decide) h.own)).setOther ?_ _
  intro e
  simp only at e
  obtain ⟨c, h1, _⟩ := hc
  obtain ⟨c2, h2, _⟩ := h.row
  rw [e, h2] at h1
  simp at h1

/-- a part of a slice -/
theorem rd_sub {w : World} {a : Option Addr} {la ca lo hi : Nat} {A : Nat → ByteArray} (h : Rd w a la A) (h1 : lo ≤ hi) (h2 : hi ≤ la) (h3 : la ≤ ca) :
    Rd w (if ca = lo then a else a.map fun x => x.add lo) (hi - lo) (fun k => A (lo + k)) := by
  intro h0
  obtain ⟨b, o, rfl, hc⟩ := h (by omega)
  rw [if_neg (by omega)]
  refine ⟨b, o + lo, by simp [Addr.add], fun i hi => ?_⟩
  rw [Nat.add_assoc]; exact hc _ (by omega)
theorem add_block (x : Addr) (n : Nat) : (x.add n).block = x.block := by
  unfold Addr.add; split <;> rfl
theorem sub_block {a : Option Addr} {ca lo B : Nat} (h : ∀ x, a = some x → x.block < B) : ∀ b o, (if ca = lo then a else a.map fun x => x.add lo) = some ⟨b, o, none⟩ → b < B := by
  intro b o e
  split at e
  · exact h _ e
  · cases a with
    | none => simp at e
    | some x =>
      simp only [Option.map_some, Option.some.injEq] at e
      have := congrArg Addr.block e
      rw [add_block] at this
      have h2 := h x rfl
      simp only at this; omega

/-- what mark leaves behind: the hunk's last cell can be written, and then the hunk holds the lines -/
structure Stored (w1 : World) (os ol ns nl ub : Nat) (ops : Ops) (wx w2 : World) (v : Value) : Prop where
  l6 : L6 w1 os ol ns nl ub v ops (w2.setCell ⟨w1.heap.size, 5, none⟩ v)
  ch : ∀ gc n0 n1 n2 n3, wx.rowIs gc 63 4 (f4 n0 n1 n2 n3) → (w2.setCell ⟨w1.heap.size, 5, none⟩ v).rowIs gc 63 4 (f4 n0 n1 n2 n3)
def MkP (w1 : World) (os ol ns nl ub : Nat) (ops : Ops) (wx : World) (e : Ending) (w2 : World) : Prop :=
  ∃ a4 n4 c4, e = .returned (.slice a4 n4 c4) ∧ w2.frozen? ⟨w1.heap.size, 5, none⟩ = false ∧ (∃ u, w2.cell? ⟨w1.heap.size, 5, none⟩ = some u) ∧ Hid (Stored w1 os ol ns nl ub ops wx w2 (.slice a4 n4 c4))

theorem L6.mark {w1 wx : World} {os ol ns nl ub : Nat} {vl : Value} {ops : Ops} (h : L6 w1 os ol ns nl ub vl ops wx) (mk : Int) (A : Nat → ByteArray) (a : Option Addr) (la ca lo hi B : Nat)
    (hmk : 0 ≤ mk ∧ mk ≤ 255) (hr : Rd wx a la A) (h1 : lo ≤ hi) (h2 : hi ≤ la) (h3 : la ≤ ca) (hn : la ≤ 131072) (hb : ∀ x, a = some x → x.block < B) (hB : B ≤ w1.heap.size) (hs : ∀ i, i < la → (A i).size ≤ 1048576) (hl : ops.length ≤ 1000000) :
    Calls Try.prog 26 #[vl, .int .u8 mk, .slice (if ca = lo then a else a.map fun x => x.add lo) (hi - lo) (ca - lo)] wx fun e w2 => MkP w1 os ol ns nl ub (ops ++ run mk A lo (hi - lo)) wx e w2 := by
  have hfl := flat_len ops
  refine (mark_any (w1.heap.size + 1) vl (flat ops) mk _ (hi - lo) _ (fun k => A (lo + k)) wx h.own h.size (by omega) (by omega) hmk (rd_sub hr h1 h2 h3) ?_ (fun i hi => hs _ (by omega))).mono ?_
  · intro b o e e2
    have q1 := sub_block hb b o e
    have q2 := (h.own.lt b e2.symm).1
    omega
  · rintro e w2 ⟨v', rfl, hO⟩
    obtain ⟨a4, c4, rfl, _⟩ := own_read hO.own
    exact ⟨a4, _, c4, rfl, (h.marked hO).frozen 5, ⟨_, (h.marked hO).cell (i := 5) (by omega)⟩, ⟨h.store hO, fun gc n0 n1 n2 n3 hc => ch_store hc h hO⟩⟩

/-- the lines of the first changes of a hunk, c unchanged lines ahead -/
def hpart (A B : Nat → ByteArray) (i j c : Nat) : List Tr → Ops
  | [] => []
  | t :: P => run 32 A (i + t.g - c) c ++ run 45 A (i + t.g) t.d ++ run 43 B (j + t.g) t.e ++ full A B (i + t.g + t.d) (j + t.g + t.e) P
/-- where the lines of the old text stand then -/
def atp (i c : Nat) (t : Tr) : List Tr → Nat
  | [] => i + t.g - c
  | P => endA i P
theorem full_len (A B : Nat → ByteArray) (S : List Tr) : ∀ i j, (full A B i j S).length + i + j ≤ endA i S + endB j S := by
  induction S with
  | nil => intro i j; simp [full, endA, endB]
  | cons s S ih =>
    intro i j
    have := ih (i + s.g + s.d) (j + s.g + s.e)
    simp only [full, endA, endB, List.length_append, run_len]; omega
theorem part_len (A B : Nat → ByteArray) (i j c : Nat) (t : Tr) (P Q : List Tr) (r : List Tr) (h : t :: r = P ++ Q) (hc : c ≤ t.g) : (hpart A B i j c P).length ≤ endA i P + endB j P := by
  cases P with
  | nil => simp [hpart]
  | cons s P =>
    simp only [List.cons_append, List.cons.injEq] at h
    obtain ⟨rfl, _⟩ := h
    have := full_len A B P (i + t.g + t.d) (j + t.g + t.e)
    simp only [hpart, endA, endB, List.length_append, run_len]; omega

/-- one change more -/
theorem part_step (A B : Nat → ByteArray) (i j c : Nat) (t s : Tr) (r P Q : List Tr) (h : t :: r = P ++ s :: Q) (hc : c ≤ t.g) :
    ∃ gap, atp i c t P + gap = endA i P + s.g ∧ hpart A B i j c (P ++ [s]) = hpart A B i j c P ++ run 32 A (atp i c t P) gap ++ run 45 A (endA i P + s.g) s.d ++ run 43 B (endB j P + s.g) s.e ∧ atp i c t (P ++ [s]) = endA i P + s.g + s.d := by
  cases P with
  | nil =>
    simp only [List.nil_append, List.cons.injEq] at h
    obtain ⟨rfl, _⟩ := h
    refine ⟨c, by simp only [atp, endA]; omega, ?_, rfl⟩
    simp only [hpart, List.nil_append, full, endA, endB, atp, List.append_nil]
  | cons p P =>
    simp only [List.cons_append, List.cons.injEq] at h
    obtain ⟨rfl, _⟩ := h
    refine ⟨s.g, rfl, ?_, ?_⟩
    · simp only [List.cons_append, hpart, full_append, full, endA, endB, atp, List.append_nil, List.append_assoc]
    · show endA i (t :: P ++ [s]) = _
      rw [endA_append]; rfl

theorem seg_drop {R D : Nat → Bool} : ∀ (S : List Tr) {T : List Tr} {i j i' j' : Nat}, Seg R D i j (S ++ T) i' j' → Seg R D (endA i S) (endB j S) T i' j'
  | [], _, _, _, _, _, h => h
  | _ :: S, _, _, _, _, _, h => seg_drop S h.2.2.2.2
theorem own_mono {w : World} {base base' e s n : Nat} {v : Value} {xs : List Value} (h : w.ownsRow base e s v n xs) (hb : base' ≤ base) : w.ownsRow base' e s v n xs := by
  refine ⟨h.1, ?_⟩
  rcases h.2 with e | ⟨g, cap, cur, e, h1, h2, h3⟩
  · exact Or.inl e
  · exact Or.inr ⟨g, cap, cur, e, Nat.le_trans hb h1, h2, h3⟩

/-- one hunk more -/
theorem push2 {base : Nat} {w w1 : World} {v v1 vl : Value} {hs : List Hk} {vs : List Value} {h : Hk} (h1 : LinesAt base w hs vs) (h2 : w.ownsRow base 45 6 v hs.length (hcells hs vs)) (hl : w.ownsRow base 9 1 vl (flat h.ops).length (strs (flat h.ops)))
    (hown : w1.ownsRow base 45 6 v1 (hs.length + 1) (hcells hs vs ++ [.int .i64 (h.os : Int), .int .i64 (h.ol : Int), .int .i64 (h.ns : Int), .int .i64 (h.nl : Int), .int .i64 (h.ub : Int), vl]))
    (hgrow : w.grownBy w1 v.ownBlock) : HAt base w1 v1 (hs ++ [h]) := by
  have hkeep : ∀ u n xs, w.ownsRow base 9 1 u n xs → w1.ownsRow base 9 1 u n xs := by
    intro u n xs hu
    refine hu.kept hgrow ?_
    rcases hu.2 with ⟨e, _⟩ | ⟨g, cap, cur, e, b1, b2, _⟩
    · exact Or.inl (by rw [e]; rfl)
    · refine Or.inr ?_
      rcases h2.2 with ⟨e2, _⟩ | ⟨g2, cap2, cur2, e2, c1, c2, _⟩
      · rw [e, e2]; simp [Value.ownBlock]
      · rw [e, e2]
        simp only [Value.ownBlock, ne_eq, Option.some.injEq]
        intro eg
        rw [eg, c2] at b2
        simp at b2
  refine ⟨vs ++ [vl], lines_snoc hs vs h vl (lines_map hkeep hs vs h1) (hkeep _ _ _ hl), ?_⟩
  rw [hcells_snoc hs vs h vl (lines_len hs vs h1), List.length_append]
  exact hown
theorem six_new (w : World) (x0 x1 x2 x3 x4 x5 : Value) (t : TypeId) (g : Nat) (hg : g = w.heap.size) : ∀ j u, [x0, x1, x2, x3, x4, x5][j]? = some u → (w.alloc (.cells #[x0, x1, x2, x3, x4, x5] t)).cell? ((⟨g, 0, none⟩ : Addr).add j) = some u := by
  intro j u hj
  subst hg
  match j, hj with
  | 0, hj => simp at hj; subst hj; simp [Addr.add]
  | 1, hj => simp at hj; subst hj; simp [Addr.add]
  | 2, hj => simp at hj; subst hj; simp [Addr.add]
  | 3, hj => simp at hj; subst hj; simp [Addr.add]
  | 4, hj => simp at hj; subst hj; simp [Addr.add]
  | 5, hj => simp at hj; subst hj; simp [Addr.add]
theorem six_cell (x0 x1 x2 x3 x4 : Int) (a : Option Addr) (n c : Nat) : ∀ u ∈ [Value.int .i64 x0, .int .i64 x1, .int .i64 x2, .int .i64 x3, .int .i64 x4, .slice a n c], u.oneCell' = true := by
  intro u hu; simp at hu; rcases hu with rfl | rfl | rfl | rfl | rfl | rfl <;> rfl
end Go.Proofs.Qxb6605269a.HunkStage
