import Derived.Test.Qxb6605441aBase
namespace Go.Proofs.Qxb6605441a.Blank
open Go.ChangeShapes Go.WideShapes Go.ChangeAt Go.RowKit
open Go.Proofs.Qxb6605441a.Base

def sp (c : Int) : Bool := c == 32 || c == 9 || c == 13 || c == 10
def blank : List Int → Bool
  | [] => true
  | c :: r => if sp c then blank r else c == 35

/-- blank, by the scan: the first k bytes are all space -/
theorem blank_drop (L : List Int) (k : Nat) (h : ∀ j, j < k → sp (L.getD j 0) = true) (hk : k ≤ L.length) : blank L = blank (L.drop k) := by
  induction k generalizing L with
  | zero => rfl
  | succ k ih =>
    match L, hk with
    | c :: r, hk =>
      have h0 : sp c = true := by simpa using h 0 (by omega)
      simp only [blank, h0, if_true, List.drop_succ_cons]
      exact ih r (fun j hj => by simpa using h (j + 1) (by omega)) (by simpa using hk)
theorem blank_end (L : List Int) (h : ∀ j, j < L.length → sp (L.getD j 0) = true) : blank L = true := by
  rw [blank_drop L L.length h (Nat.le_refl _)]; simp [blank]
theorem blank_at (L : List Int) (k : Nat) (h : ∀ j, j < k → sp (L.getD j 0) = true) (hk : k < L.length) (hs : sp (L.getD k 0) = false) : blank L = (L.getD k 0 == 35) := by
  rw [blank_drop L k h (by omega), List.drop_eq_getElem_cons hk]
  have e : L[k] = L.getD k 0 := by simp [hk]
  rw [e]
  simp only [blank, hs]
  rfl
/-- what the law reckons: all space before p -/
def allsp (L : List Int) (p : Nat) : Bool := (L.take p).all sp
theorem allsp_zero (L : List Int) : allsp L 0 = true := by simp [allsp]
theorem allsp_succ (L : List Int) (p : Nat) (h : p < L.length) : allsp L (p + 1) = (allsp L p && sp (L.getD p 0)) := by
  unfold allsp
  rw [List.take_succ_eq_append_getElem h, List.all_append]
  have e : L[p] = L.getD p 0 := by simp [h]
  rw [e]; simp
theorem allsp_iff (L : List Int) (p : Nat) (hp : p ≤ L.length) : allsp L p = true ↔ ∀ j, j < p → sp (L.getD j 0) = true := by
  induction p with
  | zero => simp [allsp]
  | succ p ih =>
    rw [allsp_succ L p (by omega), Bool.and_eq_true, ih (by omega)]
    constructor
    · intro ⟨h1, h2⟩ j hj
      by_cases e : j = p
      · rw [e]; exact h2
      · exact h1 j (by omega)
    · intro h
      exact ⟨fun j hj => h j (by omega), h p (by omega)⟩
theorem fin (L : List Int) (p : Nat) (hp : p ≤ L.length) (hno : ∀ j, j < p → L.getD j 0 ≠ 35) (hat : p < L.length → L.getD p 0 = 35) : (blank L == allsp L p) = true := by
  rw [beq_iff_eq]
  by_cases ha : allsp L p = true
  · rw [ha]
    have h := (allsp_iff L p hp).1 ha
    by_cases e : p < L.length
    · rw [blank_at L p h e (by rw [hat e]; decide), hat e]; rfl
    · exact blank_end L fun j hj => h j (by omega)
  · have hf : allsp L p = false := by simpa using ha
    rw [hf]
    -- the first byte that is no space
    have key : ∀ q, q ≤ p → allsp L q = true ∨ ∃ k, k < q ∧ (∀ j, j < k → sp (L.getD j 0) = true) ∧ sp (L.getD k 0) = false := by
      intro q
      induction q with
      | zero => intro _; exact Or.inl (allsp_zero L)
      | succ q ih =>
        intro hq
        rcases ih (by omega) with h | ⟨k, h1, h2, h3⟩
        · cases hs : sp (L.getD q 0) with
          | true => left; rw [allsp_succ L q (by omega), h, hs]; rfl
          | false => exact Or.inr ⟨q, by omega, (allsp_iff L q (by omega)).1 h, hs⟩
        · exact Or.inr ⟨k, by omega, h2, h3⟩
    rcases key p (Nat.le_refl _) with h | ⟨k, h1, h2, h3⟩
    · exact absurd h ha
    · rw [blank_at L k h2 (by omega) h3, beq_eq_false_iff_ne]
      exact hno k h1

theorem clone_any (a : Option Addr) (len cap : Nat) (zs : List Int) (w : World) (hlen : len ≤ 1048576)
    (hrow : (a = none ∧ len = 0 ∧ cap = 0) ∨ ∃ x, a = some x ∧ len ≤ zs.length ∧ ∀ i, i < zs.length → w.cell? (x.add i) = some (.int .u8 (zs.getD i 0))) :
    Calls Try.prog 8 #[.slice a len cap] w fun e w' => ∃ a' cap', e = .returned (.slice a' len cap') ∧
      (0 < len → ∃ g, a' = some ⟨g, 0, none⟩ ∧ ∀ i, i < len → w'.cell? ⟨g, i, none⟩ = some (.int .u8 ((zs.take len).getD i 0))) ∧ Below w.heap.size w w' := by
  rcases hrow with ⟨rfl, rfl, rfl⟩ | ⟨x, rfl, hl, hc⟩
  · refine (clone_nil w).mono ?_
    rintro e w' ⟨rfl, rfl⟩
    exact ⟨none, 0, rfl, fun h => absurd h (by omega), Below.refl _ _⟩
  · refine (clone_row x len cap zs w hl hlen fun i hi => hc i (by omega)).mono ?_
    rintro e w' ⟨rfl, rfl⟩
    refine ⟨_, _, rfl, fun _ => ⟨w.heap.size, rfl, fun i hi => ?_⟩, (Below.refl _ _).alloc (Nat.le_refl _) _⟩
    rw [World.cell?_alloc_at (w := w) _ _ _ _ rfl]
    exact rowU8_at _ i (by simp; omega)

theorem ret_bool {a b : Bool} (h : a = b) : Ending.returned (.bool a) = .returned (.bool b) := by rw [h]

theorem space_any (c : Int) (w : World) : Calls Try.prog 13 #[.int .u8 c] w fun e w' => e = .returned (.bool (sp c)) ∧ w' = w := by
  go_enter Try.func13, Try.ntmps13
  go_wp2
  all_goals (go_ret; exact ⟨ret_bool (by simp [sp, *]), rfl⟩)

theorem step {L : List Int} {k : Nat} {x : Int} (h : ∀ j, j < k → sp (L.getD j 0) = true) (hx : L.getD k 0 = x) (hs : sp x = true) : ∀ j, j < k + 1 → sp (L.getD j 0) = true := by
  intro j hj
  by_cases e : j = k
  · rw [e, hx]; exact hs
  · exact h j (by omega)

set_option maxHeartbeats 400000 in
theorem blank_any (a : Option Addr) (len cap : Nat) (L : List Int) (w : World) (hL : L.length = len) (hlen : len ≤ 1048576)
    (hread : 0 < len → ∃ g, a = some ⟨g, 0, none⟩ ∧ ∀ i, i < len → w.cell? ⟨g, i, none⟩ = some (.int .u8 (L.getD i 0))) :
    Calls Try.prog 19 #[.slice a len cap] w fun e w' => e = .returned (.bool (blank L)) ∧ w' = w := by
  go_enter Try.func19, Try.ntmps19
  go_wp2
  go_loop [7] (fun i => ∃ k : Nat, k ≤ len ∧ i = .int .i64 k ∧ ∀ j, j < k → sp (L.getD j 0) = true) (fun i => len - (intOf i).toNat)
  case atStart => exact ⟨0, by omega, rfl, fun j hj => absurd hj (by omega)⟩
  case round =>
    obtain ⟨k, hk, rfl, hpre⟩ := hrel
    have HP : Hid (∀ j, j < k → sp (L.getD j 0) = true) := hpre
    clear hpre
    by_cases hlt : k < len
    · obtain ⟨g, rfl, hc⟩ := hread (by omega)
      have hck := hc k hlt
      clear hc hread
      generalize hx : L.getD k 0 = x at hck
      have HX : Hid (L.getD k 0 = x) := hx
      clear hx
      go_wp2
      all_goals first
        | (go_round
           case rel => exact ⟨k + 1, by omega, by go_num, step HP.out HX.out (by simp [sp, *])⟩
           case measure => simp [intOf]; omega)
        | (go_ret
           refine ⟨ret_bool ?_, rfl⟩
           rw [blank_at L k HP.out (by omega) (by rw [HX.out]; simp [sp, *]), HX.out]
           symm; assumption)
    · go_wp2
      go_ret
      exact ⟨ret_bool (blank_end L (fun j hj => HP.out j (by omega))).symm, rfl⟩
theorem step2 {L : List Int} {k : Nat} (h : ∀ j, j < k → L.getD j 0 ≠ 35) (hx : ¬ L.getD k 0 = 35) : ∀ j, j < k + 1 → L.getD j 0 ≠ 35 := by
  intro j hj
  by_cases e : j = k
  · rw [e]; exact hx
  · exact h j (by omega)

theorem zzblank_any (a : Option Addr) (len cap : Nat) (L : List Int) (w : World) (hL : L.length = len) (hlen : len ≤ 1048576)
    (hread : 0 < len → ∃ g, a = some ⟨g, 0, none⟩ ∧ ∀ i, i < len → w.cell? ⟨g, i, none⟩ = some (.int .u8 (L.getD i 0))) :
    Calls Try.prog 14 #[.slice a len cap] w fun e w' => e = .returned (.bool (blank L)) ∧ w' = w := by
  go_enter Try.func14, Try.ntmps14
  go_wp2_with (go_at_call 19; refine (blank_any _ _ _ L _ hL hlen hread).mono ?_; rintro e w' ⟨rfl, rfl⟩)
  go_ret
  exact ⟨rfl, rfl⟩

set_option maxHeartbeats 1000000 in
theorem law (a : Option Addr) (len cap : Nat) (zs : List Int) (w : World) (hlen : len ≤ 1048576)
    (hrow : (a = none ∧ len = 0 ∧ cap = 0) ∨ ∃ x, a = some x ∧ len ≤ zs.length ∧ ∀ i, i < zs.length → w.cell? (x.add i) = some (.int .u8 (zs.getD i 0))) :
    Calls Try.prog 4 #[.slice a len cap] w fun e w' => e = .returned (.bool true) ∧ Below w.heap.size w w' := by
  have hL : (zs.take len).length = len := by
    rcases hrow with ⟨_, rfl, _⟩ | ⟨x, _, hl, _⟩ <;> simp; omega
  have hcl := clone_any a len cap zs w hlen hrow
  have hdl : decide ((1048576 : Int) < (len : Int)) = false := by simp; omega
  clear hrow
  generalize zs.take len = L at hL hcl
  go_enter Try.func4, Try.ntmps4
  go_wp2_with (first | (go_at_call 12; refine (zzb_yes _ _ _ hlen _).mono ?_; rintro e w' ⟨rfl, rfl⟩) | (go_at_call 8; refine hcl.mono ?_; rintro e w' ⟨a', cap', rfl, hread, hbel⟩; clear hcl))
  go_loop [3, 4] (fun p i => ∃ k : Nat, k ≤ len ∧ i = .int .i64 k ∧ p = .int .i64 len ∧ ∀ j, j < k → L.getD j 0 ≠ 35) (fun _ i => len - (intOf i).toNat)
  case atStart => exact ⟨0, by omega, rfl, rfl, fun j hj => absurd hj (by omega)⟩
  case round =>
    obtain ⟨k, hk, rfl, rfl, hpre⟩ := hrel
    have HP : Hid (∀ j, j < k → L.getD j 0 ≠ 35) := hpre
    clear hpre
    by_cases hlt : k < len
    · obtain ⟨g, hag, hc⟩ := hread (by omega)
      have hck := hc k hlt
      by_cases h35 : L.getD k 0 = 35
      · have hfin := fin L k (by omega) HP.out (fun _ => h35)
        rw [h35] at hck
        clear hc h35
        subst hag
        go_wp2
        go_loop [5, 6] (fun v i => ∃ q : Nat, q ≤ k ∧ i = .int .i64 q ∧ v = .bool (allsp L q)) (fun _ i => k - (intOf i).toNat)
        case atStart => exact ⟨0, by omega, rfl, by rw [allsp_zero]⟩
        case round =>
          obtain ⟨q, hq, rfl, rfl⟩ := hrel
          by_cases hqt : q < k
          · obtain ⟨g2, hg2, hc⟩ := hread (by omega)
            simp only [Option.some.injEq, Addr.mk.injEq, and_true] at hg2
            subst hg2
            have hck := hc q (by omega)
            have HS : Hid _ := allsp_succ L q (by omega)
            clear hc
            generalize hx : L.getD q 0 = x at hck HS
            clear hx
            cases hsx : sp x
            all_goals
              go_wp2_with (go_at_call 13; refine (space_any _ _).mono ?_; rintro e w'' ⟨rfl, rfl⟩)
              go_round
              case rel => exact ⟨q + 1, by omega, by go_num, by rw [HS.out, hsx]; simp⟩
              case measure => simp [intOf]; omega
          · obtain rfl : q = k := by omega
            go_wp2_with (go_at_call 14; refine (zzblank_any _ _ _ L _ hL hlen hread).mono ?_; rintro e w'' ⟨rfl, rfl⟩)
            go_ret
            exact ⟨rfl, hbel⟩
      · have HX : Hid _ := step2 HP.out h35
        have hb : (L.getD k 0 == 35) = false := by simpa using h35
        clear hc h35
        subst hag
        generalize L.getD k 0 = x at hck hb
        go_wp2
        go_round
        case rel => exact ⟨k + 1, by omega, by go_num, rfl, HX.out⟩
        case measure => simp [intOf]; omega
    · have hfin := fin L len (by omega) (fun j hj => HP.out j (by omega)) (fun h => absurd h (by omega))
      go_wp2
      go_loop [5, 6] (fun v i => ∃ q : Nat, q ≤ len ∧ i = .int .i64 q ∧ v = .bool (allsp L q)) (fun _ i => len - (intOf i).toNat)
      case atStart => exact ⟨0, by omega, rfl, by rw [allsp_zero]⟩
      case round =>
        obtain ⟨q, hq, rfl, rfl⟩ := hrel
        by_cases hqt : q < len
        · obtain ⟨g, rfl, hc⟩ := hread (by omega)
          have hck := hc q (by omega)
          have HS : Hid _ := allsp_succ L q (by omega)
          clear hc
          generalize hx : L.getD q 0 = x at hck HS
          clear hx
          cases hsx : sp x
          all_goals
            go_wp2_with (go_at_call 13; refine (space_any _ _).mono ?_; rintro e w'' ⟨rfl, rfl⟩)
            go_round
            case rel => exact ⟨q + 1, by omega, by go_num, by rw [HS.out, hsx]; simp⟩
            case measure => simp [intOf]; omega
        · obtain rfl : q = len := by omega
          go_wp2_with (go_at_call 14; refine (zzblank_any _ _ _ L _ hL hlen hread).mono ?_; rintro e w'' ⟨rfl, rfl⟩)
          go_ret
          exact ⟨rfl, hbel⟩

end Go.Proofs.Qxb6605441a.Blank
