import Derived.Test.Qxb6605441aChild
namespace Go.Proofs.Qxb6605441a.Child
open Go.ChangeShapes Go.WideShapes Go.ChangeAt Go.RowKit
open Go.Proofs.Qxb6605441a.Base
open Go.Proofs.Qxb6605441a.Blank (ret_bool clone_any)

set_option linter.unusedSimpArgs false

def pre (f g : Int) : Nat → Bool
  | 0 => true
  | k + 1 => pre f g k && (fpl g k == fpl f k)
def hit (f : Int) (n : Nat) (κ : List UInt8) (g : Nat) : Bool := (fn g == (n : Int) + 1) && (pre f g n && (κ == fpl g n))
def wantAt (f : Int) (n : Nat) (κ : List UInt8) : Nat → Int
  | 0 => 0
  | g + 1 => if hit f n κ g = true then g else wantAt f n κ g

theorem fpl_toList (g : Int) (i : Nat) : (fp g i).toList = fpl g i := by rw [ByteArray.toList_eq]; rfl

theorem fn_small (f : Int) (n : Nat) (hn : fn f = n) (hn3 : n < 3) : f = 1 ∨ f = 2 ∨ f = 3 ∨ f = 4 ∨ f = 5 ∨ f = 6 ∨ f = 7 ∨ f = 8 ∨ f = 10 ∨ f = 12 ∨ f = 13 := by
  by_cases hg : 1 ≤ f ∧ f ≤ 13
  · obtain ⟨k, rfl⟩ : ∃ k : Nat, f = k := ⟨f.toNat, by omega⟩
    have hk : k = 1 ∨ k = 2 ∨ k = 3 ∨ k = 4 ∨ k = 5 ∨ k = 6 ∨ k = 7 ∨ k = 8 ∨ k = 9 ∨ k = 10 ∨ k = 11 ∨ k = 12 ∨ k = 13 := by omega
    rcases hk with rfl | rfl | rfl | rfl | rfl | rfl | rfl | rfl | rfl | rfl | rfl | rfl | rfl <;> first | omega | (simp [fn, tabN] at hn; omega)
  · have := (path_other f hg).2; omega

theorem fin (f : Int) (n : Nat) (κ : List UInt8) (hn : fn f = n) (hn3 : n < 3) : childOf f κ = wantAt f n κ 14 := by
  rcases fn_small f n hn hn3 with rfl | rfl | rfl | rfl | rfl | rfl | rfl | rfl | rfl | rfl | rfl
  · obtain rfl : n = 0 := by have : fn 1 = 0 := rfl; omega
    have e : wantAt 1 0 κ 14 = if κ = kData then 12 else if κ = kMeta then 5 else if κ = kType then 4 else if κ = kKind then 3 else if κ = kApi then 2 else 0 := by
      simp [wantAt, hit, pre, fn, fpl, tab, tabN]
    rw [e]
    by_cases h1 : κ = kApi
    · subst h1; decide
    by_cases h2 : κ = kKind
    · subst h2; decide
    by_cases h3 : κ = kType
    · subst h3; decide
    by_cases h4 : κ = kMeta
    · subst h4; decide
    by_cases h5 : κ = kData
    · subst h5; decide
    simp [childOf, h1, h2, h3, h4, h5]
  · obtain rfl : n = 1 := by have : fn 2 = 1 := rfl; omega
    simp [wantAt, hit, pre, fn, fpl, tab, tabN, childOf, kApi, kKind, kType, kMeta, kName, kSpace, kLabels, kAnnot, kData]
  · obtain rfl : n = 1 := by have : fn 3 = 1 := rfl; omega
    simp [wantAt, hit, pre, fn, fpl, tab, tabN, childOf, kApi, kKind, kType, kMeta, kName, kSpace, kLabels, kAnnot, kData]
  · obtain rfl : n = 1 := by have : fn 4 = 1 := rfl; omega
    simp [wantAt, hit, pre, fn, fpl, tab, tabN, childOf, kApi, kKind, kType, kMeta, kName, kSpace, kLabels, kAnnot, kData]
  · obtain rfl : n = 1 := by have : fn 5 = 1 := rfl; omega
    have e : wantAt 5 1 κ 14 = if κ = kAnnot then 10 else if κ = kLabels then 8 else if κ = kSpace then 7 else if κ = kName then 6 else 0 := by
      have d1 : (kData == kMeta) = false := by decide
      have d2 : (kMeta == kData) = false := by decide
      have d3 : (kLabels == kAnnot) = false := by decide
      have d4 : (kAnnot == kLabels) = false := by decide
      simp [wantAt, hit, pre, fn, fpl, tab, tabN, d1, d2, d3, d4]
    rw [e]
    by_cases h0 : κ = kName
    · subst h0; decide
    by_cases h1 : κ = kSpace
    · subst h1; decide
    by_cases h2 : κ = kLabels
    · subst h2; decide
    by_cases h3 : κ = kAnnot
    · subst h3; decide
    simp [childOf, h0, h1, h2, h3]
  · obtain rfl : n = 2 := by have : fn 6 = 2 := rfl; omega
    simp [wantAt, hit, pre, fn, fpl, tab, tabN, childOf, kApi, kKind, kType, kMeta, kName, kSpace, kLabels, kAnnot, kData]
  · obtain rfl : n = 2 := by have : fn 7 = 2 := rfl; omega
    simp [wantAt, hit, pre, fn, fpl, tab, tabN, childOf, kApi, kKind, kType, kMeta, kName, kSpace, kLabels, kAnnot, kData]
  · obtain rfl : n = 2 := by have : fn 8 = 2 := rfl; omega
    have e : wantAt 8 2 κ 14 = if κ = kOwner then 9 else 0 := by
      have d1 : (kData == kMeta) = false := by decide
      have d2 : (kMeta == kData) = false := by decide
      have d3 : (kLabels == kAnnot) = false := by decide
      have d4 : (kAnnot == kLabels) = false := by decide
      simp [wantAt, hit, pre, fn, fpl, tab, tabN, d1, d2, d3, d4]
    rw [e]
    by_cases h0 : κ = kOwner
    · subst h0; decide
    simp [childOf, h0]
  · obtain rfl : n = 2 := by have : fn 10 = 2 := rfl; omega
    have e : wantAt 10 2 κ 14 = if κ = kLast then 11 else 0 := by
      have d1 : (kData == kMeta) = false := by decide
      have d2 : (kMeta == kData) = false := by decide
      have d3 : (kLabels == kAnnot) = false := by decide
      have d4 : (kAnnot == kLabels) = false := by decide
      simp [wantAt, hit, pre, fn, fpl, tab, tabN, d1, d2, d3, d4]
    rw [e]
    by_cases h0 : κ = kLast
    · subst h0; decide
    simp [childOf, h0]
  · obtain rfl : n = 1 := by have : fn 12 = 1 := rfl; omega
    have e : wantAt 12 1 κ 14 = if κ = kRel then 13 else 0 := by
      have d1 : (kData == kMeta) = false := by decide
      have d2 : (kMeta == kData) = false := by decide
      have d3 : (kLabels == kAnnot) = false := by decide
      have d4 : (kAnnot == kLabels) = false := by decide
      simp [wantAt, hit, pre, fn, fpl, tab, tabN, d1, d2, d3, d4]
    rw [e]
    by_cases h0 : κ = kRel
    · subst h0; decide
    simp [childOf, h0]
  · obtain rfl : n = 2 := by have : fn 13 = 2 := rfl; omega
    simp [wantAt, hit, pre, fn, fpl, tab, tabN, childOf, kApi, kKind, kType, kMeta, kName, kSpace, kLabels, kAnnot, kData]
theorem fin0 (f : Int) (κ : List UInt8) (hn : ¬ (0 ≤ fn f ∧ fn f < 3)) : childOf f κ = 0 := by
  have h1 : f ≠ 1 := fun e => hn (by rw [e]; decide)
  have h5 : f ≠ 5 := fun e => hn (by rw [e]; decide)
  have h8 : f ≠ 8 := fun e => hn (by rw [e]; decide)
  have h10 : f ≠ 10 := fun e => hn (by rw [e]; decide)
  have h12 : f ≠ 12 := fun e => hn (by rw [e]; decide)
  simp [childOf, h1, h5, h8, h10, h12]

theorem path_lit (g m : Int) (hm : fn g = m) (w : World) :
    Calls Try.prog 9 #[.int .i64 g] w fun e w' => e = .returned (.tuple #[.agg #[.string (fp g 0), .string (fp g 1), .string (fp g 2)], .int .i64 m]) ∧ w' = w.alloc (.cells #[.string (fp g 0), .string (fp g 1), .string (fp g 2)] 25) :=
  hm ▸ path_any g w

theorem cells_at (g : Int) (k : Nat) (hk : k < 3) : (#[.string (fp g 0), .string (fp g 1), .string (fp g 2)] : Array Value)[k]? = some (.string (fp g k)) := by
  match k, hk with
  | 0, _ => rfl
  | 1, _ => rfl
  | 2, _ => rfl

/-- 'string(key)' -/
theorem conv (a : Option Addr) (len cap : Nat) (L : List Int) (w : World) (hL : L.length = len)
    (hread : 0 < len → ∃ g, a = some ⟨g, 0, none⟩ ∧ ∀ i, i < len → w.cell? ⟨g, i, none⟩ = some (.int .u8 (L.getD i 0)))
    (hnil : len = 0 → a = none ∨ ∃ g, a = some ⟨g, 0, none⟩) :
    (convert 22 9 (.slice a len cap)).run Try.prog w = .ok (.string (strOfNums L)) w := by
  have hrow : ∀ g, a = some ⟨g, 0, none⟩ → (convert 22 9 (.slice a len cap)).run Try.prog w = .ok (.string (strOfNums L)) w := by
    rintro g rfl
    refine run_convert_bytes_arg w 22 5 Try.underlying22 Try.underlying5 g 0 len cap L hL (fun i hi => ?_) 9 Try.underlying9
    obtain ⟨g2, hg2, hc⟩ := hread (by omega)
    simp only [Option.some.injEq, Addr.mk.injEq, and_true] at hg2
    subst hg2
    rw [Nat.zero_add]; exact hc i hi
  by_cases h0 : len = 0
  · rcases hnil h0 with rfl | ⟨g, hg⟩
    · have : L = [] := List.length_eq_zero_iff.1 (by omega)
      subst this
      rw [run_convert_bytes_nil w 22 5 Try.underlying22 Try.underlying5 len cap 9 Try.underlying9]
      rfl
    · exact hrow g hg
  · obtain ⟨g, hg, _⟩ := hread (by omega)
    exact hrow g hg

theorem key_of (L : List Int) : (strOfNums L).toList = keyOf L := by rw [ByteArray.toList_eq]; rfl

theorem zzchild_key (f : Int) (κ : List UInt8) (a : Option Addr) (len cap : Nat) (K : ByteArray) (w : World) (hk : K.toList = κ)
   (hcv : (convert 22 9 (.slice a len cap)).run Try.prog w = .ok (.string K) w) :
    Calls Try.prog 11 #[.int .i64 f, .slice a len cap] w fun e w' => e = .returned (.int .i64 (childOf f κ)) ∧ w' = w := hk ▸ zzchild_any f a len cap K w hcv
theorem zzchild_zero (f : Int) (a : Option Addr) (len cap : Nat) (K : ByteArray) (w : World) (hk : childOf f K.toList = 0)
   (hcv : (convert 22 9 (.slice a len cap)).run Try.prog w = .ok (.string K) w) :
    Calls Try.prog 11 #[.int .i64 f, .slice a len cap] w fun e w' => e = .returned (.int .i64 0) ∧ w' = w := hk ▸ zzchild_any f a len cap K w hcv
theorem same_key (κ ρ : List UInt8) (a : Option Addr) (len cap : Nat) (L : List Int) (s : ByteArray) (w : World) (h1 : keyOf L = κ) (h2 : s.toList = ρ) (hL : L.length = len) (hs : s.size ≤ 1048576)
    (hb : ∀ i, i < len → 0 ≤ L.getD i 0 ∧ L.getD i 0 ≤ 255)
    (hread : 0 < len → ∃ g, a = some ⟨g, 0, none⟩ ∧ ∀ i, i < len → w.cell? ⟨g, i, none⟩ = some (.int .u8 (L.getD i 0))) :
    Calls Try.prog 10 #[.slice a len cap, .string s] w fun e w' => e = .returned (.bool (κ == ρ)) ∧ ∃ n, w' = w.drewN n := by
  subst h1; subst h2
  exact same_any a len cap L s w hL hs hb hread
theorem fp_size_tab : ∀ g : Fin 14, ∀ i : Fin 3, (fpl (g.val : Int) i.val).length ≤ 1048576 := by decide
theorem fp_size (g i : Nat) (hg : g < 14) (hi : i < 3) : (fp (g : Int) i).size ≤ 1048576 := fp_size_tab ⟨g, hg⟩ ⟨i, hi⟩

theorem want_hit (f : Int) (n : Nat) (κ : List UInt8) (g : Nat) (h1 : (fn g != (n : Int) + 1) = false) (h2 : pre f g n = true) (h3 : (κ == fpl g n) = true) : (g : Int) = wantAt f n κ (g + 1) := by
  have e1 : fn g = (n : Int) + 1 := by simpa using h1
  rw [wantAt, if_pos]
  simp only [hit, h2, h3, e1]
  simp
theorem want_miss1 (f : Int) (n : Nat) (κ : List UInt8) (g : Nat) (h1 : (fn g != (n : Int) + 1) = true) : wantAt f n κ g = wantAt f n κ (g + 1) := by
  have e1 : (fn g == (n : Int) + 1) = false := by simpa using h1
  rw [wantAt, if_neg]
  simp only [hit, e1]
  simp
theorem want_miss2 (f : Int) (n : Nat) (κ : List UInt8) (g : Nat) (h2 : (pre f g n && (κ == fpl g n)) = false) : wantAt f n κ g = wantAt f n κ (g + 1) := by
  rw [wantAt, if_neg]
  simp only [hit, h2]
  simp

/-- two boxes of one path, one behind the other -/
def two (w : World) (g : Int) : World := (w.alloc (.cells #[.string (fp g 0), .string (fp g 1), .string (fp g 2)] 25)).alloc (.cells #[.string (fp g 0), .string (fp g 1), .string (fp g 2)] 25)
theorem two_size (w : World) (g : Int) : (two w g).heap.size = w.heap.size + 2 := by simp [two]
theorem two_below (w : World) (g : Int) : Below w.heap.size w (two w g) := ((Below.refl _ _).alloc (Nat.le_refl _) _).alloc (by simp) _
theorem two_at (w : World) (g : Int) (k : Nat) (hk : k < 3) : (two w g).cell? ⟨w.heap.size + 1, k, none⟩ = some (.string (fp g k)) := by
  unfold two
  rw [World.cell?_alloc_at (w := w.alloc _) _ _ _ _ (by simp)]
  exact cells_at g k hk
theorem below_read {w w' : World} {a : Option Addr} {len : Nat} {L : List Int} (hb : Below w.heap.size w w')
    (h : 0 < len → ∃ g, a = some ⟨g, 0, none⟩ ∧ ∀ i, i < len → w.cell? ⟨g, i, none⟩ = some (.int .u8 (L.getD i 0))) :
    0 < len → ∃ g, a = some ⟨g, 0, none⟩ ∧ ∀ i, i < len → w'.cell? ⟨g, i, none⟩ = some (.int .u8 (L.getD i 0)) := by
  intro h0
  obtain ⟨g, hg, hc⟩ := h h0
  exact ⟨g, hg, fun i hi => by rw [hb.cell (World.block_lt_of_cell? w _ (hc i hi))]; exact hc i hi⟩

theorem drew_read {w : World} {a : Option Addr} {len : Nat} {L : List Int} (q : Nat)
    (h : 0 < len → ∃ g, a = some ⟨g, 0, none⟩ ∧ ∀ i, i < len → w.cell? ⟨g, i, none⟩ = some (.int .u8 (L.getD i 0))) :
    0 < len → ∃ g, a = some ⟨g, 0, none⟩ ∧ ∀ i, i < len → (w.drewN q).cell? ⟨g, i, none⟩ = some (.int .u8 (L.getD i 0)) := by
  intro h0
  obtain ⟨g, hg, hc⟩ := h h0
  exact ⟨g, hg, fun i hi => by have := hc i hi; simpa using this⟩

set_option maxHeartbeats 1000000 in
theorem law_in (f : Int) (n : Nat) (hn : fn f = n) (hn3 : n < 3) (a : Option Addr) (len cap : Nat) (L : List Int) (w : World) (hL : L.length = len) (hlen : len ≤ 1048576)
    (hb : ∀ i, i < len → 0 ≤ L.getD i 0 ∧ L.getD i 0 ≤ 255)
    (hcl : Calls Try.prog 8 #[.slice a len cap] w fun e w' => ∃ a' cap', e = .returned (.slice a' len cap') ∧
      (0 < len → ∃ g, a' = some ⟨g, 0, none⟩ ∧ ∀ i, i < len → w'.cell? ⟨g, i, none⟩ = some (.int .u8 (L.getD i 0))) ∧ (len = 0 → a' = none ∨ ∃ g, a' = some ⟨g, 0, none⟩) ∧ Below w.heap.size w w') :
    Calls Try.prog 3 #[.int .i64 f, .slice a len cap] w fun e w' => e = .returned (.bool true) ∧ Below w.heap.size w w' := by
  have hdl : decide ((1048576 : Int) < (len : Int)) = false := by simp; omega
  have hd3 : decide ((n : Int) < 3) = true := by simp; omega
  go_enter Try.func3, Try.ntmps3
  go_wp2_with (first | (go_at_call 7; refine (zzc_yes _ _ _ _ hlen _).mono ?_; rintro e w' ⟨rfl, rfl⟩) | (go_at_call 8; refine hcl.mono ?_; rintro e w1 ⟨a', cap', rfl, hread, hnil, hbel⟩; clear hcl) | (go_at_call 9; refine (path_lit _ _ hn _).mono ?_; rintro e w2 ⟨rfl, rfl⟩))
  have hfin : (childOf f (keyOf L) == wantAt f n (keyOf L) 14) = true := by rw [fin f n _ hn hn3]; simp
  generalize hK : keyOf L = κ at hfin
  have HK : Hid _ := hK
  clear hK
  go_loopw [7, 8] (fun v i wr => ∃ g : Nat, g ≤ 14 ∧ i = .int .i64 g ∧ v = .int .i64 (wantAt f n κ g) ∧
      (∀ k, k < 3 → wr.cell? ⟨w1.heap.size + 1, k, none⟩ = some (.string (fp f k))) ∧
      (0 < len → ∃ g, a' = some ⟨g, 0, none⟩ ∧ ∀ i, i < len → wr.cell? ⟨g, i, none⟩ = some (.int .u8 (L.getD i 0))) ∧ w1.heap.size + 2 ≤ wr.heap.size ∧ Below w1.heap.size w1 wr) (fun _ i _ => 14 - (intOf i).toNat)
  case atStart => exact ⟨0, by omega, rfl, rfl, two_at w1 f, below_read (two_below w1 f) hread, by simp, two_below w1 f⟩
  case round =>
    obtain ⟨g, hg, rfl, rfl, hpp, hrd, hsz, hbw⟩ := hrel
    by_cases hlt : g < 14
    · clear hfin
      have hb2 := two_below wr g
      have hsz2 := two_size wr g
      have hga := two_at wr g
      have hpp2 : ∀ k, k < 3 → (two wr g).cell? ⟨w1.heap.size + 1, k, none⟩ = some (.string (fp f k)) := fun k hk => by rw [hb2.cell (by show w1.heap.size + 1 < _; omega)]; exact hpp k hk
      have hrd2 := below_read hb2 hrd
      have hbw2 := hbw.trans (hb2.mono (by omega))
      have H0 : Hid _ := hb2
      clear hpp hrd hread hnil hbw hb2
      cases hfn : (fn (g : Int) != (n : Int) + 1)
      · go_wp2_with (go_at_call 9; refine (path_lit _ _ rfl _).mono ?_; rintro e w2 ⟨rfl, rfl⟩)
        go_loopw [11, 12] (fun v i wx => ∃ k : Nat, k ≤ n ∧ i = .int .i64 k ∧ v = .bool (pre f g k) ∧ ∃ q, wx = (two wr g).drewN q) (fun _ i _ => n - (intOf i).toNat)
        case atStart => exact ⟨0, by omega, rfl, rfl, 0, rfl⟩
        case round =>
          obtain ⟨k, hk, rfl, rfl, q, rfl⟩ := hrel
          by_cases hkn : k < n
          · have g1 := hga k (by omega)
            have g2 := hpp2 k (by omega)
            have hki : (k : Int) < 3 := by omega
            have HS : Hid (pre f g (k + 1) = (pre f g k && (fpl g k == fpl f k))) := rfl
            have t1 := fpl_toList g k
            have t2 := fpl_toList f k
            clear hga hpp2 hrd2 hb
            go_wp2
            go_quiet (fail)
            go_wp2
            all_goals
              go_roundw
              case rel => exact ⟨k + 1, by omega, by go_num, by rw [HS.out]; simp_all, _, rfl⟩
              case measure => simp [intOf]; omega
          · have hkn' : n ≤ k := by omega
            have HE : Hid (k = n) := by show k = n; omega
            have g1 := hga n hn3
            have hni : (n : Int) < 3 := by omega
            have hfs := fp_size g n hlt hn3
            have hrd3 := drew_read q hrd2
            clear hga
            cases hp : pre f g k
            · have HW : Hid _ := want_miss2 f n κ g (by rw [HE.out] at hp; rw [hp]; rfl)
              clear hb
              go_wp2
              go_roundw
              case rel => exact ⟨g + 1, by omega, by go_num, by rw [HW.out], fun k hk => by simpa using hpp2 k hk, hrd3, by simp; omega, below_drewN hbw2 q⟩
              case measure => simp [intOf]; omega
            · cases hq : (κ == fpl g n)
              · have HW : Hid _ := want_miss2 f n κ g (by rw [hq]; simp)
                go_wp2_with (go_at_call 10; refine (same_key κ (fpl g n) _ _ _ L _ _ HK.out (fpl_toList g n) hL hfs hb hrd3).mono ?_; rintro e w3 ⟨rfl, q3, rfl⟩)
                go_roundw
                case rel => exact ⟨g + 1, by omega, by go_num, by rw [HW.out], fun k hk => by simpa using hpp2 k hk, drew_read _ hrd2, by simp; omega, below_drewN hbw2 _⟩
                case measure => simp [intOf]; omega
              · have HW : Hid _ := want_hit f n κ g hfn (by rw [← HE.out]; exact hp) hq
                go_wp2_with (go_at_call 10; refine (same_key κ (fpl g n) _ _ _ L _ _ HK.out (fpl_toList g n) hL hfs hb hrd3).mono ?_; rintro e w3 ⟨rfl, q3, rfl⟩)
                go_roundw
                case rel => exact ⟨g + 1, by omega, by go_num, by rw [← HW.out], fun k hk => by simpa using hpp2 k hk, drew_read _ hrd2, by simp; omega, below_drewN hbw2 _⟩
                case measure => simp [intOf]; omega
      · have hW := want_miss1 f n κ g hfn
        have HW : Hid _ := hW
        clear hW
        go_wp2_with (go_at_call 9; refine (path_lit _ _ rfl _).mono ?_; rintro e w2 ⟨rfl, rfl⟩)
        go_roundw
        case rel => exact ⟨g + 1, by omega, by go_num, by rw [HW.out], hpp2, hrd2, by simp; omega, hbw2⟩
        case measure => simp [intOf]; omega
    · obtain rfl : g = 14 := by omega
      have hcv := conv a' len cap' L wr hL hrd hnil
      clear hpp hrd hread hnil hb
      go_wp2_with (go_at_call 11; refine (zzchild_key _ κ _ _ _ _ _ (key_of L |>.trans HK.out) hcv).mono ?_; rintro e w'' ⟨rfl, rfl⟩)
      go_ret
      exact ⟨by simp, hbel.trans (hbw.mono hbel.size)⟩


set_option maxHeartbeats 1000000 in
theorem law_out (f : Int) (hn : ¬ (0 ≤ fn f ∧ fn f < 3)) (hr : -1 ≤ fn f ∧ fn f ≤ 3) (a : Option Addr) (len cap : Nat) (L : List Int) (w : World) (hL : L.length = len) (hlen : len ≤ 1048576)
    (hcl : Calls Try.prog 8 #[.slice a len cap] w fun e w' => ∃ a' cap', e = .returned (.slice a' len cap') ∧
      (0 < len → ∃ g, a' = some ⟨g, 0, none⟩ ∧ ∀ i, i < len → w'.cell? ⟨g, i, none⟩ = some (.int .u8 (L.getD i 0))) ∧ (len = 0 → a' = none ∨ ∃ g, a' = some ⟨g, 0, none⟩) ∧ Below w.heap.size w w') :
    Calls Try.prog 3 #[.int .i64 f, .slice a len cap] w fun e w' => e = .returned (.bool true) ∧ Below w.heap.size w w' := by
  have hdl : decide ((1048576 : Int) < (len : Int)) = false := by simp; omega
  have hfin : childOf f (keyOf L) = 0 := fin0 f _ hn
  have HF : Hid _ := hfin
  clear hfin
  rcases (show fn f = -1 ∨ fn f = 3 from by omega) with h | h
  all_goals
    have hpath : ∀ w, _ := fun w => path_lit f _ h w
    clear h hn hr
    go_enter Try.func3, Try.ntmps3
    go_wp2_with (first | (go_at_call 7; refine (zzc_yes _ _ _ _ hlen _).mono ?_; rintro e w' ⟨rfl, rfl⟩) | (go_at_call 8; refine hcl.mono ?_; rintro e w1 ⟨a', cap', rfl, hread, hnil, hbel⟩; clear hcl) | (go_at_call 9; refine (hpath _).mono ?_; rintro e w2 ⟨rfl, rfl⟩) | (go_at_call 11; refine (zzchild_zero f _ _ _ _ _ (by rw [key_of]; exact HF.out) (conv _ _ _ L _ hL (below_read (two_below _ f) hread) hnil)).mono ?_; rintro e w'' ⟨rfl, rfl⟩))
    go_ret
    exact ⟨rfl, hbel.trans ((two_below _ f).mono hbel.size)⟩

theorem clone_key (a : Option Addr) (len cap : Nat) (zs : List Int) (w : World) (hlen : len ≤ 1048576)
    (hrow : (a = none ∧ len = 0 ∧ cap = 0) ∨ ∃ x, a = some x ∧ len ≤ zs.length ∧ ∀ i, i < zs.length → w.cell? (x.add i) = some (.int .u8 (zs.getD i 0))) :
    Calls Try.prog 8 #[.slice a len cap] w fun e w' => ∃ a' cap', e = .returned (.slice a' len cap') ∧
      (0 < len → ∃ g, a' = some ⟨g, 0, none⟩ ∧ ∀ i, i < len → w'.cell? ⟨g, i, none⟩ = some (.int .u8 ((zs.take len).getD i 0))) ∧ (len = 0 → a' = none ∨ ∃ g, a' = some ⟨g, 0, none⟩) ∧ Below w.heap.size w w' := by
  rcases hrow with ⟨rfl, rfl, rfl⟩ | ⟨x, rfl, hl, hc⟩
  · refine (clone_nil w).mono ?_
    rintro e w' ⟨rfl, rfl⟩
    exact ⟨none, 0, rfl, fun h => absurd h (by omega), fun _ => Or.inl rfl, Below.refl _ _⟩
  · refine (clone_row x len cap zs w hl hlen fun i hi => hc i (by omega)).mono ?_
    rintro e w' ⟨rfl, rfl⟩
    refine ⟨_, _, rfl, fun _ => ⟨w.heap.size, rfl, fun i hi => ?_⟩, fun _ => Or.inr ⟨_, rfl⟩, (Below.refl _ _).alloc (Nat.le_refl _) _⟩
    rw [World.cell?_alloc_at (w := w) _ _ _ _ rfl]
    exact rowU8_at _ i (by simp; omega)

theorem fn_range (f : Int) : -1 ≤ fn f ∧ fn f ≤ 3 := by
  by_cases hg : 1 ≤ f ∧ f ≤ 13
  · obtain ⟨k, rfl⟩ : ∃ k : Nat, f = k := ⟨f.toNat, by omega⟩
    have hk : k = 1 ∨ k = 2 ∨ k = 3 ∨ k = 4 ∨ k = 5 ∨ k = 6 ∨ k = 7 ∨ k = 8 ∨ k = 9 ∨ k = 10 ∨ k = 11 ∨ k = 12 ∨ k = 13 := by omega
    rcases hk with rfl | rfl | rfl | rfl | rfl | rfl | rfl | rfl | rfl | rfl | rfl | rfl | rfl <;> decide
  · rw [(path_other f hg).2]; decide

theorem law (f : Int) (a : Option Addr) (len cap : Nat) (zs : List Int) (w : World) (hlen : len ≤ 1048576)
    (hwf : ∀ n ∈ zs, (Lit.int .u8 n).wf = true)
    (hrow : (a = none ∧ len = 0 ∧ cap = 0) ∨ ∃ x, a = some x ∧ len ≤ zs.length ∧ ∀ i, i < zs.length → w.cell? (x.add i) = some (.int .u8 (zs.getD i 0))) :
    Calls Try.prog 3 #[.int .i64 f, .slice a len cap] w fun e w' => e = .returned (.bool true) ∧ Below w.heap.size w w' := by
  have hL : (zs.take len).length = len := by
    rcases hrow with ⟨_, rfl, _⟩ | ⟨x, _, hl, _⟩ <;> simp; omega
  have hb : ∀ i, i < len → 0 ≤ (zs.take len).getD i 0 ∧ (zs.take len).getD i 0 ≤ 255 := by
    intro i hi
    have hm : (zs.take len).getD i 0 ∈ zs.take len := by
      rw [List.getD, List.getElem?_eq_getElem (by omega)]
      exact List.getElem_mem _
    exact bounds_u8 (hwf _ (List.mem_of_mem_take hm))
  have hr := fn_range f
  by_cases hn : 0 ≤ fn f ∧ fn f < 3
  · exact law_in f (fn f).toNat (by omega) (by omega) a len cap _ w hL hlen hb (clone_key a len cap zs w hlen hrow)
  · exact law_out f hn hr a len cap _ w hL hlen (clone_key a len cap zs w hlen hrow)

end Go.Proofs.Qxb6605441a.Child
