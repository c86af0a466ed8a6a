import Derived.Test.Qxb6605441aBase
import Derived.Test.Qxb6605441aBlank
import Derived.Laws.BytesArg
import Derived.Deep.QuietTactic
import Derived.BigQuiet
namespace Go.Proofs.Qxb6605441a.Child
open Go.ChangeShapes Go.WideShapes Go.ChangeAt Go.RowKit
open Go.Proofs.Qxb6605441a.Base
open Go.Proofs.Qxb6605441a.Blank (ret_bool clone_any)

/-! ### the plain tables -/
def kApi : List UInt8 := [97, 112, 105, 86, 101, 114, 115, 105, 111, 110]
def kKind : List UInt8 := [107, 105, 110, 100]
def kType : List UInt8 := [116, 121, 112, 101]
def kMeta : List UInt8 := [109, 101, 116, 97, 100, 97, 116, 97]
def kName : List UInt8 := [110, 97, 109, 101]
def kSpace : List UInt8 := [110, 97, 109, 101, 115, 112, 97, 99, 101]
def kLabels : List UInt8 := [108, 97, 98, 101, 108, 115]
def kOwner : List UInt8 := [111, 119, 110, 101, 114]
def kAnnot : List UInt8 := [97, 110, 110, 111, 116, 97, 116, 105, 111, 110, 115]
def kLast : List UInt8 := [107, 117, 98, 101, 99, 116, 108, 46, 107, 117, 98, 101, 114, 110, 101, 116, 101, 115, 46, 105, 111, 47, 108, 97, 115, 116, 45, 97, 112, 112, 108, 105, 101, 100, 45, 99, 111, 110, 102, 105, 103, 117, 114, 97, 116, 105, 111, 110]
def kData : List UInt8 := [100, 97, 116, 97]
def kRel : List UInt8 := [114, 101, 108, 101, 97, 115, 101]
def tab : List (List (List UInt8)) := [[], [], [kApi], [kKind], [kType], [kMeta], [kMeta, kName], [kMeta, kSpace], [kMeta, kLabels], [kMeta, kLabels, kOwner], [kMeta, kAnnot], [kMeta, kAnnot, kLast], [kData], [kData, kRel]]
def tabN : List Int := [-1, 0, 1, 1, 1, 1, 2, 2, 2, 3, 2, 3, 1, 2]
def fpl (g : Int) (i : Nat) : List UInt8 := (tab.getD g.toNat []).getD i []
def fp (g : Int) (i : Nat) : ByteArray := ⟨(fpl g i).toArray⟩
def fn (g : Int) : Int := tabN.getD g.toNat (-1)

def childOf (f : Int) (κ : List UInt8) : Int :=
  if f = 1 then (if (κ == kApi) = true then 2 else if (κ == kKind) = true then 3 else if (κ == kType) = true then 4 else if (κ == kMeta) = true then 5 else if (κ == kData) = true then 12 else 0)
  else if f = 5 then (if (κ == kName) = true then 6 else if (κ == kSpace) = true then 7 else if (κ == kLabels) = true then 8 else if (κ == kAnnot) = true then 10 else 0)
  else if f = 8 then (if (κ == kOwner) = true then 9 else 0)
  else if f = 10 then (if (κ == kLast) = true then 11 else 0)
  else if f = 12 then (if (κ == kRel) = true then 13 else 0)
  else 0

theorem ret_int {k : IntKind} {a b : Int} (h : a = b) : Ending.returned (.int k a) = .returned (.int k b) := by rw [h]

theorem child_any (f : Int) (a : Option Addr) (len cap : Nat) (K : ByteArray) (w : World)
   (hcv : (convert 22 9 (.slice a len cap)).run Try.prog w = .ok (.string K) w) :
    Calls Try.prog 18 #[.int .i64 f, .slice a len cap] w fun e w' => e = .returned (.int .i64 (childOf f K.toList)) ∧ w' = w := by
  by_cases h1 : f = 1
  · subst h1
    go_enter Try.func18, Try.ntmps18
    go_wp2
    all_goals (go_ret; exact ⟨ret_int (by simp [childOf, kApi, kKind, kType, kMeta, kData, *]), rfl⟩)
  · by_cases h5 : f = 5
    · subst h5
      go_enter Try.func18, Try.ntmps18
      go_wp2
      all_goals (go_ret; exact ⟨ret_int (by simp [childOf, kName, kSpace, kLabels, kAnnot, *]), rfl⟩)
    · by_cases h8 : f = 8
      · subst h8
        go_enter Try.func18, Try.ntmps18
        go_wp2
        all_goals (go_ret; exact ⟨ret_int (by simp [childOf, kOwner, *]), rfl⟩)
      · by_cases h10 : f = 10
        · subst h10
          go_enter Try.func18, Try.ntmps18
          go_wp2
          all_goals (go_ret; exact ⟨ret_int (by simp [childOf, kLast, *]), rfl⟩)
        · by_cases h12 : f = 12
          · subst h12
            go_enter Try.func18, Try.ntmps18
            go_wp2
            all_goals (go_ret; exact ⟨ret_int (by simp [childOf, kRel, *]), rfl⟩)
          · have e0 : childOf f K.toList = 0 := by simp [childOf, h1, h5, h8, h10, h12]
            rw [e0]
            have b1 : (f == 1) = false := by simpa using h1
            have b5 : (f == 5) = false := by simpa using h5
            have b8 : (f == 8) = false := by simpa using h8
            have b10 : (f == 10) = false := by simpa using h10
            have b12 : (f == 12) = false := by simpa using h12
            clear h1 h5 h8 h10 h12 e0
            go_enter Try.func18, Try.ntmps18
            go_wp2
            go_ret
            exact ⟨rfl, rfl⟩

theorem zzchild_any (f : Int) (a : Option Addr) (len cap : Nat) (K : ByteArray) (w : World)
   (hcv : (convert 22 9 (.slice a len cap)).run Try.prog w = .ok (.string K) w) :
    Calls Try.prog 11 #[.int .i64 f, .slice a len cap] w fun e w' => e = .returned (.int .i64 (childOf f K.toList)) ∧ w' = w := by
  go_enter Try.func11, Try.ntmps11
  go_wp2_with (go_at_call 18; refine (child_any _ _ _ _ K _ hcv).mono ?_; rintro e w' ⟨rfl, rfl⟩)
  go_ret
  exact ⟨rfl, rfl⟩

def pathCells (g : Int) : Array Value := #[.string (fp g 0), .string (fp g 1), .string (fp g 2)]

theorem path_other (g : Int) (hg : ¬ (1 ≤ g ∧ g ≤ 13)) : pathCells g = #[.string ⟨#[]⟩, .string ⟨#[]⟩, .string ⟨#[]⟩] ∧ fn g = -1 := by
  by_cases h : g ≤ 0
  · have e : g.toNat = 0 := by omega
    simp [pathCells, fn, fp, fpl, e, tab, tabN]
  · have e : ∃ n, g.toNat = 14 + n := ⟨g.toNat - 14, by omega⟩
    obtain ⟨n, e⟩ := e
    have e1 : tab.getD g.toNat [] = [] := by rw [e]; simp [tab, List.getD]
    have e2 : tabN.getD g.toNat (-1) = -1 := by rw [e]; simp [tabN, List.getD]
    unfold pathCells fn fp fpl
    rw [e1, e2]
    exact ⟨rfl, rfl⟩

theorem path_any (g : Int) (w : World) :
    Calls Try.prog 9 #[.int .i64 g] w fun e w' => e = .returned (.tuple #[.agg (pathCells g), .int .i64 (fn g)]) ∧ w' = w.alloc (.cells (pathCells g) 25) := by
  by_cases hg : 1 ≤ g ∧ g ≤ 13
  · obtain ⟨k, rfl⟩ : ∃ k : Nat, g = k := ⟨g.toNat, by omega⟩
    have hk : k = 1 ∨ k = 2 ∨ k = 3 ∨ k = 4 ∨ k = 5 ∨ k = 6 ∨ k = 7 ∨ k = 8 ∨ k = 9 ∨ k = 10 ∨ k = 11 ∨ k = 12 ∨ k = 13 := by omega
    clear hg
    rcases hk with rfl | rfl | rfl | rfl | rfl | rfl | rfl | rfl | rfl | rfl | rfl | rfl | rfl
    all_goals
      go_enter Try.func9, Try.ntmps9
      go_wp2
      exact bodyPost_ret (v := .tuple #[.agg (pathCells _), .int .i64 (fn _)]) (by simp [results, Try.results9, go_sem]; exact ⟨rfl, rfl⟩) rfl ⟨rfl, rfl⟩
  · obtain ⟨e1, e2⟩ := path_other g hg
    rw [e1, e2]
    have b1 : (g == 1) = false := by simp; omega
    have b2 : (g == 2) = false := by simp; omega
    have b3 : (g == 3) = false := by simp; omega
    have b4 : (g == 4) = false := by simp; omega
    have b5 : (g == 5) = false := by simp; omega
    have b6 : (g == 6) = false := by simp; omega
    have b7 : (g == 7) = false := by simp; omega
    have b8 : (g == 8) = false := by simp; omega
    have b9 : (g == 9) = false := by simp; omega
    have b10 : (g == 10) = false := by simp; omega
    have b11 : (g == 11) = false := by simp; omega
    have b12 : (g == 12) = false := by simp; omega
    have b13 : (g == 13) = false := by simp; omega
    clear hg e1 e2
    go_enter Try.func9, Try.ntmps9
    go_wp2
    exact bodyPost_ret (v := .tuple #[.agg #[.string ⟨#[]⟩, .string ⟨#[]⟩, .string ⟨#[]⟩], .int .i64 (-1)]) (by simp [results, Try.results9, go_sem]) rfl ⟨rfl, rfl⟩

/-! ### sameText -/
def keyOf (L : List Int) : List UInt8 := L.map fun n => UInt8.ofNat n.toNat

theorem sm_len (L : List Int) (s : ByteArray) (h : ¬ s.size = L.length) : (keyOf L == s.toList) = false := by
  rw [beq_eq_false_iff_ne]
  intro e
  have := congrArg List.length e
  rw [ByteArray.toList_eq] at this
  simp [keyOf] at this
  exact h (by omega)
theorem sm_no (L : List Int) (s : ByteArray) (k : Nat) (x : Int) (hk : k < s.size) (hx : L.getD k 0 = x) (h0 : 0 ≤ x) (h1 : x ≤ 255) (h : (x != (s[k].toNat : Int)) = true) : (keyOf L == s.toList) = false := by
  rw [beq_eq_false_iff_ne]
  intro e
  rw [ByteArray.toList_eq] at e
  have hl : L.length = s.size := by have := congrArg List.length e; simpa [keyOf] using this
  have e1 : (keyOf L)[k]? = some (UInt8.ofNat x.toNat) := by
    subst hx
    simp [keyOf, show k < L.length from by omega]
  have e2 : s.data.toList[k]? = some s[k] := by
    rw [Array.getElem?_toList, Array.getElem?_eq_getElem (show k < s.data.size from hk)]; rfl
  rw [e, e2] at e1
  have e3 : s[k].toNat = (UInt8.ofNat x.toNat).toNat := by rw [Option.some.inj e1]
  rw [UInt8.toNat_ofNat'] at e3
  rw [bne_iff_ne] at h
  apply h
  omega
theorem sm_yes (L : List Int) (s : ByteArray) (hl : s.size = L.length) (h : ∀ j, j < L.length → L.getD j 0 = ((s.data.toList.getD j 0).toNat : Int)) : (keyOf L == s.toList) = true := by
  rw [beq_iff_eq, ByteArray.toList_eq]
  apply List.ext_getElem
  · simpa [keyOf] using hl.symm
  · intro i h1 h2
    have hi : i < L.length := by simpa [keyOf] using h1
    have := h i hi
    have e : L.getD i 0 = L[i] := by simp [hi]
    have e' : s.data.toList.getD i 0 = s.data.toList[i] := by rw [List.getD, List.getElem?_eq_getElem h2]; rfl
    rw [e, e'] at this
    simp [keyOf, this]
theorem sm_step (L : List Int) (s : ByteArray) (k : Nat) (x : Int) (hk : k < s.size) (hx : L.getD k 0 = x) (h : (x != (s[k].toNat : Int)) = false)
    (hp : ∀ j, j < k → L.getD j 0 = ((s.data.toList.getD j 0).toNat : Int)) : ∀ j, j < k + 1 → L.getD j 0 = ((s.data.toList.getD j 0).toNat : Int) := by
  intro j hj
  by_cases e : j = k
  · subst e
    have e2 : s.data.toList.getD j 0 = s[j] := by
      rw [List.getD, Array.getElem?_toList, Array.getElem?_eq_getElem (show j < s.data.size from hk)]; rfl
    rw [hx, e2]
    simpa using h
  · exact hp j (by omega)

set_option maxHeartbeats 400000 in
theorem same_any (a : Option Addr) (len cap : Nat) (L : List Int) (s : ByteArray) (w : World) (hL : L.length = len) (hs : s.size ≤ 1048576)
    (hb : ∀ i, i < len → 0 ≤ L.getD i 0 ∧ L.getD i 0 ≤ 255)
    (hread : 0 < len → ∃ g, a = some ⟨g, 0, none⟩ ∧ ∀ i, i < len → w.cell? ⟨g, i, none⟩ = some (.int .u8 (L.getD i 0))) :
    Calls Try.prog 10 #[.slice a len cap, .string s] w fun e w' => e = .returned (.bool (keyOf L == s.toList)) ∧ ∃ n, w' = w.drewN n := by
  by_cases hsz : s.size = len
  · have hz : ((len : Int) != (s.size : Int)) = false := by simp; omega
    go_enter Try.func10, Try.ntmps10
    go_wp2
    go_loopw [5] (fun i wr => ∃ k : Nat, k ≤ len ∧ i = .int .i64 k ∧ (∀ j, j < k → L.getD j 0 = ((s.data.toList.getD j 0).toNat : Int)) ∧ ∃ n, wr = w.drewN n) (fun i _ => len - (intOf i).toNat)
    case atStart => exact ⟨0, by omega, rfl, fun j hj => absurd hj (by omega), 0, rfl⟩
    case round =>
      obtain ⟨k, hk, rfl, hpre, n, rfl⟩ := hrel
      have HP : Hid _ := hpre
      clear hpre
      by_cases hlt : k < len
      · obtain ⟨g, rfl, hc⟩ := hread (by omega)
        have hck := hc k hlt
        have hbk := hb k hlt
        clear hc hread hb
        have hks : k < s.size := by omega
        have hki : (k : Int) < (s.size : Int) := by omega
        generalize hx : L.getD k 0 = x at hck hbk
        have HX : Hid _ := hx
        clear hx
        go_wp2
        go_quiet (fail)
        go_wp2
        · go_ret
          exact ⟨ret_bool (sm_no L s k x hks HX.out hbk.1 hbk.2 ‹_›).symm, n + nq, by simp⟩
        · go_roundw
          case rel => exact ⟨k + 1, by omega, by go_num, sm_step L s k x hks HX.out ‹_› HP.out, _, rfl⟩
          case measure => simp [intOf]; omega
      · clear hb
        go_wp2
        go_ret
        exact ⟨ret_bool (sm_yes L s (by omega) (fun j hj => HP.out j (by omega))).symm, _, rfl⟩
  · have hz : ((len : Int) != (s.size : Int)) = true := by simp; omega
    clear hb hread
    go_enter Try.func10, Try.ntmps10
    go_wp2
    go_ret
    exact ⟨ret_bool (sm_len L s (by omega)).symm, 0, rfl⟩

end Go.Proofs.Qxb6605441a.Child
