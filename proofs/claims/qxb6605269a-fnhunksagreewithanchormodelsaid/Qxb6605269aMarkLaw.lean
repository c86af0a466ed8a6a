import Derived.Test.Qxb6605269aMark
import Derived.Lib.Strings
namespace Go.Proofs.Qxb6605269a.MarkLaw
open Go.ChangeShapes Go.WideShapes Go.ChangeAt Go.RowKit
open Go.Proofs.Qxb6605269a.Lcs (hide rowIs_drewN)
open Go.Proofs.Qxb6605269a.Strs
open Go.Proofs.Qxb6605269a.Mark

/-! ### the plain law -/
def tailE (mk : Int) (L : Nat → ByteArray) : Nat → Nat → List ByteArray
  | 0, _ => []
  | c + 1, k => entry mk (L k) ++ tailE mk L c (k + 1)
theorem entries_tail (mk : Int) (L : Nat → ByteArray) (c : Nat) : ∀ k, entries mk L (k + c) = entries mk L k ++ tailE mk L c k := by
  induction c with
  | zero => intro k; simp [tailE]
  | succ c ih =>
    intro k
    rw [show k + (c + 1) = (k + 1) + c from by omega, ih (k + 1), entries, tailE, List.append_assoc]

theorem getD_at (A B : List ByteArray) (x z : ByteArray) (i : Nat) (hi : i = A.length) : (A ++ (x :: B)).getD i z = x := by
  subst hi; simp [List.getD]
theorem getD_next (A B : List ByteArray) (x y z : ByteArray) (i : Nat) (hi : i = A.length) : (A ++ (x :: y :: B)).getD (i + 1) z = y := by
  subst hi; simp [List.getD]

/-- the first entry of a line -/
theorem entry_head (mk : Int) (s : ByteArray) : ∃ r, entry mk s = (Utf8.encode mk ++ cut s) :: r ∧ (ends s = true → r = []) ∧ (ends s = false → r = [nonl]) := by
  unfold entry
  cases h : ends s
  · exact ⟨[nonl], by simp, by simp, by simp⟩
  · exact ⟨[], by simp, by simp, by simp⟩

theorem got_here (mk : Int) (L : Nat → ByteArray) (H : List ByteArray) (n k : Nat) (hk : k < n) :
    (H ++ entries mk L n).getD (H.length + (entries mk L k).length) nonl = Utf8.encode mk ++ cut (L k) ∧ H.length + (entries mk L k).length < (H ++ entries mk L n).length ∧
    (ends (L k) = false → (H ++ entries mk L n).getD (H.length + (entries mk L k).length + 1) nonl = nonl ∧ H.length + (entries mk L k).length + 1 < (H ++ entries mk L n).length) ∧
    (ends (L k) = true → H.length + (entries mk L k).length + 1 < (H ++ entries mk L n).length → ∃ c, (H ++ entries mk L n).getD (H.length + (entries mk L k).length + 1) nonl = Utf8.encode mk ++ c) := by
  obtain ⟨c, rfl⟩ : ∃ c, n = k + (c + 1) := ⟨n - k - 1, by omega⟩
  have e := entries_tail mk L (c + 1) k
  rw [tailE] at e
  obtain ⟨r, hr, r1, r2⟩ := entry_head mk (L k)
  rw [hr, List.cons_append] at e
  rw [e, ← List.append_assoc]
  have hl : H.length + (entries mk L k).length = (H ++ entries mk L k).length := by simp
  rw [hl]
  refine ⟨getD_at _ _ _ _ _ rfl, by simp, ?_, ?_⟩
  · intro he
    rw [r2 he, List.singleton_append]
    exact ⟨getD_next _ _ _ _ _ _ rfl, by simp only [List.length_append, List.length_cons]; omega⟩
  · intro he hlt
    rw [r1 he, List.nil_append] at hlt ⊢
    match c, hlt with
    | 0, hlt => simp [tailE] at hlt; omega
    | c + 1, _ =>
      obtain ⟨r', hr', _, _⟩ := entry_head mk (L (k + 1))
      rw [tailE, hr', List.cons_append]
      exact ⟨cut (L (k + 1)), getD_next _ _ _ _ _ _ rfl⟩

theorem entries_lt (mk : Int) (L : Nat → ByteArray) (n k : Nat) (hk : k < n) : (entries mk L k).length < (entries mk L n).length := by
  obtain ⟨c, rfl⟩ : ∃ c, n = k + (c + 1) := ⟨n - k - 1, by omega⟩
  rw [entries_tail mk L (c + 1) k, tailE]
  obtain ⟨r, hr, _, _⟩ := entry_head mk (L k)
  rw [hr]; simp

/-! ### bytes -/
theorem ext_toList {a b : ByteArray} (h : a.data.toList = b.data.toList) : a = b := ByteArray.ext (Array.toList_inj.1 h)
theorem app_data (a b : ByteArray) : (a ++ b).data.toList = a.data.toList ++ b.data.toList := by simp
theorem app_head (p c : ByteArray) : (p ++ c).extract 0 p.size = p := by
  apply ext_toList
  rw [Lib.extract_data, app_data, List.drop_zero, Nat.sub_zero]
  exact List.take_left' (by simp)
theorem app_tail (p c : ByteArray) : (p ++ c).extract p.size (p ++ c).size = c := by
  apply ext_toList
  rw [Lib.extract_data, app_data, List.drop_left' (by simp)]
  exact List.take_of_length_le (by simp)
theorem cut_back (s : ByteArray) (h : ends s = true) : cut s ++ ⟨#[10]⟩ = s := by
  have h1 := ends_size s h
  have h2 : (s.extract (s.size - 1) s.size).toList = [10] := by
    simp only [ends, Bool.and_eq_true, beq_iff_eq] at h; exact h.2
  rw [ByteArray.toList_eq, Lib.extract_data] at h2
  have hl : s.data.toList.length = s.size := by simp
  rw [List.take_of_length_le (by simp)] at h2
  unfold cut
  rw [if_pos h]
  apply ext_toList
  rw [app_data, Lib.extract_data, List.drop_zero, Nat.sub_zero]
  show _ ++ [10] = _
  rw [← h2, List.take_append_drop]
theorem mtext_head (m : Nat) (hm : m < 256) (h : m ≠ 92) : ∃ x r, (mtext m).data.toList = x :: r ∧ x ≠ 92 := by
  unfold mtext
  split
  · refine ⟨UInt8.ofNat m, [], rfl, ?_⟩
    intro e
    have := congrArg UInt8.toNat e
    simp at this
    omega
  · refine ⟨UInt8.ofNat (192 + m / 64), [UInt8.ofNat (128 + m % 64)], rfl, ?_⟩
    intro e
    have := congrArg UInt8.toNat e
    simp at this
    omega
theorem marker_ne (mk : Int) (h0 : 0 ≤ mk) (h1 : mk ≤ 255) (h : mk ≠ 92) (c : ByteArray) : ((Utf8.encode mk ++ c).toList == nonl.toList) = false := by
  rw [beq_eq_false_iff_ne, ByteArray.toList_eq, ByteArray.toList_eq, encode_eq mk h0 h1, app_data]
  obtain ⟨x, r, e, hx⟩ := mtext_head mk.toNat (by omega) (by omega)
  rw [e]
  intro e2
  have : x = 92 := by
    have := congrArg List.head? e2
    simpa [nonl] using this
  exact hx this
end Go.Proofs.Qxb6605269a.MarkLaw
