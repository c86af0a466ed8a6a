/- The proof of 'Rows.FnHunksAgreeWithAnchorModelSaid': the frame after the guide's own way. -/
import Derived.Test.Qxb6605269aAgreeLaw
import Derived.ShutString
import Derived.ChangeOld
import Derived.Below
import Derived.SliceStrings
import Derived.Deep.Grids
namespace Go.Proofs.Qxb6605269a.fnHunksAgreeWithAnchorModel
open Go.ChangeShapes Go.WideShapes Go.ChangeAt Go.RowKit
set_option linter.unusedVariables false

theorem own : ownKnob Try.prog.godebug = none := by kernel_rfl
theorem laidOut : laidOutB Try.prog = true := by kernel_rfl

/-- what the walk is told of a slice of strings that came in -/
structure IsStrs (w : World) (a : Option Addr) (len cap : Nat) (L : Nat → ByteArray) : Prop where
  sh : MarkLaw.Shape a len cap
  rd : Strs.Rd w a len L
  mx : len ≤ 9223372036854775807
  sz : ∀ i, i < len → (L i).size ≤ 9223372036854775807
/-- .. of a slice of Booleans -/
structure IsBools (w : World) (a : Option Addr) (len cap : Nat) (L : Nat → Bool) : Prop where
  sh : MarkLaw.Shape a len cap
  rd : HunkBools.RdB w a len L
  mx : len ≤ 9223372036854775807

theorem isStrs {H : Type} {enc : TypeId × Value → H} {W : World} {a : Option Addr} {len cap fuel : Nat} {x : DataW H × List MemPlace}
    (hf : DataW.trod enc Try.prog W 0 (fun _ => true) true fuel 28 (Value.cells (.slice a len cap)).toList = some x) : ∃ L, IsStrs W a len cap L := by
  rcases open_strings Try.underlying28 Try.underlying9 (by kernel_rfl) hf with ⟨hcs, _⟩ | ⟨ad, l, c, ss, hcs, _, hl, hm, hz, _, hcell, hws⟩
  · simp [Value.cells] at hcs
    obtain ⟨rfl, rfl, rfl⟩ := hcs
    exact ⟨fun _ => ByteArray.empty, Or.inl ⟨rfl, rfl, rfl⟩, fun h => absurd h (by omega), by omega, fun i hi => absurd hi (by omega)⟩
  · simp [Value.cells] at hcs
    obtain ⟨rfl, rfl, rfl⟩ := hcs
    have hz' : ss.length = cap := by simpa using hz
    refine ⟨fun i => ss.getD i ByteArray.empty, Or.inr ⟨_, rfl⟩, ?_, by unfold maxLen at hm; omega, ?_⟩
    · intro h0
      obtain ⟨b, off, spot⟩ := ad
      have hs : spot = none := by simpa [Addr.add] using World.cell?_spot (hcell 0 (by omega))
      subst hs
      exact ⟨b, off, rfl, fun i hi => by rw [← add_plain]; exact hcell i (by omega)⟩
    · intro i hi
      have hmem : ss.getD i ByteArray.empty ∈ ss := by
        rw [List.getD, List.getElem?_eq_getElem (by omega)]
        exact List.getElem_mem _
      have := hws _ hmem
      unfold maxLen at this; omega

theorem isBools {H : Type} {enc : TypeId × Value → H} {W : World} {a : Option Addr} {len cap fuel : Nat} {x : DataW H × List MemPlace}
    (hf : DataW.trod enc Try.prog W 0 (fun _ => true) true fuel 34 (Value.cells (.slice a len cap)).toList = some x) : ∃ L, IsBools W a len cap L := by
  rcases Deep.open_bools Try.underlying34 Try.underlying4 (by kernel_rfl) hf with ⟨hcs, _⟩ | ⟨ad, l, c, B, hcs, _, hl, hm, _, hcell⟩
  · simp [Value.cells] at hcs
    obtain ⟨rfl, rfl, rfl⟩ := hcs
    exact ⟨fun _ => false, Or.inl ⟨rfl, rfl, rfl⟩, fun h => absurd h (by omega), by omega⟩
  · simp [Value.cells] at hcs
    obtain ⟨rfl, rfl, rfl⟩ := hcs
    refine ⟨B, Or.inr ⟨_, rfl⟩, ?_, by unfold maxLen at hm; omega⟩
    intro h0
    obtain ⟨b, off, spot⟩ := ad
    have hs : spot = none := by simpa [Addr.add] using World.cell?_spot (hcell 0 (by omega))
    subst hs
    exact ⟨b, off, rfl, fun i hi => by rw [← add_plain]; exact hcell i (by omega)⟩

theorem walk (a0 : Option Addr) (len0 cap0 : Nat) (L0 : Nat → ByteArray) (a1 : Option Addr) (len1 cap1 : Nat) (L1 : Nat → ByteArray) (a2 : Option Addr) (len2 cap2 : Nat) (L2 : Nat → Bool) (a3 : Option Addr) (len3 cap3 : Nat) (L3 : Nat → Bool) (w : World)
    (w0 : IsStrs w a0 len0 cap0 L0) (w1 : IsStrs w a1 len1 cap1 L1) (w2 : IsBools w a2 len2 cap2 L2) (w3 : IsBools w a3 len3 cap3 L3) :
    Calls Try.prog 5 #[.slice a0 len0 cap0, .slice a1 len1 cap1, .slice a2 len2 cap2, .slice a3 len3 cap3] w fun e w' => e = .returned (.bool true) ∧ Below w.heap.size w w' :=
  AgreeLaw.law L0 L1 L2 L3 a0 a1 a2 a3 len0 cap0 len1 cap1 len2 cap2 len3 cap3 w w0.mx w1.mx w2.mx w3.mx w0.sz w1.sz w0.sh w1.sh w2.sh w3.sh w0.rd w1.rd w2.rd w3.rd

set_option maxRecDepth 100000 in
theorem lifted (os : Os) (started : os.Started) (H : Type) (enc : TypeId × Value → H) :
    ReturnsInHanded {} Try.checked os 5 .any (Rows.fnHunksAgreeWithAnchorModelSpec.pre6 enc Try.prog Try.f5 Rows.fnHunksAgreeWithAnchorModelRow.domain false) (Rows.fnHunksAgreeWithAnchorModelSpec.post enc Try.prog Try.f5 false true false false) := by
  refine returnsInHanded_of_change (C := Try.checked) own started (by kernel_rfl) Try.func5
    (ChangeSpec.witness6 (enc := enc) (C := Try.checked) false ⟨#[], #[.slice none 0 0, .slice none 0 0, .slice none 0 0, .slice none 0 0], []⟩ 8 (by kernel_rfl) (by kernel_rfl) (by kernel_rfl) (by kernel_rfl)) ?_
  intro W base args ds gs before hval0 hW hcnd _
  have hval : ∀ (j : Nat) t v, Try.f5.params[j]? = some t → args[j]? = some v → Value.okWide Try.prog W .any base t v := hval0
  have hW' := hW
  obtain ⟨p, q, hA0, hV, rfl, hfz, hnd⟩ := hW
  have hA : DataW.TrodAll enc Try.prog W 0 (fun _ => true) true Try.f5.params.toList args.toList ds p := hA0
  rw [Try.params5] at hA hval
  obtain ⟨v0, vs0, d0, ds0, p0, q0, hargs, rfl, rfl, h0, r0⟩ := trodAll_cons hA
  obtain ⟨v1, vs1, d1, ds1, p1, q1, rfl, rfl, rfl, h1, r1⟩ := trodAll_cons r0
  obtain ⟨v2, vs2, d2, ds2, p2, q2, rfl, rfl, rfl, h2, r2⟩ := trodAll_cons r1
  obtain ⟨v3, vs3, d3, ds3, p3, q3, rfl, rfl, rfl, h3, r3⟩ := trodAll_cons r2
  obtain ⟨rfl, rfl, rfl⟩ := trodAll_nil r3
  obtain rfl : args = #[v0, v1, v2, v3] := by cases args; simp_all
  obtain ⟨rfl, rfl⟩ := trodVars_none hV
  obtain ⟨a0, len0, cap0, rfl⟩ := okWide_slice Try.underlying28 (hval 0 28 v0 rfl rfl)
  have k0 := h0
  have lt0 : ∀ x ∈ p0, x.block < W.heap.size := by obtain ⟨m, hm⟩ := k0; exact DataW.trod_lt m _ _ _ hm
  obtain ⟨L0, w0⟩ : ∃ L, IsStrs W a0 len0 cap0 L := by obtain ⟨fuel, hf⟩ := h0; exact isStrs hf
  obtain ⟨a1, len1, cap1, rfl⟩ := okWide_slice Try.underlying28 (hval 1 28 v1 rfl rfl)
  have k1 := h1
  have lt1 : ∀ x ∈ p1, x.block < W.heap.size := by obtain ⟨m, hm⟩ := k1; exact DataW.trod_lt m _ _ _ hm
  obtain ⟨L1, w1⟩ : ∃ L, IsStrs W a1 len1 cap1 L := by obtain ⟨fuel, hf⟩ := h1; exact isStrs hf
  obtain ⟨a2, len2, cap2, rfl⟩ := okWide_slice Try.underlying34 (hval 2 34 v2 rfl rfl)
  have k2 := h2
  have lt2 : ∀ x ∈ p2, x.block < W.heap.size := by obtain ⟨m, hm⟩ := k2; exact DataW.trod_lt m _ _ _ hm
  obtain ⟨L2, w2⟩ : ∃ L, IsBools W a2 len2 cap2 L := by obtain ⟨fuel, hf⟩ := h2; exact isBools hf
  obtain ⟨a3, len3, cap3, rfl⟩ := okWide_slice Try.underlying34 (hval 3 34 v3 rfl rfl)
  have k3 := h3
  have lt3 : ∀ x ∈ p3, x.block < W.heap.size := by obtain ⟨m, hm⟩ := k3; exact DataW.trod_lt m _ _ _ hm
  obtain ⟨L3, w3⟩ : ∃ L, IsBools W a3 len3 cap3 L := by obtain ⟨fuel, hf⟩ := h3; exact isBools hf
  clear hA0 hval0
  refine (walk a0 len0 cap0 L0 a1 len1 cap1 L1 a2 len2 cap2 L2 a3 len3 cap3 L3 W w0 w1 w2 w3).mono fun e W' ⟨he, bel⟩ => ?_
  subst he
  exact ⟨_, rfl, _, _, _, [], _, [], hW', trodAll_mk1 (shut_bool Try.underlying4 _), (trodAll_cons_mk (Below.trod laidOut (by kernel_rfl) (of_decide_eq_true (by kernel_rfl)) k0 bel lt0) (trodAll_cons_mk (Below.trod laidOut (by kernel_rfl) (of_decide_eq_true (by kernel_rfl)) k1 bel lt1) (trodAll_cons_mk (Below.trod laidOut (by kernel_rfl) (of_decide_eq_true (by kernel_rfl)) k2 bel lt2) (trodAll_cons_mk (Below.trod laidOut (by kernel_rfl) (of_decide_eq_true (by kernel_rfl)) k3 bel lt3) trodAll_mk0)))), rfl, bel.frame _, fun h => by cases h⟩

theorem over : Rows.fnHunksAgreeWithAnchorModelRow.holds Try.pinned (OpenSpec.ofChange Rows.fnHunksAgreeWithAnchorModelSpec) :=
  OpenClaim.holds_of_wide 5 Try.f5 rfl rfl rfl rfl rfl rfl rfl ⟨rfl, rfl, rfl, rfl, rfl⟩ rfl rfl rfl rfl rfl (by kernel_rfl) Try.func5 (by kernel_rfl)
    (of_decide_eq_true (by kernel_rfl)) (by unfold Func.isWrapper; first | (rw [if_pos (by decide +kernel)]; kernel_rfl) | (rw [if_neg (by decide +kernel)]; exact ⟨rfl, rfl⟩))
    (fun os started H enc _ => lifted os started H enc)

/-- THE STATEMENT -/
theorem proved : Rows.FnHunksAgreeWithAnchorModelSaid := over
#print axioms proved
end Go.Proofs.Qxb6605269a.fnHunksAgreeWithAnchorModel
