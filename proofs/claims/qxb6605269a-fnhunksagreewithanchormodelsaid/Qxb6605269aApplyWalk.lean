import Derived.Test.Qxb6605269aApplyMath
import Derived.Deep.RegionHeld3
import Derived.Deep.DrawnRows
import Derived.BigQuiet
import Derived.Deep.CutBlock
set_option linter.unusedVariables false
set_option linter.unusedSimpArgs false
namespace Go.Proofs.Qxb6605269a.ApplyWalk
open Go.ChangeShapes Go.WideShapes Go.ChangeAt Go.RowKit
open Go.Proofs.Qxb6605269a.Lcs (hide rowIs_drewN info3)
open Go.Proofs.Qxb6605269a.Strs
open Go.Proofs.Qxb6605269a.Mark
open Go.Proofs.Qxb6605269a.MarkLaw (listOf listOf_len listOf_at app_tail marker_ne cut_back below_of_grown)
open Go.Proofs.Qxb6605269a.HunkMath
open Go.Proofs.Qxb6605269a.HunkMem
open Go.Proofs.Qxb6605269a.HunkGood
open Go.Proofs.Qxb6605269a.HunkStage
open Go.Proofs.Qxb6605269a.ApplyMath

theorem good_inv {rev : Bool} {X Y : Nat → ByteArray} {lx ly p q rest : Nat} {h : Hk} {hs : List Hk} (H : GoodR rev X Y lx ly p q (h :: hs) rest) : ∃ n f g p' q', f = p + n ∧ g = q + n ∧ (∀ k, k < n → X (p + k) = Y (q + k)) ∧ f ≤ lx ∧ g ≤ ly ∧ h.ub = n ∧
    hst rev h = HunkMath.start f p' ∧ hct rev h = p' - f ∧ hgi rev h = q' - g ∧ Eat X Y lx ly (tk rev) (gv rev) f g h.ops p' q' ∧ GoodR rev X Y lx ly p' q' hs rest := by
  exact H

/-- the text so far, and the copy of the hunk -/
structure St (Y : Nat → ByteArray) (w : World) (gh os ol ns nl ub : Nat) (vl : Value) (wx : World) (v : Value) (q : Nat) : Prop where
  out : Out Y w wx v q
  row : wx.rowIs gh 45 6 (hv os ol ns nl ub vl)
theorem St.drewN {Y : Nat → ByteArray} {w wx : World} {gh os ol ns nl ub q : Nat} {vl v : Value} (h : St Y w gh os ol ns nl ub vl wx v q) (z : Nat) : St Y w gh os ol ns nl ub vl (wx.drewN z) v q :=
  ⟨⟨own_below' h.out.own (below_drewN (Below.refl wx.heap.size _) z) (Nat.le_refl _), below_drewN h.out.below z⟩, rowIs_drewN h.row z⟩
theorem St.push {Y : Nat → ByteArray} {w wx w1 : World} {gh os ol ns nl ub q : Nat} {vl v v1 : Value} {t : TypeId} {x : ByteArray} (h : St Y w gh os ol ns nl ub vl wx v q) (hx : x = Y q) (hown : w1.ownsRow w.heap.size 9 1 v1 (q + 1) (Mark.strs (listOf Y q) ++ [.string x]))
    (hgrow : (wx.alloc (.cells #[.string x] t)).grownBy w1 v.ownBlock) : St Y w gh os ol ns nl ub vl w1 v1 (q + 1) := ⟨h.out.push hx hown hgrow, h.out.keep h.row hgrow⟩

/-- the first loop: the hunks Q are left, the old text is read up to p, the new one made up to q -/
def A1 (rev : Bool) (X Y : Nat → ByteArray) (lx ly rest : Nat) (hs : List Hk) (w : World) (g : Nat) (v11 v12 v13 : Value) (wr : World) : Prop :=
  ∃ (P Q : List Hk) (p q h : Nat), hs = P ++ Q ∧ g = Q.length ∧ h = P.length ∧ v13 = .int .i64 (h : Int) ∧ v12 = .int .i64 (p : Int) ∧ GoodR rev X Y lx ly p q Q rest ∧ Out Y w wr v11 q

theorem out_read {Y : Nat → ByteArray} {w wx : World} {v : Value} {q : Nat} (h : Out Y w wx v q) : ∃ a cap, v = .slice a q cap ∧ (0 < q → ∃ g, a = some ⟨g, 0, none⟩ ∧ ∀ i, i < q → wx.cell? ⟨g, i, none⟩ = some (.string (Y i))) := by
  have ho := h.own
  rw [show q = (listOf Y q).length from (listOf_len Y q).symm] at ho
  rw [listOf_len Y q] at ho
  have ho2 : wx.ownsRow w.heap.size 9 1 v (listOf Y q).length (Mark.strs (listOf Y q)) := by rw [listOf_len]; exact h.own
  obtain ⟨a, cap, e, hr⟩ := own_read ho2
  rw [listOf_len] at e hr
  refine ⟨a, cap, e, fun h0 => ?_⟩
  obtain ⟨g, e1, _, e3⟩ := hr h0
  refine ⟨g, e1, fun i hi => ?_⟩
  rw [e3 i hi, listOf_at Y q i nonl hi]

set_option maxRecDepth 100000 in
set_option maxHeartbeats 4000000 in
theorem apply_any (rev : Bool) (X Y : Nat → ByteArray) (a b aH : Option Addr) (lx ly cx cy cH : Nat) (hs : List Hk) (rest : Nat) (w : World)
    (m1 : lx ≤ 131072) (m2 : ly ≤ 131072) (rx : Rd w a lx X) (ry : Rd w b ly Y) (hH : hs.length ≤ maxLen) (rh : RdHs w aH hs) (good : GoodR rev X Y lx ly 0 0 hs rest)
    (s1 : ∀ i, i < lx → (X i).size ≤ 1048576) (s2 : ∀ i, i < ly → (Y i).size ≤ 1048576) :
    Calls Try.prog 24 #[.slice a lx cx, .slice b ly cy, .slice aH hs.length cH, .int .i64 (rest : Int), .bool rev] w fun e w' => e = .returned (.bool true) ∧ Below w.heap.size w w' := by
  obtain ⟨i0, hi, hz0, hz1, hz2⟩ := info_parts info9
  obtain ⟨wm, hmk, hownm, hgrm⟩ := run_make_own (P := Try.prog) w w.heap.size 28 9 i0 (.string ⟨#[]⟩) 1 Try.underlying28 hi hz0 hz1 .i64 .i64 ly (by rw [hz2]; omega) (by unfold maxLen; omega) (Nat.le_refl _)
  have RX := hide rx
  have RY := hide ry
  have RH := hide rh
  have GD := hide good
  have S1 := hide s1
  have S2 := hide s2
  have HO0 : Hid (Out Y w wm (.slice (some ⟨w.heap.size, 0, none⟩) 0 ly) 0) := ⟨hownm, below_of_grown hgrm (Nat.le_refl _) (fun k hk => by cases hk)⟩
  have hH2 : hs.length ≤ 9223372036854775807 := by unfold maxLen at hH; omega
  have HH := hide hH2
  obtain ⟨N, hN⟩ : ∃ N, hs.length = N := ⟨_, rfl⟩
  rw [hN]
  rw [hN] at hH2
  have HN := hide hN
  clear rx ry rh good s1 s2 hownm hgrm hH hN
  go_enter Try.func24, Try.ntmps24
  go_wp2_with fail
  go_loopg [11, 12, 13] hs.length (fun g v11 v12 v13 wr => A1 rev X Y lx ly rest hs w g v11 v12 v13 wr)
  case atStart => exact ⟨[], hs, 0, 0, 0, rfl, rfl, rfl, rfl, rfl, GD.out, HO0.out⟩
  case round =>
    obtain ⟨P, Q, p, q, h, hPQ, hg, hh, rfl, rfl, hgood, hout⟩ := hrel
    have HPQ := hide hPQ
    have HG := hide hg
    have HP := hide hh
    have GR := hide hgood
    have HO := hide hout
    have hhN : h + Q.length = N := by
      have := congrArg List.length hPQ
      simp only [List.length_append] at this
      have := HN.out; omega
    clear hPQ hg hh hgood hout HO0 hmk
    cases Q with
    | nil =>
      have hd : decide ((h : Int) < (N : Int)) = false := decide_eq_false (by simp only [List.length_nil] at hhN; omega)
      have hd' : decide (h < N) = false := decide_eq_false (by simp only [List.length_nil] at hhN; omega)
      obtain ⟨e1, e2, e3⟩ : p + rest = lx ∧ q + rest = ly ∧ ∀ k, k < rest → X (p + k) = Y (q + k) := by
        exact GR.out
      have HE3 := hide e3
      have hrest : (lx : Int) - (p : Int) = (rest : Int) := by omega
      have E1 := hide e1
      have E2 := hide e2
      have hpl : p ≤ lx := by omega
      clear e1 e2 e3 hhN GR HG
      go_wp2_with fail
      go_loopg [11, 12] rest (fun g v11 v12 wr => ∃ (k pk qk : Nat), k ≤ rest ∧ g = rest - k ∧ pk = p + k ∧ qk = q + k ∧ v12 = .int .i64 (pk : Int) ∧ Out Y w wr v11 qk)
      case atStart => exact ⟨0, p, q, by omega, rfl, rfl, rfl, rfl, HO.out⟩
      case round =>
        obtain ⟨k, pk, qk, hk, hg, hpk, hqk, rfl, hout⟩ := hrel
        have HG := hide hg
        have HPK := hide hpk
        have HQK := hide hqk
        have HOK := hide hout
        have hpl2 : pk ≤ lx := by have := E1.out; omega
        clear hg hpk hqk hout HO
        by_cases hlt : k < rest
        · have hd2 : (pk : Int) < (lx : Int) := by have := E1.out; have := HPK.out; omega
          obtain ⟨bx, ox, rfl, hcx⟩ := RX.out (by have := E1.out; omega)
          have hc := hcx pk (by omega)
          have hc' := (HOK.out.below.cell (World.block_lt_of_cell? _ _ hc)).trans hc
          have HXY : Hid (X pk = Y qk) := by rw [HPK.out, HQK.out]; exact HE3.out k hlt
          have hqb : qk + 1 ≤ 131072 := by have := E2.out; have := HQK.out; omega
          have hsz := HOK.out.below.size
          clear hc hcx
          go_wp2_with (at_builtin; refine wpList_append_own_at _ rfl (.tmp 186) (.tmp 191) 28 rfl w.heap.size 9 i0 (.string ⟨#[]⟩) 1 16 Try.underlying28 hi hz0 hz1 hz2 rfl (by decide) _ _ _ rfl (HOK.out.own.alloc _) _ 1 1 [.string (X pk)] rfl rfl ?c1 ?c2 ?c3 ?c4 ?c5 ?_)
          case c1 => exact one_new _ _ _
          case c2 => exact one_cell _
          case c3 => unfold maxLen; omega
          case c4 => omega
          case c5 => rw [World.size_alloc]; omega
          intro v1 w1 hown1 hgrow1 _ hblk1
          have HO1 := hide (HOK.out.push HXY.out hown1 hgrow1)
          clear hown1 hgrow1 hblk1 HOK
          go_wp2_with fail
          go_roundg (rest - (k + 1))
          case measure => have := HG.out; omega
          case rel => exact ⟨k + 1, pk + 1, qk + 1, by omega, rfl, by have := HPK.out; omega, by have := HQK.out; omega, by go_num, HO1.out⟩
        · have hke : k = rest := by omega
          have hd2 : (lx : Int) ≤ (pk : Int) := by have := E1.out; have := HPK.out; omega
          have hqe : qk = ly := by have := E2.out; have := HQK.out; omega
          subst hqe
          obtain ⟨aO, cO, rfl, hrO⟩ := out_read HOK.out
          have HRO := hide hrO
          clear hrO hke
          go_wp2_with fail
          have hbF := HOK.out.below
          have HBF := hide hbF
          clear hbF HOK
          go_loopw [28] (fun i wx => ∃ (k z : Nat), k ≤ qk ∧ i = .int .i64 k ∧ wx = wr.drewN z) (fun i _ => qk - (intOf i).toNat)
          case atStart => exact ⟨0, 0, by omega, rfl, rfl⟩
          case round =>
            obtain ⟨k5, z, hk5, rfl, rfl⟩ := hrel
            by_cases hl5 : k5 < qk
            · obtain ⟨gO, rfl, hcO⟩ := HRO.out (by omega)
              obtain ⟨bY, oY, rfl, hcY⟩ := RY.out (by omega)
              have q1 := hcO k5 hl5
              have q2 := (HBF.out.cell (World.block_lt_of_cell? _ _ (hcY k5 hl5))).trans (hcY k5 hl5)
              have q3 : (k5 : Int) < (qk : Int) := by omega
              clear hcO hcY
              go_wp2_with fail
              go_quiet (fail)
              go_wp2_with fail
              go_roundw
              case rel => exact ⟨k5 + 1, _, by omega, by go_num, rfl⟩
              case measure => simp [intOf]; omega
            · have q3 : (qk : Int) ≤ (k5 : Int) := by omega
              go_wp2_with fail
              go_ret
              exact ⟨rfl, below_drewN HBF.out _⟩
    | cons k Q =>
      obtain ⟨n, f, g, p', q', hf, hg', hkeq, l1, l2, hub, hs1, hs2, hs3, heat, hnext⟩ := good_inv GR.out
      obtain ⟨gH, al, cl, rfl, k0, k1, k2, k3, k4, k5, kmax, kl⟩ := RH.out P k Q HPQ.out
      rw [← HP.out] at k0 k1 k2 k3 k4 k5
      have hbl := HO.out.below
      have k0' := (hbl.cell (World.block_lt_of_cell? _ _ k0)).trans k0
      have k1' := (hbl.cell (World.block_lt_of_cell? _ _ k1)).trans k1
      have k2' := (hbl.cell (World.block_lt_of_cell? _ _ k2)).trans k2
      have k3' := (hbl.cell (World.block_lt_of_cell? _ _ k3)).trans k3
      have k4' := (hbl.cell (World.block_lt_of_cell? _ _ k4)).trans k4
      have k5' := (hbl.cell (World.block_lt_of_cell? _ _ k5)).trans k5
      clear k0 k1 k2 k3 k4 k5
      obtain ⟨OS, hOS⟩ : ∃ OS, k.os = OS := ⟨_, rfl⟩
      obtain ⟨OL, hOL⟩ : ∃ OL, k.ol = OL := ⟨_, rfl⟩
      obtain ⟨NS, hNS⟩ : ∃ NS, k.ns = NS := ⟨_, rfl⟩
      obtain ⟨NL, hNL⟩ : ∃ NL, k.nl = NL := ⟨_, rfl⟩
      obtain ⟨M, hM⟩ : ∃ M, (flat k.ops).length = M := ⟨_, rfl⟩
      rw [hOS] at k0'
      rw [hOL] at k1'
      rw [hNS] at k2'
      rw [hNL] at k3'
      rw [hub] at k4'
      rw [hM] at k5' kmax kl
      obtain ⟨ST, hST⟩ : ∃ ST, hst rev k = ST := ⟨_, rfl⟩
      obtain ⟨CT, hCT⟩ : ∃ CT, hct rev k = CT := ⟨_, rfl⟩
      obtain ⟨GI, hGI⟩ : ∃ GI, hgi rev k = GI := ⟨_, rfl⟩
      rw [hST] at hs1
      rw [hCT] at hs2
      rw [hGI] at hs3
      have hmax : M ≤ 9223372036854775807 := by unfold maxLen at kmax; omega
      have KL := hide kl
      have HOS := hide hOS
      have HOL := hide hOL
      have HNS := hide hNS
      have HNL := hide hNL
      have HM := hide hM
      have HST := hide hST
      have HCT := hide hCT
      have HGI := hide hGI
      have HS1 := hide hs1
      have HS2 := hide hs2
      have HS3 := hide hs3
      have HEAT := hide heat
      have HNX := hide hnext
      have HF := hide hf
      have HGG := hide hg'
      have HEQ := hide hkeq
      have hle := heat.le
      have hb1 : p' ≤ lx ∧ q' ≤ ly ∧ f ≤ p' ∧ g ≤ q' := ⟨hle.2.2.1 l1, hle.2.2.2 l2, hle.1, hle.2.1⟩
      have HB1 := hide hb1
      have hd : (h : Int) < (N : Int) := by simp only [List.length_cons] at hhN; omega
      have hpb : p ≤ 131072 ∧ f ≤ 131072 ∧ n ≤ 131072 ∧ ST ≤ 131073 ∧ CT ≤ 131072 ∧ GI ≤ 131072 := by
        have : HunkMath.start f p' ≤ f + 1 := by unfold HunkMath.start; split <;> omega
        omega
      obtain ⟨bp, bf, bn, bST, bCT, bGI⟩ := hpb
      clear hf hg' hkeq hs1 hs2 hs3 heat hnext hOS hOL hNS hNL hM hST hCT hGI kmax kl hub hle hb1 hbl
      go_upto_region 7 with fail
      have HS0 : Hid (St Y w wr.heap.size OS OL NS NL n (.slice al M cl) (wr.alloc (.cells #[.int .i64 (OS : Int), .int .i64 (OL : Int), .int .i64 (NS : Int), .int .i64 (NL : Int), .int .i64 (n : Int), .slice al M cl] 45)) u11 q) := ⟨HO.out.alloc _, hk_new wr OS OL NS NL n _⟩
      generalize hwy : wr.alloc _ = wy at HS0 ⊢
      generalize hgh : wr.heap.size = gh at HS0 ⊢
      clear hwy hgh k0' k1' k2' k3' k4' k5' HO
      go_cut [15, 16, 17] from 32 to 175 (fun v15 v16 v17 wx => v15 = .int .i64 (OS : Int) ∧ v16 = .int .i64 (OL : Int) ∧ v17 = .int .i64 (NL : Int) ∧ St Y w gh OS OL NS NL n (.slice al M cl) wx u11 q)
      case first => as_aux_lemma =>
        have e0 : wy.cell? ⟨gh, 0, none⟩ = some (.int .i64 (OS : Int)) := HS0.out.row.cell (i := 0) (by omega)
        have e1 : wy.cell? ⟨gh, 1, none⟩ = some (.int .i64 (OL : Int)) := HS0.out.row.cell (i := 1) (by omega)
        have e3 : wy.cell? ⟨gh, 3, none⟩ = some (.int .i64 (NL : Int)) := HS0.out.row.cell (i := 3) (by omega)
        go_quiet (fail)
        go_wp2_with fail
        go_meet
        exact ⟨rfl, rfl, rfl, HS0.out.drewN _⟩
      case rest =>
        obtain ⟨rfl, rfl, rfl, hS1⟩ := hcut
        have HS1' := hide hS1
        clear hS1 HS0
        go_upto_if 48 with fail
        go_cut [15, 16, 17] from 32 to 175 (fun v15 v16 v17 wx => v15 = .int .i64 (ST : Int) ∧ v16 = .int .i64 (CT : Int) ∧ v17 = .int .i64 (GI : Int) ∧ St Y w gh OS OL NS NL n (.slice al M cl) wx u11 q)
        case first => as_aux_lemma =>
          cases rev
          · have r1 : OS = ST := by rw [← HOS.out, ← HST.out]; rfl
            have r2 : OL = CT := by rw [← HOL.out, ← HCT.out]; rfl
            have r3 : NL = GI := by rw [← HNL.out, ← HGI.out]; rfl
            go_wp2_with fail
            go_meet
            exact ⟨by rw [r1], by rw [r2], by rw [r3], HS1'.out⟩
          · have r1 : NS = ST := by rw [← HNS.out, ← HST.out]; rfl
            have r2 : NL = CT := by rw [← HNL.out, ← HCT.out]; rfl
            have r3 : OL = GI := by rw [← HOL.out, ← HGI.out]; rfl
            have e2 : wc.cell? ⟨gh, 2, none⟩ = some (.int .i64 (NS : Int)) := HS1'.out.row.cell (i := 2) (by omega)
            have e3 : wc.cell? ⟨gh, 3, none⟩ = some (.int .i64 (NL : Int)) := HS1'.out.row.cell (i := 3) (by omega)
            have e1 : wc.cell? ⟨gh, 1, none⟩ = some (.int .i64 (OL : Int)) := HS1'.out.row.cell (i := 1) (by omega)
            have R1 := hide r1
            have R2 := hide r2
            have R3 := hide r3
            clear r1 r2 r3
            go_wp2_with fail
            go_quiet (fail)
            go_wp2_with fail
            go_meet
            exact ⟨by rw [R1.out], by rw [R2.out], by rw [R3.out], HS1'.out.drewN _⟩
        case rest =>
          obtain ⟨rfl, rfl, rfl, hS2⟩ := hcut
          have HS2' := hide hS2
          clear hS2 HS1'
          go_upto_if 58 with fail
          go_cut [18] from 32 to 175 (fun v18 wx => v18 = .int .i64 (f : Int) ∧ wx = wc)
          case first => as_aux_lemma =>
            have hb := HB1.out
            have h1 := HS1.out
            have h2 := HS2.out
            by_cases hc0 : CT = 0
            · have hst : ST = f := by rw [h1]; unfold HunkMath.start; split <;> omega
              have hd1 : ((CT : Int) == 0) = true := by simp [hc0]
              have HC0 := hide hst
              clear hc0 h1 h2 hst
              go_wp2_with fail
              go_meet
              exact ⟨by rw [HC0.out], rfl⟩
            · have hst : ST = f + 1 := by rw [h1]; unfold HunkMath.start; split <;> omega
              have hd1 : ((CT : Int) == 0) = false := by simp; omega
              have hd2 : (ST : Int) - 1 = (f : Int) := by omega
              have HC0 := hide hst
              clear hc0 h1 h2 hst
              go_wp2_with fail
              go_meet
              exact ⟨congrArg (Value.int .i64) hd2, rfl⟩
          case rest =>
            obtain ⟨rfl, rfl⟩ := hcut
            have z1 : (p : Int) ≤ (f : Int) := by have := HF.out; omega
            have z2 : (f : Int) ≤ (lx : Int) := by omega
            have y1 : decide ((f : Int) < (p : Int)) = false := decide_eq_false (by omega)
            have y2 : decide (f < p) = false := decide_eq_false (by omega)
            have y3 : decide ((lx : Int) < (f : Int)) = false := decide_eq_false (by omega)
            have y4 : decide (lx < f) = false := decide_eq_false (by omega)
            have z3 : (f : Int) - (p : Int) = (n : Int) := by have := HF.out; omega
            have e4 : wc.cell? ⟨gh, 4, none⟩ = some (.int .i64 (n : Int)) := HS2'.out.row.cell (i := 4) (by omega)
            go_upto_block 2 with fail
            clear z3 e4 y1 y2 y3 y4
            go_cut [11, 12] from 32 to 175 (fun v11 v12 wx => v12 = .int .i64 (f : Int) ∧ St Y w gh OS OL NS NL n (.slice al M cl) wx v11 g)
            case first => as_aux_lemma =>
              go_wp2_with fail
              go_loopg [11, 12] n (fun m v11 v12 wx => ∃ (k pk qk : Nat), k ≤ n ∧ m = n - k ∧ pk = p + k ∧ qk = q + k ∧ v12 = .int .i64 (pk : Int) ∧ St Y w gh OS OL NS NL n (.slice al M cl) wx v11 qk)
              case atStart => exact ⟨0, p, q, by omega, rfl, rfl, rfl, rfl, HS2'.out⟩
              case round =>
                obtain ⟨k, pk, qk, hk, hg, hpk, hqk, rfl, hout⟩ := hrel
                have HG2 := hide hg
                have HPK := hide hpk
                have HQK := hide hqk
                have HOK := hide hout
                have hpl2 : pk ≤ lx := by have := HF.out; omega
                clear hg hpk hqk hout
                by_cases hlt : k < n
                · have hd2 : (pk : Int) < (f : Int) := by have := HF.out; have := HPK.out; omega
                  have hd3 : (pk : Int) < (lx : Int) := by omega
                  obtain ⟨bx, ox, rfl, hcx⟩ := RX.out (by omega)
                  have hc := hcx pk (by omega)
                  have hc' := (HOK.out.out.below.cell (World.block_lt_of_cell? _ _ hc)).trans hc
                  have HXY : Hid (X pk = Y qk) := by rw [HPK.out, HQK.out]; exact HEQ.out k hlt
                  have hqb : qk + 1 ≤ 131072 := by have := HGG.out; have := HQK.out; omega
                  have hsz := HOK.out.out.below.size
                  clear hc hcx
                  go_wp2_with (at_builtin; refine wpList_append_own_at _ rfl (.tmp 80) (.tmp 85) 28 rfl w.heap.size 9 i0 (.string ⟨#[]⟩) 1 16 Try.underlying28 hi hz0 hz1 hz2 rfl (by decide) _ _ _ rfl (HOK.out.out.own.alloc _) _ 1 1 [.string (X pk)] rfl rfl ?c1 ?c2 ?c3 ?c4 ?c5 ?_)
                  case c1 => exact one_new _ _ _
                  case c2 => exact one_cell _
                  case c3 => unfold maxLen; omega
                  case c4 => omega
                  case c5 => rw [World.size_alloc]; omega
                  intro v1 w1 hown1 hgrow1 _ hblk1
                  have HO1 := hide (HOK.out.push HXY.out hown1 hgrow1)
                  clear hown1 hgrow1 hblk1 HOK
                  go_wp2_with fail
                  go_roundg (n - (k + 1))
                  case measure => have := HG2.out; omega
                  case rel => exact ⟨k + 1, pk + 1, qk + 1, by omega, rfl, by have := HPK.out; omega, by have := HQK.out; omega, by go_num, HO1.out⟩
                · have hke : k = n := by omega
                  have hd2 : (f : Int) ≤ (pk : Int) := by have := HF.out; have := HPK.out; omega
                  have hpe : pk = f := by have := HF.out; have := HPK.out; omega
                  have hqe : qk = g := by have := HGG.out; have := HQK.out; omega
                  have HPE := hide hpe
                  have HQE := hide hqe
                  clear hpe hqe hke
                  go_wp2_with fail
                  go_meet
                  exact ⟨by rw [HPE.out], by rw [← HQE.out]; exact HOK.out⟩
            case rest =>
              obtain ⟨rfl, hS3⟩ := hcut
              have HS3' := hide hS3
              clear hS3 HS2' z1 z2
              go_upto_block 4 with fail
              go_cut [11, 12, 19, 20] from 32 to 175 (fun v11 v12 v19 v20 wx => v12 = .int .i64 (p' : Int) ∧ v19 = .int .i64 (CT : Int) ∧ v20 = .int .i64 (GI : Int) ∧ St Y w gh OS OL NS NL n (.slice al M cl) wx v11 q')
              case first => as_aux_lemma =>
                go_wp2_with fail
                go_loopg [11, 12, 19, 20, 21] k.ops.length (fun m v11 v12 v19 v20 v21 wx => ∃ (d r : Ops) (p1 q1 ix t1 g1 : Nat), k.ops = d ++ r ∧ m = r.length ∧ ix = (flat d).length ∧ v21 = .int .i64 (ix : Int) ∧ v12 = .int .i64 (p1 : Int) ∧ t1 + f = p1 ∧ v19 = .int .i64 (t1 : Int) ∧ g1 + g = q1 ∧ v20 = .int .i64 (g1 : Int) ∧ Eat X Y lx ly (tk rev) (gv rev) p1 q1 r p' q' ∧ St Y w gh OS OL NS NL n (.slice al M cl) wx v11 q1)
                case atStart => exact ⟨[], k.ops, f, g, 0, 0, 0, rfl, rfl, rfl, rfl, rfl, by omega, rfl, by omega, rfl, HEAT.out, HS3'.out⟩
                case round =>
                  obtain ⟨d, r, p1, q1, ix, t1, g1, hdr, hm, hix, rfl, rfl, ht1, rfl, hg1, rfl, heat, hst⟩ := hrel
                  have HDR := hide hdr
                  have HMM := hide hm
                  have HIX := hide hix
                  have HT1 := hide ht1
                  have HG1 := hide hg1
                  have HE := hide heat
                  have HSS := hide hst
                  have e5 : wr.cell? ⟨gh, 5, none⟩ = some (.slice al M cl) := hst.row.cell (i := 5) (by omega)
                  clear hdr hm hix ht1 hg1 heat hst HS3'
                  cases r with
                  | nil =>
                    have hixM : (M : Int) ≤ (ix : Int) := by rw [HIX.out, ← HM.out, HDR.out, List.append_nil]; omega
                    obtain ⟨x1, x2⟩ := HE.out
                    have HX1 := hide x1
                    have HX2 := hide x2
                    have hbd := HB1.out
                    have HTT : Hid (t1 = CT ∧ g1 = GI) := by have := HT1.out; have := HG1.out; have := HS2.out; have := HS3.out; exact ⟨by omega, by omega⟩
                    clear x1 x2 hbd
                    go_wp2_with fail
                    go_meet
                    exact ⟨by rw [HX1.out], by rw [HTT.out.1], by rw [HTT.out.2], by rw [HX2.out]; exact HSS.out⟩
                  | cons o r =>
                    have hmks : Mks (o :: r) := eat_mks HE.out
                    obtain ⟨y1, y2, y3, y4⟩ := flat_at d r o hmks
                    rw [← HDR.out, ← HIX.out] at y1 y2 y3 y4
                    rw [HM.out] at y2 y3 y4
                    obtain ⟨gl, hal, hcl⟩ := KL.out (by omega)
                    have hbel := HSS.out.out.below
                    have HCL : Hid (∀ i, i < M → wr.cell? ⟨gl, i, none⟩ = some (.string ((flat k.ops).getD i nonl))) := fun i hi => (hbel.cell (World.block_lt_of_cell? _ _ (hcl i hi))).trans (hcl i hi)
                    have cE := HCL.out ix y2
                    rw [y1] at cE
                    subst hal
                    have hixM : (ix : Int) < (M : Int) := by omega
                    have HY3 := hide y3
                    have HY4 := hide y4
                    have HMK := hide hmks
                    clear y1 y3 y4 hcl hbel hmks
                    obtain ⟨mk, line⟩ := o
                    simp only at cE
                    have hline : line.size ≤ 1048576 := by
                      rcases HE.out with ⟨_, h1, _, h3, _, _⟩ | ⟨_, h1, h3, _⟩ | ⟨_, h1, h3, _⟩
                      · simp only at h3; rw [h3]; exact S1.out _ h1
                      · simp only at h3; rw [h3]; exact S1.out _ h1
                      · simp only at h3; rw [h3]; exact S2.out _ h1
                    have hcs := cut_size line
                    have hmk3 : mk = 32 ∨ mk = 45 ∨ mk = 43 := HMK.out (mk, line) (by simp)
                    obtain ⟨E, hE⟩ : ∃ E, Utf8.encode mk ++ cut line = E := ⟨_, rfl⟩
                    rw [hE] at cE
                    have hEs : E.size = 1 + (cut line).size := by
                      rw [← hE, ByteArray.size_append]
                      rcases hmk3 with rfl | rfl | rfl
                      · rw [enc32]; rfl
                      · rw [enc45]; rfl
                      · rw [enc43]; rfl
                    have hE1 : E.extract 1 E.size = cut line := by
                      have := app_tail (Utf8.encode mk) (cut line)
                      rw [hE] at this
                      have h1 : (Utf8.encode mk).size = 1 := by
                        rcases hmk3 with rfl | rfl | rfl
                        · rw [enc32]; rfl
                        · rw [enc45]; rfl
                        · rw [enc43]; rfl
                      rw [h1] at this; exact this
                    have HE1 := hide hE1
                    have hEz : (0 : Int) < (E.size : Int) := by omega
                    have hEn : 0 < E.size := by omega
                    have hEb : E.size ≤ 1048577 := by omega
                    have HEE := hide hE
                    have HES := hide hEs
                    clear hE hEs
                    have hE0 : ∀ h0 : 0 < E.size, ((E[0]'h0).toNat : Int) = mk := by
                      intro h0
                      have hd := HEE.out
                      subst hd
                      rcases hmk3 with rfl | rfl | rfl
                      · simp only [enc32]; rw [ByteArray.getElem_append_left (by decide)]; rfl
                      · simp only [enc45]; rw [ByteArray.getElem_append_left (by decide)]; rfl
                      · simp only [enc43]; rw [ByteArray.getElem_append_left (by decide)]; rfl
                    have HE0 := hide hE0
                    clear hE0
                    go_upto_region 24 with fail
                    go_cut [23] from 89 to 167 (fun v23 wx => v23 = .int .u8 mk ∧ wx = wr)
                    case first => as_aux_lemma =>
                      go_wp2_with fail
                      go_meet
                      exact ⟨congrArg (Value.int .u8) (HE0.out _), rfl⟩
                    case rest =>
                      obtain ⟨rfl, rfl⟩ := hcut
                      go_upto_region 25 with fail
                      go_cut [113] from 89 to 167 (fun v113 wx => v113 = .bool false ∧ wx = wc)
                      case first => as_aux_lemma =>
                        rcases hmk3 with rfl | rfl | rfl
                        · go_wp2_with fail
                          go_meet
                          exact ⟨rfl, rfl⟩
                        · go_wp2_with fail
                          go_meet
                          exact ⟨rfl, rfl⟩
                        · go_wp2_with fail
                          go_meet
                          exact ⟨rfl, rfl⟩
                      case rest =>
                        obtain ⟨rfl, rfl⟩ := hcut
                        have HMK3 := hide hmk3
                        clear hmk3
                        go_upto_region 29 with fail
                        have HEB := hide hEb
                        clear hE1
                        obtain ⟨NO, hNO⟩ : ∃ NO : Bool, NO = !(ends line) := ⟨_, rfl⟩
                        have HNO := hide hNO
                        clear hNO
                        go_cut [131] from 89 to 167 (fun v131 wx => v131 = .bool NO ∧ wx = wc)
                        case first => as_aux_lemma =>
                          cases he : ends line
                          · obtain ⟨t1', t2'⟩ := HY3.out he
                            have c1 := HCL.out (ix + 1) t2'
                            rw [t1'] at c1
                            have i3 : (ix : Int) + 1 < (M : Int) := by omega
                            have f6 : (nonl.toList == [92, 32, 78, 111, 32, 110, 101, 119, 108, 105, 110, 101, 32, 97, 116, 32, 101, 110, 100, 32, 111, 102, 32, 102, 105, 108, 101]) = true := by rw [MarkLaw.nonl_list]; rfl
                            clear t1'
                            go_wp2_with fail
                            go_meet
                            exact ⟨by rw [HNO.out, he]; rfl, rfl⟩
                          · by_cases hnx : ix + 1 < M
                            · obtain ⟨m, cc, hm3, hcc⟩ := HY4.out he hnx
                              have c1 := HCL.out (ix + 1) hnx
                              rw [hcc] at c1
                              have i3 : (ix : Int) + 1 < (M : Int) := by omega
                              have hne := marker_ne m (by omega) (by omega) (by omega) cc
                              rw [MarkLaw.nonl_list] at hne
                              clear hcc
                              go_wp2_with fail
                              go_meet
                              exact ⟨by rw [HNO.out, he]; rfl, rfl⟩
                            · have i3 : decide ((ix : Int) + 1 < (M : Int)) = false := decide_eq_false (by omega)
                              go_wp2_with fail
                              go_meet
                              exact ⟨by rw [HNO.out, he]; rfl, rfl⟩
                        case rest =>
                          obtain ⟨rfl, rfl⟩ := hcut
                          obtain ⟨nx, hnx⟩ : ∃ nx, nx = (flat (d ++ [(mk, line)])).length := ⟨_, rfl⟩
                          have HNXT := hide hnx
                          have hnx2 : nx = ix + if ends line then 1 else 2 := by rw [hnx, flat_next, HIX.out]
                          have HNX2 := hide hnx2
                          clear hnx hnx2
                          go_upto_if 131 with fail
                          go_cut [24, 25] from 89 to 167 (fun v24 v25 wx => v24 = .string line ∧ v25 = .int .i64 (nx : Int) ∧ wx = wc)
                          case first => as_aux_lemma =>
                            cases he : ends line
                            · have hno : NO = true := by rw [HNO.out, he]; rfl
                              subst hno
                              have hcu : cut line = line := by unfold cut; rw [he]; rfl
                              have hn2 : (nx : Int) = (ix : Int) + 2 := by have := HNX2.out; rw [he] at this; simp only [Bool.false_eq_true, if_false] at this; omega
                              have HCU := hide hcu
                              have HN2 := hide hn2
                              clear hcu hn2
                              have hE1 := HE1.out
                              have hi2 : (ix : Int) + 2 ≤ 9223372036854775807 := by have := (HY3.out he).2; omega
                              go_wp2_with fail
                              go_meet
                              exact ⟨by rw [HCU.out], by rw [HN2.out], rfl⟩
                            · have hno : NO = false := by rw [HNO.out, he]; rfl
                              subst hno
                              have hcu : cut line ++ ⟨#[10]⟩ = line := cut_back line he
                              have hn2 : (nx : Int) = (ix : Int) + 1 := by have := HNX2.out; rw [he] at this; simp only [if_true] at this; omega
                              have HN2 := hide hn2
                              have HCU := hide hcu
                              clear hn2 hcu
                              go_wp2_with fail
                              go_meet
                              exact ⟨by rw [HCU.out], by rw [HN2.out], rfl⟩
                          case rest =>
                            obtain ⟨rfl, rfl, rfl⟩ := hcut
                            obtain ⟨TK, hTK⟩ : ∃ TK : Bool, TK = !(mk == gv rev) := ⟨_, rfl⟩
                            obtain ⟨GV, hGV⟩ : ∃ GV : Bool, GV = !(mk == tk rev) := ⟨_, rfl⟩
                            have HTK := hide hTK
                            have HGV := hide hGV
                            clear hTK hGV
                            go_upto_if 141 with fail
                            go_cut [26, 27] from 89 to 167 (fun v26 v27 wx => v26 = .bool TK ∧ v27 = .bool GV ∧ wx = wc)
                            case first => as_aux_lemma =>
                              rcases HMK3.out with rfl | rfl | rfl
                              all_goals
                                cases rev
                                all_goals
                                  go_wp2_with fail
                                  go_meet
                                  exact ⟨by rw [HTK.out]; rfl, by rw [HGV.out]; rfl, rfl⟩
                            case rest =>
                              obtain ⟨rfl, rfl, rfl⟩ := hcut
                              have HDR2 := hide (show k.ops = (d ++ [(mk, line)]) ++ r from by rw [HDR.out]; simp)
                              have hbel := HSS.out.out.below
                              have HBEL := hide hbel
                              have hsz := hbel.size
                              clear hbel cE
                              rcases HE.out with ⟨h0, hp1, hq1, hX, hY, hnx⟩ | ⟨h0, hp1, hX, hnx⟩ | ⟨h0, hq1, hY, hnx⟩
                              · simp only at h0 hX hY
                                have htk : TK = true := by rw [HTK.out, h0]; cases rev <;> rfl
                                have hgv : GV = true := by rw [HGV.out, h0]; cases rev <;> rfl
                                subst htk hgv
                                obtain ⟨bx, ox, rfl, hcx⟩ := RX.out (by omega)
                                have hc := hcx p1 hp1
                                have hc' := (HBEL.out.cell (World.block_lt_of_cell? _ _ hc)).trans hc
                                rw [← hX] at hc'
                                have hd3 : (p1 : Int) < (lx : Int) := by omega
                                have hqb : q1 + 1 ≤ 131072 := by omega
                                have hb1 : t1 ≤ 131072 ∧ g1 ≤ 131072 := by have := HT1.out; have := HG1.out; omega
                                obtain ⟨bt1, bg1⟩ := hb1
                                have HYY := hide hY
                                have HNXX := hide hnx
                                clear hc hcx h0 hX hY hnx
                                go_wp2_with (at_builtin; refine wpList_append_own_at _ rfl (.tmp 162) (.tmp 164) 28 rfl w.heap.size 9 i0 (.string ⟨#[]⟩) 1 16 Try.underlying28 hi hz0 hz1 hz2 rfl (by decide) _ _ _ rfl (HSS.out.out.own.alloc _) _ 1 1 [.string line] rfl rfl (one_new _ _ _) (one_cell _) (by unfold maxLen; omega) (by omega) (by rw [World.size_alloc]; omega) ?_)
                                intro v1 w1 hown1 hgrow1 _ hblk1
                                have HO1 := hide (HSS.out.push HYY.out hown1 hgrow1)
                                clear hown1 hgrow1 hblk1 HSS
                                go_wp2_with fail
                                go_roundg r.length
                                case measure => have := HMM.out; simp only [List.length_cons] at this; omega
                                case rel => exact ⟨d ++ [(mk, line)], r, p1 + 1, q1 + 1, nx, t1 + 1, g1 + 1, HDR2.out, rfl, HNXT.out, rfl, by go_num, by have := HT1.out; omega, by go_num, by have := HG1.out; omega, by go_num, HNXX.out, HO1.out⟩
                              · simp only at h0 hX
                                have htk : TK = true := by rw [HTK.out, h0]; cases rev <;> rfl
                                have hgv : GV = false := by rw [HGV.out, h0]; cases rev <;> rfl
                                subst htk hgv
                                obtain ⟨bx, ox, rfl, hcx⟩ := RX.out (by omega)
                                have hc := hcx p1 hp1
                                have hc' := (HBEL.out.cell (World.block_lt_of_cell? _ _ hc)).trans hc
                                rw [← hX] at hc'
                                have hd3 : (p1 : Int) < (lx : Int) := by omega
                                have bt1 : t1 ≤ 131072 := by have := HT1.out; omega
                                have HNXX := hide hnx
                                clear hc hcx h0 hX hnx
                                go_wp2_with fail
                                go_roundg r.length
                                case measure => have := HMM.out; simp only [List.length_cons] at this; omega
                                case rel => exact ⟨d ++ [(mk, line)], r, p1 + 1, q1, nx, t1 + 1, g1, HDR2.out, rfl, HNXT.out, rfl, by go_num, by have := HT1.out; omega, by go_num, HG1.out, rfl, HNXX.out, HSS.out⟩
                              · simp only at h0 hY
                                have htk : TK = false := by rw [HTK.out, h0]; cases rev <;> rfl
                                have hgv : GV = true := by rw [HGV.out, h0]; cases rev <;> rfl
                                subst htk hgv
                                have hqb : q1 + 1 ≤ 131072 := by omega
                                have bg1 : g1 ≤ 131072 := by have := HG1.out; omega
                                have HYY := hide hY
                                have HNXX := hide hnx
                                clear h0 hY hnx
                                go_wp2_with (at_builtin; refine wpList_append_own_at _ rfl (.tmp 162) (.tmp 164) 28 rfl w.heap.size 9 i0 (.string ⟨#[]⟩) 1 16 Try.underlying28 hi hz0 hz1 hz2 rfl (by decide) _ _ _ rfl (HSS.out.out.own.alloc _) _ 1 1 [.string line] rfl rfl (one_new _ _ _) (one_cell _) (by unfold maxLen; omega) (by omega) (by rw [World.size_alloc]; omega) ?_)
                                intro v1 w1 hown1 hgrow1 _ hblk1
                                have HO1 := hide (HSS.out.push HYY.out hown1 hgrow1)
                                clear hown1 hgrow1 hblk1 HSS
                                go_wp2_with fail
                                go_roundg r.length
                                case measure => have := HMM.out; simp only [List.length_cons] at this; omega
                                case rel => exact ⟨d ++ [(mk, line)], r, p1, q1 + 1, nx, t1, g1 + 1, HDR2.out, rfl, HNXT.out, rfl, rfl, HT1.out, rfl, by have := HG1.out; omega, by go_num, HNXX.out, HO1.out⟩
              case rest =>
                obtain ⟨rfl, rfl, rfl, hS4⟩ := hcut
                have HS4 := hide hS4
                clear hS4 HS3'
                go_wp2_with fail
                go_roundg Q.length
                case measure => have := HG.out; simp only [List.length_cons] at this; omega
                case rel => exact ⟨P ++ [k], Q, p', q', h + 1, by rw [HPQ.out]; simp, rfl, by rw [HP.out]; simp, by go_num, rfl, HNX.out, HS4.out.out⟩
end Go.Proofs.Qxb6605269a.ApplyWalk
