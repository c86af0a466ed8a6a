import Derived.Test.Qxb6605269aModelMake
import Derived.Test.Qxb6605269aApplyMath
import Derived.Deep.RegionHeld3
import Derived.Deep.DrawnRows
import Derived.Deep.CutBlock
set_option linter.unusedVariables false
set_option linter.unusedSimpArgs false
namespace Go.Proofs.Qxb6605269a.ModelWalk
open Go.ChangeShapes Go.WideShapes Go.ChangeAt Go.RowKit
open Go.Proofs.Qxb6605269a.Lcs (hide rowIs_drewN info3)
open Go.Proofs.Qxb6605269a.Strs
open Go.Proofs.Qxb6605269a.Mark
open Go.Proofs.Qxb6605269a.MarkLaw (below_of_grown)
open Go.Proofs.Qxb6605269a.HunkBools
open Go.Proofs.Qxb6605269a.HunkMath
open Go.Proofs.Qxb6605269a.HunkMem
open Go.Proofs.Qxb6605269a.HunkGood
open Go.Proofs.Qxb6605269a.HunkStage
open Go.Proofs.Qxb6605269a.ModelMath
open Go.Proofs.Qxb6605269a.ModelBits
open Go.Proofs.Qxb6605269a.ModelMem
open Go.Proofs.Qxb6605269a.ModelShow
open Go.Proofs.Qxb6605269a.ModelMake
open Go.Proofs.Qxb6605269a.ApplyMath (enc32 enc45 enc43)

/-- a slice of whole numbers can be read -/
def RdN (w : World) (a : Option Addr) (l : List Nat) : Prop := 0 < l.length → ∃ g, a = some ⟨g, 0, none⟩ ∧ ∀ (i x : Nat), l[i]? = some x → w.cell? ⟨g, i, none⟩ = some (.int .i64 (x : Int))
theorem RdN.below {w wx : World} {a : Option Addr} {l : List Nat} (h : RdN w a l) (hb : Below w.heap.size w wx) : RdN wx a l := by
  intro h0
  obtain ⟨g, e, hc⟩ := h h0
  exact ⟨g, e, fun i x hx => (hb.cell (World.block_lt_of_cell? _ _ (hc i x hx))).trans (hc i x hx)⟩

/-- the loop over the anchors -/
def B1 (R D : Nat → Bool) (la lb n1 : Nat) (T : List Rc) (w : World) (g : Nat) (v11 v12 v13 v14 : Value) (wr : World) : Prop :=
  ∃ (pre L : List Rc) (ka kb k : Nat), T = pre ++ L ∧ g = n1 + 1 - k ∧ k ≤ n1 + 1 ∧ v14 = .int .i64 (k : Int) ∧ v12 = .int .i64 (ka : Int) ∧ v13 = .int .i64 (kb : Int) ∧ (k ≤ n1 → ul R ka = k ∧ ul D kb = k ∧ Lay R D la lb ka kb L) ∧ (k = n1 + 1 → L = []) ∧ OpsAt w wr v11 pre
/-- inside it -/
def B2 (R D : Nat → Bool) (la lb : Nat) (T : List Rc) (w : World) (ka kb : Nat) (v11 : Value) (wr : World) : Prop :=
  ∃ (pre L : List Rc), T = pre ++ L ∧ Lay R D la lb ka kb L ∧ OpsAt w wr v11 pre
/-- where the k-th anchor stands -/
structure Anchor (R : Nat → Bool) (la n k ka e : Nat) : Prop where
  le : ka ≤ e
  hi : e ≤ la
  all : ∀ z, ka ≤ z → z < e → R z = true
  free : e < la → R e = false
  ul : ul R e = k
  at_ : k < n → (um R la)[k]? = some e ∧ e < la
  last : k = n → e = la
theorem anchor (R : Nat → Bool) (la n k ka : Nat) (hn : (um R la).length = n) (hk : k ≤ n) (hu : ul R ka = k) (hka : ka ≤ la) : ∃ e, Anchor R la n k ka e := by
  by_cases h : k < n
  · obtain ⟨x, hx⟩ : ∃ x, (um R la)[k]? = some x := ⟨_, List.getElem?_eq_getElem (by omega)⟩
    obtain ⟨h1, h2, h3, h4, h5⟩ := um_next R la ka k x hu hka hx
    exact ⟨x, h1, by omega, h4, fun _ => h3, h5, fun _ => ⟨hx, h2⟩, fun e => absurd e (by omega)⟩
  · have hke : k = n := by omega
    have h4 := um_last R la ka (by omega) hka
    exact ⟨la, hka, Nat.le_refl _, h4, fun h => absurd h (by omega), (ul_to R ka la hka h4).trans hu, fun h => absurd h (by omega), fun _ => rfl⟩

/-- the flags: a row of Booleans in new memory -/
structure Fg (w2 : World) (g N : Nat) (f : Nat → Bool) (wr : World) : Prop where
  row : wr.rowIs g 4 N (fun i => .bool (f i))
  below : Below w2.heap.size w2 wr

theorem cO_le : ∀ (l : List Rc), cO l ≤ l.length
  | [] => Nat.le_refl _
  | r :: l => by have := cO_le l; simp only [cO, List.length_cons]; split <;> omega
theorem cN_le : ∀ (l : List Rc), cN l ≤ l.length
  | [] => Nat.le_refl _
  | r :: l => by have := cN_le l; simp only [cN, List.length_cons]; split <;> omega

set_option maxRecDepth 100000 in
set_option maxHeartbeats 40000000 in
theorem model_any (A B : Nat → ByteArray) (R D : Nat → Bool) (a b a10 a11 : Option Addr) (la ca lb cb n1 c10 c11 : Nat) (T : List Rc) (hs : List Hk) (rest : Nat) (w : World)
    (m1 : la ≤ 131072) (m2 : lb ≤ 131072) (ra : Rd w a la A) (rb : Rd w b lb B) (hn1 : (um R la).length = n1) (hn2 : (um D lb).length = n1) (u1 : RdN w a10 (um R la)) (u2 : RdN w a11 (um D lb))
    (s1 : ∀ i, i < la → (A i).size ≤ 1048576) (s2 : ∀ i, i < lb → (B i).size ≤ 1048576) (hlay : Lay R D la lb 0 0 T) (hmok : MOK A B T 0 0 0 hs rest) :
    Calls Try.prog 21 #[.slice a la ca, .slice b lb cb, .slice a10 n1 c10, .slice a11 n1 c11] w fun e w' => ∃ v, e = .returned (.tuple #[v, .int .i64 (rest : Int)]) ∧ HAt w.heap.size w' v hs ∧ Below w.heap.size w w' := by
  obtain ⟨i0, hi, hz0, hz1, hz2⟩ := info_parts info56
  obtain ⟨M, hM⟩ : ∃ M, la + lb = M := ⟨_, rfl⟩
  obtain ⟨wm, hmk, hownm, hgrm⟩ := run_make_own (P := Try.prog) w w.heap.size 54 56 i0 _ 3 Try.underlying54 hi hz0 hz1 .i64 .i64 M (by rw [hz2]; omega) (by unfold maxLen; omega) (Nat.le_refl _)
  have hMi : (la : Int) + (lb : Int) = (M : Int) := by omega
  have RA := hide ra
  have RB := hide rb
  have U1 := hide u1
  have U2 := hide u2
  have S1 := hide s1
  have S2 := hide s2
  have HN1 := hide hn1
  have HN2 := hide hn2
  have HLY := hide hlay
  have HMEM := hide (lay_mem hlay)
  have HMOK := hide hmok
  have hnl : n1 ≤ 131072 := by have := um_len R la; omega
  have HO0 : Hid (OpsAt w wm (.slice (some ⟨w.heap.size, 0, none⟩) 0 M) []) := ⟨hownm, below_of_grown hgrm (Nat.le_refl _) (fun k hk => by cases hk)⟩
  have hTl : T.length ≤ 262144 := by have := lay_len hlay; omega
  clear ra rb u1 u2 s1 s2 hn1 hn2 hlay hmok hownm hgrm
  go_enter Try.func21, Try.ntmps21
  go_upto_block 0 with fail
  go_cut [11] from 32 (fun v11 wx => OpsAt w wx v11 T)
  case first => as_aux_lemma =>
    go_wp2_with fail
    go_loopg [11, 12, 13, 14] (n1 + 1) (fun g v11 v12 v13 v14 wr => B1 R D la lb n1 T w g v11 v12 v13 v14 wr)
    case atStart => exact ⟨[], T, 0, 0, 0, rfl, by omega, by omega, rfl, rfl, rfl, fun _ => ⟨rfl, rfl, HLY.out⟩, fun h => absurd h (by omega), HO0.out⟩
    case round =>
      obtain ⟨pre, L, ka, kb, k, hT, hg, hk, rfl, rfl, rfl, hrun, hend, hops⟩ := hrel
      have HT := hide hT
      have HG := hide hg
      have HOP := hide hops
      have HRUN := hide hrun
      have HEND := hide hend
      clear hT hg hops hrun hend HO0 hmk hMi HLY
      by_cases hkn : k ≤ n1
      · obtain ⟨ru1, ru2, hly⟩ := HRUN.out hkn
        obtain ⟨_, hka, hkb⟩ := lay_len hly
        obtain ⟨eA, hA⟩ := anchor R la n1 k ka HN1.out hkn ru1 hka
        obtain ⟨eB, hB⟩ := anchor D lb n1 k kb HN2.out hkn ru2 hkb
        have HA := hide hA
        have HB := hide hB
        have HLY2 : Hid (B2 R D la lb T w ka kb u11 wr) := ⟨pre, L, HT.out, hly, HOP.out⟩
        have hd : (k : Int) ≤ (n1 : Int) := by omega
        have be : eA ≤ 131072 ∧ eB ≤ 131072 ∧ ka ≤ eA ∧ kb ≤ eB := by have := hA.hi; have := hB.hi; have := hA.le; have := hB.le; omega
        obtain ⟨beA, beB, leA, leB⟩ := be
        have HBL := hide HOP.out.below
        clear ru1 ru2 hly hA hB HT HOP HRUN
        go_upto_if 51 with fail
        go_cut [15, 16] from 40 to 92 (fun v15 v16 wx => v15 = .int .i64 (eA : Int) ∧ v16 = .int .i64 (eB : Int) ∧ wx = wr)
        case first => as_aux_lemma =>
          by_cases hlt : k < n1
          · have hd2 : (k : Int) < (n1 : Int) := by omega
            obtain ⟨gA, rfl, hcA⟩ := U1.out (by have := HN1.out; omega)
            obtain ⟨gB, rfl, hcB⟩ := U2.out (by have := HN2.out; omega)
            have q1 := hcA k eA (HA.out.at_ hlt).1
            have q2 := hcB k eB (HB.out.at_ hlt).1
            have q1' := (HBL.out.cell (World.block_lt_of_cell? _ _ q1)).trans q1
            have q2' := (HBL.out.cell (World.block_lt_of_cell? _ _ q2)).trans q2
            clear hcA hcB q1 q2
            go_wp2_with fail
            go_meet
            exact ⟨rfl, rfl, rfl⟩
          · have hd2 : (n1 : Int) ≤ (k : Int) := by omega
            have e1 : eA = la := HA.out.last (by omega)
            have e2 : eB = lb := HB.out.last (by omega)
            have E1 := hide e1
            have E2 := hide e2
            clear e1 e2
            go_wp2_with fail
            go_meet
            exact ⟨by rw [E1.out], by rw [E2.out], rfl⟩
        case rest =>
          obtain ⟨rfl, rfl, rfl⟩ := hcut
          go_upto_block 2 with fail
          go_cut [11, 12] from 40 to 92 (fun v11 v12 wx => v12 = .int .i64 (eA : Int) ∧ B2 R D la lb T w eA kb v11 wx)
          case first => as_aux_lemma =>
            go_wp2_with fail
            go_loopg [11, 12] (eA - ka) (fun m v11 v12 wx => ∃ kx : Nat, m = eA - kx ∧ ka ≤ kx ∧ kx ≤ eA ∧ v12 = .int .i64 (kx : Int) ∧ B2 R D la lb T w kx kb v11 wx)
            case atStart => exact ⟨ka, rfl, Nat.le_refl _, leA, rfl, HLY2.out⟩
            case round =>
              obtain ⟨kx, hm, hk1, hk2, rfl, hb2⟩ := hrel
              have HM := hide hm
              have HB2 := hide hb2
              clear hm hb2
              by_cases hlt : kx < eA
              · have hd2 : (kx : Int) < (eA : Int) := by omega
                obtain ⟨pre2, L2, hT2, hl2, ho2⟩ := HB2.out
                obtain ⟨L3, rfl, hl3⟩ := lay_inv_rem hl2 (by have := HA.out.hi; omega) (HA.out.all kx hk1 hlt)
                have HT2 := hide hT2
                have HL3 := hide hl3
                have HO2 := hide ho2
                have hpl : pre2.length + 1 ≤ 262144 := by have := congrArg List.length hT2; simp only [List.length_append, List.length_cons] at this; omega
                have hsz := ho2.below.size
                clear hT2 hl2 hl3 ho2 HB2
                go_wp2_with (at_builtin; refine wpList_append_own_at _ rfl (.tmp 63) (.tmp 66) 54 rfl w.heap.size 56 i0 _ 3 24 Try.underlying54 hi hz0 hz1 hz2 rfl (by decide) _ _ _ rfl (HO2.out.own.alloc _) _ 1 1 [.int .u8 45, .int .i64 (kx : Int), .int .i64 0] rfl rfl (three_new _ _ _ _ _) (three_cell _ _ _ _) (by unfold maxLen; omega) (by omega) (by rw [World.size_alloc]; omega) ?_)
                intro v1 w1 hown1 hgrow1 _ hblk1
                have HO3 := hide (HO2.out.push (r := ⟨45, kx, 0⟩) hown1 hgrow1)
                clear hown1 hgrow1 hblk1 HO2
                go_wp2_with fail
                go_roundg (eA - (kx + 1))
                case measure => have := HM.out; omega
                case rel => exact ⟨kx + 1, rfl, by omega, by omega, by go_num, _, L3, by rw [HT2.out]; simp, HL3.out, HO3.out⟩
              · have hd2 : (eA : Int) ≤ (kx : Int) := by omega
                have hke : kx = eA := by omega
                have HKE := hide hke
                clear hke
                go_wp2_with fail
                go_meet
                exact ⟨by rw [HKE.out], by rw [← HKE.out]; exact HB2.out⟩
          case rest =>
            obtain ⟨rfl, hb3⟩ := hcut
            have HB3 := hide hb3
            clear hb3 HLY2
            go_upto_block 4 with fail
            go_cut [11, 13] from 40 to 92 (fun v11 v13 wx => v13 = .int .i64 (eB : Int) ∧ B2 R D la lb T w eA eB v11 wx)
            case first => as_aux_lemma =>
              go_wp2_with fail
              go_loopg [11, 13] (eB - kb) (fun m v11 v13 wx => ∃ kx : Nat, m = eB - kx ∧ kb ≤ kx ∧ kx ≤ eB ∧ v13 = .int .i64 (kx : Int) ∧ B2 R D la lb T w eA kx v11 wx)
              case atStart => exact ⟨kb, rfl, Nat.le_refl _, leB, rfl, HB3.out⟩
              case round =>
                obtain ⟨kx, hm, hk1, hk2, rfl, hb2⟩ := hrel
                have HM := hide hm
                have HB2 := hide hb2
                clear hm hb2
                by_cases hlt : kx < eB
                · have hd2 : (kx : Int) < (eB : Int) := by omega
                  obtain ⟨pre2, L2, hT2, hl2, ho2⟩ := HB2.out
                  obtain ⟨L3, rfl, hl3⟩ := lay_inv_add hl2 HA.out.free (by have := HB.out.hi; omega) (HB.out.all kx hk1 hlt)
                  have HT2 := hide hT2
                  have HL3 := hide hl3
                  have HO2 := hide ho2
                  have hpl : pre2.length + 1 ≤ 262144 := by have := congrArg List.length hT2; simp only [List.length_append, List.length_cons] at this; omega
                  have hsz := ho2.below.size
                  clear hT2 hl2 hl3 ho2 HB2
                  go_wp2_with (at_builtin; refine wpList_append_own_at _ rfl (.tmp 73) (.tmp 76) 54 rfl w.heap.size 56 i0 _ 3 24 Try.underlying54 hi hz0 hz1 hz2 rfl (by decide) _ _ _ rfl (HO2.out.own.alloc _) _ 1 1 [.int .u8 43, .int .i64 0, .int .i64 (kx : Int)] rfl rfl (three_new _ _ _ _ _) (three_cell _ _ _ _) (by unfold maxLen; omega) (by omega) (by rw [World.size_alloc]; omega) ?_)
                  intro v1 w1 hown1 hgrow1 _ hblk1
                  have HO3 := hide (HO2.out.push (r := ⟨43, 0, kx⟩) hown1 hgrow1)
                  clear hown1 hgrow1 hblk1 HO2
                  go_wp2_with fail
                  go_roundg (eB - (kx + 1))
                  case measure => have := HM.out; omega
                  case rel => exact ⟨kx + 1, rfl, by omega, by omega, by go_num, _, L3, by rw [HT2.out]; simp, HL3.out, HO3.out⟩
                · have hd2 : (eB : Int) ≤ (kx : Int) := by omega
                  have hke : kx = eB := by omega
                  have HKE := hide hke
                  clear hke
                  go_wp2_with fail
                  go_meet
                  exact ⟨by rw [HKE.out], by rw [← HKE.out]; exact HB2.out⟩
            case rest =>
              obtain ⟨rfl, hb4⟩ := hcut
              obtain ⟨pre2, L2, hT2, hl2, ho2⟩ := hb4
              have HT2 := hide hT2
              have HO2 := hide ho2
              have hsz := ho2.below.size
              by_cases hlt : k < n1
              · have hd2 : (k : Int) < (n1 : Int) := by omega
                have ha := (HA.out.at_ hlt).2
                have hb := (HB.out.at_ hlt).2
                obtain ⟨L3, rfl, hl3⟩ := lay_inv_keep hl2 ha (HA.out.free ha) hb (HB.out.free hb)
                have HL3 := hide hl3
                have hpl : pre2.length + 1 ≤ 262144 := by have := congrArg List.length hT2; simp only [List.length_append, List.length_cons] at this; omega
                have HU : Hid (ul R (eA + 1) = k + 1 ∧ ul D (eB + 1) = k + 1) := by
                  have e1 := ul_succ R eA
                  have e2 := ul_succ D eB
                  rw [HA.out.free ha, HA.out.ul] at e1
                  rw [HB.out.free hb, HB.out.ul] at e2
                  exact ⟨e1, e2⟩
                clear hT2 hl2 hl3 ho2 HB3
                go_wp2_with (at_builtin; refine wpList_append_own_at _ rfl (.tmp 83) (.tmp 87) 54 rfl w.heap.size 56 i0 _ 3 24 Try.underlying54 hi hz0 hz1 hz2 rfl (by decide) _ _ _ rfl (HO2.out.own.alloc _) _ 1 1 [.int .u8 32, .int .i64 (eA : Int), .int .i64 (eB : Int)] rfl rfl (three_new _ _ _ _ _) (three_cell _ _ _ _) (by unfold maxLen; omega) (by omega) (by rw [World.size_alloc]; omega) ?_)
                intro v1 w1 hown1 hgrow1 _ hblk1
                have HO3 := hide (HO2.out.push (r := ⟨32, eA, eB⟩) hown1 hgrow1)
                clear hown1 hgrow1 hblk1 HO2
                go_wp2_with fail
                go_roundg (n1 + 1 - (k + 1))
                case measure => have := HG.out; omega
                case rel => exact ⟨_, L3, eA + 1, eB + 1, k + 1, by rw [HT2.out]; simp, rfl, by omega, by go_num, by go_num, by go_num, fun _ => ⟨HU.out.1, HU.out.2, HL3.out⟩, fun h => absurd h (by omega), HO3.out⟩
              · have hd2 : (n1 : Int) ≤ (k : Int) := by omega
                have e1 : eA = la := HA.out.last (by omega)
                have e2 : eB = lb := HB.out.last (by omega)
                rw [e1, e2] at hl2
                have hL := lay_inv_nil hl2
                have HLE := hide hL
                have hkk : k = n1 := by omega
                have HKK := hide hkk
                clear hT2 hl2 ho2 HB3 hL e1 e2 hkk
                go_wp2_with fail
                go_roundg (n1 + 1 - (k + 1))
                case measure => have := HG.out; omega
                case rel => exact ⟨pre2, L2, eA, eB, k + 1, HT2.out, rfl, by omega, by go_num, rfl, rfl, fun h => absurd h (by have := HKK.out; omega), fun _ => HLE.out, HO2.out⟩
      · have hd : (n1 : Int) < (k : Int) := by omega
        have hL := HEND.out (by omega)
        have HOT : Hid (OpsAt w wr u11 T) := by
          have := HT.out
          rw [hL, List.append_nil] at this
          rw [this]; exact HOP.out
        clear hL HRUN HEND
        go_wp2_with fail
        go_meet
        exact HOT.out
  case rest =>
    obtain ⟨w2, rfl⟩ : ∃ w2, w2 = wc := ⟨_, rfl⟩
    have HOT := hide hcut
    clear hcut HO0 hmk hMi HLY U1 U2
    obtain ⟨aO, cO', rfl, hrd⟩ := ops_read HOT.out
    have HRD := hide hrd
    obtain ⟨N, hN⟩ : ∃ N, T.length = N := ⟨_, rfl⟩
    rw [hN] at hTl ⊢
    have HTN := hide hN
    have HBT := hide HOT.out.below
    have hmk2 := fun wx => run_make_row' (P := Try.prog) 34 4 (.bool false) 1 Try.underlying34 info4 rfl .i64 .i64 N (by omega) (by omega) wx
    have HF0 : Hid (Fg w2 w2.heap.size N (fun _ => false) (w2.alloc (.cells (madeCells #[.bool false] N) 4))) := ⟨World.rowIs_made w2 (.bool false) N 4, (Below.refl _ _).alloc (Nat.le_refl _) _⟩
    clear hrd hN HOT
    go_upto_block 6 with fail
    generalize hwz : w2.alloc _ = wz at HF0 ⊢
    clear hwz hmk2
    obtain ⟨gS, hgS⟩ : ∃ gS, gS = w2.heap.size := ⟨_, rfl⟩
    rw [← hgS] at HF0 ⊢
    have HGS := hide hgS
    clear hgS
    go_cut [19, 20] from 97 (fun v19 v20 wx => ∃ f, Fl1 T N f ∧ Fg w2 gS N f wx)
    case first => as_aux_lemma =>
      go_wp2_with fail
      go_loopg [19, 20] N (fun m v19 v20 wx => ∃ (p : Nat) (s : Int) (f : Nat → Bool), m = N - p ∧ p ≤ N ∧ v20 = .int .i64 (p : Int) ∧ v19 = .int .i64 s ∧ Sn T p s ∧ Fl1 T p f ∧ Fg w2 gS N f wx)
      case atStart => exact ⟨0, -1, fun _ => false, rfl, by omega, rfl, rfl, sn_zero T, fl1_zero T, HF0.out⟩
      case round =>
        obtain ⟨p, s, f, hm, hp, rfl, rfl, hsn, hfl, hfg⟩ := hrel
        have HM := hide hm
        have HSN := hide hsn
        have HFL := hide hfl
        have HFG := hide hfg
        have hs2 := sn_lo hsn
        have hs2a : -1 ≤ s := hs2.1
        have hs2b : s ≤ 262144 := by omega
        clear hm hsn hfl hfg HF0 hs2
        by_cases hlt : p < N
        · have hd : (p : Int) < (N : Int) := by omega
          obtain ⟨r, hr⟩ : ∃ r, T[p]? = some r := ⟨_, List.getElem?_eq_getElem (by have := HTN.out; omega)⟩
          obtain ⟨gO, rfl, hge, hcell⟩ := HRD.out (by intro e; have := HTN.out; rw [e] at this; simp at this; omega)
          obtain ⟨q0, _, _⟩ := hcell p r hr
          have q0' := (HFG.out.below.cell (World.block_lt_of_cell? _ _ q0)).trans q0
          have HR := hide hr
          have hfz := HFG.out.row.frozen p
          have hcz := HFG.out.row.cell (i := p) hlt
          obtain ⟨rk, hrk⟩ : ∃ rk, r.k = rk := ⟨_, rfl⟩
          rw [hrk] at q0'
          have HRK := hide hrk
          clear hr hcell q0 hge hrk
          by_cases h32 : rk = 32
          · subst h32
            have h32' := HRK.out
            have HK := hide h32'
            clear h32'
            by_cases hs0 : 0 ≤ s
            · have HSS := hide (sn_some HSN.out hs0 HR.out HK.out)
              by_cases h3 : s + 1 ≤ 3
              · go_wp2_with fail
                go_roundg (N - (p + 1))
                case measure => have := HM.out; omega
                case rel => exact ⟨p + 1, s + 1, _, rfl, by omega, by go_num, rfl, HSS.out.1, fl1_set HFL.out (HSS.out.2.2 h3), set_bool HFG.out.row p true, HFG.out.below.setCell (by rw [HGS.out]; exact Nat.le_refl _) _⟩
              · have h3' : 3 < s + 1 := by omega
                clear h3
                go_wp2_with fail
                go_roundg (N - (p + 1))
                case measure => have := HM.out; omega
                case rel => exact ⟨p + 1, s + 1, f, rfl, by omega, by go_num, rfl, HSS.out.1, fl1_skip HFL.out (fun h => by have := HSS.out.2.1 h; omega), HFG.out⟩
            · have hs0' : s < 0 := by omega
              have HSS := hide (sn_none HSN.out hs0' HR.out HK.out)
              clear hs0
              go_wp2_with fail
              go_roundg (N - (p + 1))
              case measure => have := HM.out; omega
              case rel => exact ⟨p + 1, s, f, rfl, by omega, by go_num, rfl, HSS.out.1, fl1_skip HFL.out HSS.out.2, HFG.out⟩
          · have hb : (rk == 32) = false := by simp [h32]
            have HK : Hid (r.k ≠ 32) := by rw [HRK.out]; exact h32
            clear h32
            go_wp2_with fail
            go_roundg (N - (p + 1))
            case measure => have := HM.out; omega
            case rel => exact ⟨p + 1, 0, _, rfl, by omega, by go_num, rfl, sn_chg HR.out HK.out, fl1_set HFL.out (f1_chg HR.out HK.out), set_bool HFG.out.row p true, HFG.out.below.setCell (by rw [HGS.out]; exact Nat.le_refl _) _⟩
        · have hd : (N : Int) ≤ (p : Int) := by omega
          have hpe : p = N := by omega
          have HPE := hide hpe
          clear hpe
          go_wp2_with fail
          go_meet
          exact ⟨f, by rw [← HPE.out]; exact HFL.out, HFG.out⟩
    case rest =>
      obtain ⟨f4', hfl4, hfg4⟩ := hcut
      have HFL4 := hide hfl4
      have HFG4 := hide hfg4
      clear hfl4 hfg4 HF0
      go_upto_block 8 with fail
      go_cut [21, 22] from 122 (fun v21 v22 wx => ∃ f, (∀ x, x < N → (f x = true ↔ Sh T x)) ∧ Fg w2 gS N f wx)
      case first => as_aux_lemma =>
        go_wp2_with fail
        go_loopg [21, 22] N (fun gm v21 v22 wx => ∃ (m : Nat) (s pi : Int) (f : Nat → Bool), gm = m ∧ m ≤ N ∧ v22 = .int .i64 pi ∧ pi = (m : Int) - 1 ∧ v21 = .int .i64 s ∧ Un T m s ∧ Fl2 T m f ∧ Fg w2 gS N f wx)
        case atStart => exact ⟨N, -1, _, f4', rfl, Nat.le_refl _, rfl, rfl, rfl, by rw [← HTN.out]; exact un_end T, by rw [← HTN.out]; exact fl2_of (by rw [HTN.out]; exact HFL4.out), HFG4.out⟩
        case round =>
          obtain ⟨m, s, pi, f, hgm, hm, rfl, hpi, rfl, hun, hfl, hfg⟩ := hrel
          have HM := hide hgm
          have HUN := hide hun
          have HFL := hide hfl
          have HFG := hide hfg
          have hs2 := un_lo hun
          have hs2a : -1 ≤ s := hs2.1
          have hs2b : s ≤ 262144 := by have := HTN.out; omega
          clear hgm hun hfl hfg hs2 HFG4 HFL4
          cases m with
          | zero =>
            have hpi' : pi = -1 := by omega
            subst hpi'
            clear hpi
            go_wp2_with fail
            go_meet
            exact ⟨f, by rw [← HTN.out]; exact fl2_sh HFL.out, HFG.out⟩
          | succ p =>
            have hpi' : pi = (p : Int) := by omega
            subst hpi'
            have hlt : p < N := by omega
            have hd : (0 : Int) ≤ (p : Int) := by omega
            have hd2 : (p : Int) < (N : Int) := by omega
            obtain ⟨r, hr⟩ : ∃ r, T[p]? = some r := ⟨_, List.getElem?_eq_getElem (by have := HTN.out; omega)⟩
            obtain ⟨gO, rfl, hge, hcell⟩ := HRD.out (by intro e; have := HTN.out; rw [e] at this; simp at this; omega)
            obtain ⟨q0, _, _⟩ := hcell p r hr
            have q0' := (HFG.out.below.cell (World.block_lt_of_cell? _ _ q0)).trans q0
            have HR := hide hr
            have hfz := HFG.out.row.frozen p
            have hcz := HFG.out.row.cell (i := p) hlt
            obtain ⟨rk, hrk⟩ : ∃ rk, r.k = rk := ⟨_, rfl⟩
            rw [hrk] at q0'
            have HRK := hide hrk
            clear hr hcell q0 hge hrk hpi
            by_cases h32 : rk = 32
            · subst h32
              have h32' := HRK.out
              have HK := hide h32'
              clear h32'
              by_cases hs0 : 0 ≤ s
              · have HSS := hide (un_some HUN.out hs0 HR.out HK.out)
                by_cases h3 : s + 1 ≤ 3
                · go_wp2_with fail
                  go_roundg p
                  case measure => have := HM.out; omega
                  case rel => exact ⟨p, s + 1, (p : Int) - 1, _, rfl, by omega, rfl, rfl, rfl, HSS.out.1, fl2_set HFL.out (HSS.out.2.2 h3), set_bool HFG.out.row p true, HFG.out.below.setCell (by rw [HGS.out]; exact Nat.le_refl _) _⟩
                · have h3' : 3 < s + 1 := by omega
                  clear h3
                  go_wp2_with fail
                  go_roundg p
                  case measure => have := HM.out; omega
                  case rel => exact ⟨p, s + 1, (p : Int) - 1, f, rfl, by omega, rfl, rfl, rfl, HSS.out.1, fl2_skip HFL.out (Or.inr (fun h => by have := HSS.out.2.1 h; omega)), HFG.out⟩
              · have hs0' : s < 0 := by omega
                have HSS := hide (un_none HUN.out hs0' HR.out HK.out)
                clear hs0
                go_wp2_with fail
                go_roundg p
                case measure => have := HM.out; omega
                case rel => exact ⟨p, s, (p : Int) - 1, f, rfl, by omega, rfl, rfl, rfl, HSS.out.1, fl2_skip HFL.out (Or.inr HSS.out.2), HFG.out⟩
            · have hb : (rk == 32) = false := by simp [h32]
              have HK : Hid (r.k ≠ 32) := by rw [HRK.out]; exact h32
              clear h32
              go_wp2_with fail
              go_roundg p
              case measure => have := HM.out; omega
              case rel => exact ⟨p, 0, (p : Int) - 1, f, rfl, by omega, rfl, rfl, rfl, un_chg HR.out HK.out, fl2_skip HFL.out (Or.inl (f1_chg HR.out HK.out)), HFG.out⟩
      case rest =>
        obtain ⟨f, hf, hfg⟩ := hcut
        obtain ⟨w6, rfl⟩ : ∃ w6, w6 = wc := ⟨_, rfl⟩
        have HF := hide hf
        have FLAG6 : Hid (∀ p, p < N → w6.cell? ⟨gS, p, none⟩ = some (.bool (f p))) := fun p hp => hfg.row.cell (i := p) hp
        have OPS6 : Hid (T ≠ [] → ∃ gO, aO = some ⟨gO, 0, none⟩ ∧ ∀ p r, T[p]? = some r → w6.cell? ⟨gO, p * 3, none⟩ = some (.int .u8 r.k) ∧ w6.cell? ⟨gO, p * 3 + 1, none⟩ = some (.int .i64 (r.ai : Int)) ∧ w6.cell? ⟨gO, p * 3 + 2, none⟩ = some (.int .i64 (r.bi : Int))) := by
          intro h0
          obtain ⟨gO, e, _, hc⟩ := HRD.out h0
          have kp : ∀ {q : Addr} {v : Value}, w2.cell? q = some v → w6.cell? q = some v := fun e => (hfg.below.cell (World.block_lt_of_cell? _ _ e)).trans e
          exact ⟨gO, e, fun p r hr => ⟨kp (hc p r hr).1, kp (hc p r hr).2.1, kp (hc p r hr).2.2⟩⟩
        have RA6 := hide ((RA.out.below HBT.out).below hfg.below)
        have RB6 := hide ((RB.out.below HBT.out).below hfg.below)
        have HB6 := hide (HBT.out.trans (hfg.below.mono HBT.out.size))
        have HSH : Hid (∀ p, p < N → (f p = true ↔ Sh T p)) := hf
        clear hf hfg HRD HFG4 HFL4 RA RB HF HBT
        have HA0 : Hid (HAt w6.heap.size (w6.alloc (.cells #[] 45)) (.slice (some ⟨w6.heap.size, 0, none⟩) 0 0) []) := ⟨[], trivial, World.ownsRow_made _ #[] 0 (Nat.le_refl _) (by unfold maxLen; omega) rfl⟩
        have HC0 := hide (c6_start HMOK.out)
        clear HMOK
        go_wp2_with fail
        go_loopg [23, 24, 25, 26, 27] N (fun m v23 v24 v25 v26 v27 wx => ∃ (p hid old new : Nat) (hs1 hs2 : List Hk), m = N - p ∧ p ≤ N ∧ v27 = .int .i64 (p : Int) ∧ v24 = .int .i64 (hid : Int) ∧ v25 = .int .i64 (old : Int) ∧ v26 = .int .i64 (new : Int) ∧ old ≤ p ∧ new ≤ p ∧ hid ≤ p ∧ hs1.length ≤ p ∧ hs = hs1 ++ hs2 ∧ C6 A B T p hid old new hs2 rest ∧ HAt w6.heap.size wx v23 hs1 ∧ Below w6.heap.size w6 wx)
        case atStart => exact ⟨0, 0, 0, 0, [], hs, rfl, by omega, rfl, rfl, rfl, rfl, by omega, by omega, by omega, by simp, rfl, HC0.out, HA0.out, (Below.refl _ _).alloc (Nat.le_refl _) _⟩
        case round =>
          obtain ⟨p, hid, old, new, hs1, hs2, hm, hp, rfl, rfl, rfl, rfl, bo, bn, bh, bs, hhs, hc6, hat, hbw⟩ := hrel
          have HM := hide hm
          have HHS := hide hhs
          have HC6 := hide hc6
          have HAT := hide hat
          have HBW := hide hbw
          clear hm hhs hc6 hat hbw HA0 HC0
          by_cases hlt : p < N
          · have hd : (p : Int) < (N : Int) := by omega
            have fl := FLAG6.out p hlt
            have fl' := (HBW.out.cell (World.block_lt_of_cell? _ _ fl)).trans fl
            clear fl
            cases hfp : f p
            · rw [hfp] at fl'
              have HSK := hide (c6_skip HC6.out (fun h => by have := (HSH.out p hlt).2 h; rw [hfp] at this; cases this))
              go_wp2_with fail
              go_roundg (N - (p + 1))
              case measure => have := HM.out; omega
              case rel => exact ⟨p + 1, hid + 1, old + 1, new + 1, hs1, hs2, rfl, by omega, by go_num, by go_num, by go_num, by go_num, by omega, by omega, by omega, by omega, HHS.out, HSK.out, HAT.out, HBW.out⟩
            · rw [hfp] at fl'
              obtain ⟨Pre, HR, Post, k, hs', hhs2, hT, hPl, hall, hnx, x1, x2, x3, x4, x5, x6, hc6', hne⟩ := c6_hunk HC6.out (by have := HTN.out; omega) ((HSH.out p hlt).1 hfp)
              have HHS2 := hide hhs2
              have HTT := hide hT
              have HPL := hide hPl
              have HALL := hide hall
              have HNXS := hide hnx
              have X1 := hide x1
              have X2 := hide x2
              have X3 := hide x3
              have X4 := hide x4
              have X5 := hide x5
              have X6 := hide x6
              have HC7 := hide hc6'
              have hlen : p + HR.length ≤ N := by have := congrArg List.length hT; simp only [List.length_append] at this; have := HTN.out; omega
              have hne1 : 1 ≤ HR.length := List.length_pos_iff.2 hne
              clear hhs2 hT hPl hall hnx x1 x2 x3 x4 x5 x6 hc6' HC6 hne
              go_upto_block 12 with fail
              obtain ⟨w7, rfl⟩ : ∃ w7, w7 = wr := ⟨_, rfl⟩
              have HL7 : Hid (L6 w7 0 0 0 0 hid (.slice none 0 0) [] (w7.alloc (.cells #[.int .i64 0, .int .i64 0, .int .i64 0, .int .i64 0, .int .i64 (hid : Int), .slice none 0 0] 45))) := L6.new w7 0 0 0 0 hid
              generalize hwz : w7.alloc _ = wz at HL7 ⊢
              clear hwz fl'
              obtain ⟨pe, hpe⟩ : ∃ pe, pe = p + HR.length := ⟨_, rfl⟩
              have HPE := hide hpe
              clear hpe
              go_cut [27] from 142 to 247 (fun v27 wx => v27 = .int .i64 (pe : Int) ∧ L6E w7 0 (cO HR) 0 (cN HR) hid (HR.map (opOf A B)) wx)
              case first =>
                go_wp2_with fail
                go_loopg [27] HR.length (fun m v27 wx => ∃ (d r : List Rc) (q : Nat), HR = d ++ r ∧ m = r.length ∧ q = p + d.length ∧ v27 = .int .i64 (q : Int) ∧ L6E w7 0 (cO d) 0 (cN d) hid (d.map (opOf A B)) wx)
                case atStart => exact ⟨[], HR, p, rfl, rfl, rfl, rfl, _, HL7.out⟩
                case round =>
                  obtain ⟨d, r, q, hdr, hmm, hq, rfl, vl, hl⟩ := hrel
                  have HDR := hide hdr
                  have HMM := hide hmm
                  have HQ := hide hq
                  have HLX := hide hl
                  have HBX : Hid (Below w6.heap.size w6 wr) := HBW.out.trans (hl.below.mono HBW.out.size)
                  have hdl : HR.length = d.length + r.length := by rw [hdr, List.length_append]
                  clear hdr hmm hq hl HL7
                  cases r with
                  | nil =>
                    have hqe : q = pe := by have := HQ.out; have := HPE.out; simp only [List.length_nil] at hdl; omega
                    have HQE := hide hqe
                    have hHR : HR = d := by rw [HDR.out, List.append_nil]
                    have HHR := hide hHR
                    clear hqe hHR
                    by_cases hqn : q < N
                    · have hd2 : (q : Int) < (N : Int) := by omega
                      have fq := FLAG6.out q hqn
                      have hff : f q = false := by
                        cases e : f q
                        · rfl
                        · exfalso
                          have h1 := (HSH.out q hqn).1 e
                          rw [HQE.out, HPE.out] at h1
                          exact HNXS.out (by have := HTN.out; have := HQE.out; have := HPE.out; omega) h1
                      rw [hff] at fq
                      have fq' := (HBX.out.cell (World.block_lt_of_cell? _ _ fq)).trans fq
                      clear fq
                      go_wp2_with fail
                      go_meet
                      exact ⟨by rw [HQE.out], by rw [HHR.out]; exact ⟨_, HLX.out⟩⟩
                    · have hd2 : decide ((q : Int) < (N : Int)) = false := decide_eq_false (by omega)
                      have hd3 : decide (q < N) = false := decide_eq_false (by omega)
                      go_wp2_with fail
                      go_meet
                      exact ⟨by rw [HQE.out], by rw [HHR.out]; exact ⟨_, HLX.out⟩⟩
                  | cons rc r =>
                    simp only [List.length_cons] at hdl
                    have hqn : q < N := by have := HQ.out; omega
                    have hd2 : (q : Int) < (N : Int) := by omega
                    have fq := FLAG6.out q hqn
                    have hff : f q = true := (HSH.out q hqn).2 (by rw [HQ.out]; exact HALL.out d.length (by omega))
                    rw [hff] at fq
                    have fq' := (HBX.out.cell (World.block_lt_of_cell? _ _ fq)).trans fq
                    have hTq : T[q]? = some rc := by
                      rw [HTT.out, HDR.out, HQ.out, ← HPL.out, List.append_assoc, List.getElem?_append_right (by omega), Nat.add_sub_cancel_left, List.append_assoc, List.getElem?_append_right (by omega), Nat.sub_self]; rfl
                    have hmem := HMEM.out rc (List.mem_of_getElem? hTq)
                    obtain ⟨gO, hgO, hcO⟩ := OPS6.out (by intro e; rw [e] at hTq; simp at hTq)
                    obtain ⟨o0, o1, o2⟩ := hcO q rc hTq
                    have o0' := (HBX.out.cell (World.block_lt_of_cell? _ _ o0)).trans o0
                    have o1' := (HBX.out.cell (World.block_lt_of_cell? _ _ o1)).trans o1
                    have o2' := (HBX.out.cell (World.block_lt_of_cell? _ _ o2)).trans o2
                    obtain ⟨K, I, J⟩ := rc
                    simp only at hmem o0' o1' o2'
                    obtain ⟨ol, hol⟩ : ∃ ol, cO d = ol := ⟨_, rfl⟩
                    obtain ⟨nl, hnl⟩ : ∃ nl, cN d = nl := ⟨_, rfl⟩
                    rw [hol, hnl] at HLX
                    have HOL := hide hol
                    have HNL := hide hnl
                    have hob : ol ≤ 262144 ∧ nl ≤ 262144 := by
                      have a1 := cO_le d
                      have a2 := cN_le d
                      omega
                    obtain ⟨bol, bnl⟩ := hob
                    have hdb : d.length ≤ 262144 := by omega
                    subst hgO
                    clear fq o0 o1 o2 hcO hTq hol hnl
                    go_upto_region 58 with fail
                    have HLY7 := hide (HLX.out.alloc (.cells #[.int .u8 K, .int .i64 (I : Int), .int .i64 (J : Int)] 56))
                    have HBY : Hid (Below w6.heap.size w6 (wr.alloc (.cells #[.int .u8 K, .int .i64 (I : Int), .int .i64 (J : Int)] 56))) := HBX.out.alloc HBX.out.size _
                    have p0 : (wr.alloc (.cells #[.int .u8 K, .int .i64 (I : Int), .int .i64 (J : Int)] 56)).cell? ⟨wr.heap.size, 0, none⟩ = some (.int .u8 K) := by simp
                    have p1 : (wr.alloc (.cells #[.int .u8 K, .int .i64 (I : Int), .int .i64 (J : Int)] 56)).cell? ⟨wr.heap.size, 1, none⟩ = some (.int .i64 (I : Int)) := by simp
                    have p2 : (wr.alloc (.cells #[.int .u8 K, .int .i64 (I : Int), .int .i64 (J : Int)] 56)).cell? ⟨wr.heap.size, 2, none⟩ = some (.int .i64 (J : Int)) := by simp
                    generalize hwy : wr.alloc _ = wy at HLY7 HBY p0 p1 p2 ⊢
                    generalize hgc : wr.heap.size = g31 at p0 p1 p2 ⊢
                    clear hwy hgc o0' o1' o2' fq'
                    have e5 : wy.cell? ⟨w7.heap.size, 5, none⟩ = some vl := HLY7.out.row.cell (i := 5) (by omega)
                    rcases hmem with ⟨rfl, hix⟩ | ⟨rfl, hix⟩ | ⟨rfl, hix⟩
                    · have bI : I ≤ 131072 := by omega
                      obtain ⟨bX, oX, rfl, hcX⟩ := RA6.out (by omega)
                      have cX := hcX I hix
                      have cX' := (HBY.out.cell (World.block_lt_of_cell? _ _ cX)).trans cX
                      have hixi : (I : Int) < (la : Int) := by omega
                      have HMK := hide (mark1 HLY7.out.drew 32 ⟨#[32]⟩ (A I) enc32 (by omega) (S1.out _ hix) (by rw [List.length_map]; omega))
                      clear cX hcX
                      go_upto_region 59 with fail
                      go_cut [27] from 162 to 225 (fun v27 wx => v27 = .int .i64 (q : Int) ∧ L6E w7 0 ol 0 nl hid (d.map (opOf A B) ++ [(32, A I)]) wx)
                      case first =>
                        go_region_with (go_at_call 28; refine HMK.out.mono ?_; rintro e w9 ⟨a4, n4, c4, rfl, q5, ⟨u5, q6⟩, HO⟩)
                        all_goals as_aux_lemma =>
                          go_step
                          go_step
                          go_meet
                          exact ⟨rfl, _, HO.out.l6⟩
                      case rest =>
                        obtain ⟨rfl, vl8, hL8⟩ := hcut
                        have HL8 := hide hL8
                        clear hL8 HMK
                        have d1 : wc.cell? ⟨w7.heap.size, 1, none⟩ = some (.int .i64 (ol : Int)) := HL8.out.row.cell (i := 1) (by omega)
                        have g1 := HL8.out.row.frozen 1
                        have HN1 := hide (upd1 HL8.out (ol + 1))
                        have hcv1 : ((ol + 1 : Nat) : Int) = (ol : Int) + 1 := by omega
                        rw [hcv1] at HN1
                        go_upto_region 61 with fail
                        generalize hwn1 : wc.setCell _ _ = wn1 at HN1 ⊢
                        clear hwn1 d1 g1 hcv1
                        have d3 : wn1.cell? ⟨w7.heap.size, 3, none⟩ = some (.int .i64 (nl : Int)) := HN1.out.row.cell (i := 3) (by omega)
                        have g3 := HN1.out.row.frozen 3
                        have HN3 := hide (upd3 HN1.out (nl + 1))
                        have hcv3 : ((nl + 1 : Nat) : Int) = (nl : Int) + 1 := by omega
                        rw [hcv3] at HN3
                        go_upto_region 67 with fail
                        generalize hwn3 : wn1.setCell _ _ = wn3 at HN3 ⊢
                        clear hwn3 d3 g3 hcv3
                        go_wp2_with fail
                        go_roundg r.length
                        case measure => have := HMM.out; simp only [List.length_cons] at this; omega
                        case rel => exact ⟨d ++ [⟨32, I, J⟩], r, q + 1, by rw [HDR.out]; simp, rfl, by have := HQ.out; simp only [List.length_append, List.length_cons, List.length_nil]; omega, by go_num, _, by rw [List.map_append, cO_append, cN_append, HOL.out, HNL.out]; exact HN3.out⟩
                    · have bI : I ≤ 131072 := by omega
                      obtain ⟨bX, oX, rfl, hcX⟩ := RA6.out (by omega)
                      have cX := hcX I hix
                      have cX' := (HBY.out.cell (World.block_lt_of_cell? _ _ cX)).trans cX
                      have hixi : (I : Int) < (la : Int) := by omega
                      have HMK := hide (mark1 HLY7.out.drew 45 ⟨#[45]⟩ (A I) enc45 (by omega) (S1.out _ hix) (by rw [List.length_map]; omega))
                      clear cX hcX
                      go_upto_region 63 with fail
                      go_cut [27] from 162 to 225 (fun v27 wx => v27 = .int .i64 (q : Int) ∧ L6E w7 0 ol 0 nl hid (d.map (opOf A B) ++ [(45, A I)]) wx)
                      case first =>
                        go_region_with (go_at_call 28; refine HMK.out.mono ?_; rintro e w9 ⟨a4, n4, c4, rfl, q5, ⟨u5, q6⟩, HO⟩)
                        all_goals as_aux_lemma =>
                          go_step
                          go_step
                          go_meet
                          exact ⟨rfl, _, HO.out.l6⟩
                      case rest =>
                        obtain ⟨rfl, vl8, hL8⟩ := hcut
                        have HL8 := hide hL8
                        clear hL8 HMK
                        have d1 : wc.cell? ⟨w7.heap.size, 1, none⟩ = some (.int .i64 (ol : Int)) := HL8.out.row.cell (i := 1) (by omega)
                        have g1 := HL8.out.row.frozen 1
                        have HN1 := hide (upd1 HL8.out (ol + 1))
                        have hcv1 : ((ol + 1 : Nat) : Int) = (ol : Int) + 1 := by omega
                        rw [hcv1] at HN1
                        go_upto_region 67 with fail
                        generalize hwn1 : wc.setCell _ _ = wn1 at HN1 ⊢
                        clear hwn1 d1 g1 hcv1
                        go_wp2_with fail
                        go_roundg r.length
                        case measure => have := HMM.out; simp only [List.length_cons] at this; omega
                        case rel => exact ⟨d ++ [⟨45, I, J⟩], r, q + 1, by rw [HDR.out]; simp, rfl, by have := HQ.out; simp only [List.length_append, List.length_cons, List.length_nil]; omega, by go_num, _, by rw [List.map_append, cO_append, cN_append, HOL.out, HNL.out]; exact HN1.out⟩
                    · have bJ : J ≤ 131072 := by omega
                      obtain ⟨bX, oX, rfl, hcX⟩ := RB6.out (by omega)
                      have cX := hcX J hix
                      have cX' := (HBY.out.cell (World.block_lt_of_cell? _ _ cX)).trans cX
                      have hixi : (J : Int) < (lb : Int) := by omega
                      have HMK := hide (mark1 HLY7.out.drew 43 ⟨#[43]⟩ (B J) enc43 (by omega) (S2.out _ hix) (by rw [List.length_map]; omega))
                      clear cX hcX
                      go_upto_region 65 with fail
                      go_cut [27] from 162 to 225 (fun v27 wx => v27 = .int .i64 (q : Int) ∧ L6E w7 0 ol 0 nl hid (d.map (opOf A B) ++ [(43, B J)]) wx)
                      case first =>
                        go_region_with (go_at_call 28; refine HMK.out.mono ?_; rintro e w9 ⟨a4, n4, c4, rfl, q5, ⟨u5, q6⟩, HO⟩)
                        all_goals as_aux_lemma =>
                          go_step
                          go_step
                          go_meet
                          exact ⟨rfl, _, HO.out.l6⟩
                      case rest =>
                        obtain ⟨rfl, vl8, hL8⟩ := hcut
                        have HL8 := hide hL8
                        clear hL8 HMK
                        have d3 : wc.cell? ⟨w7.heap.size, 3, none⟩ = some (.int .i64 (nl : Int)) := HL8.out.row.cell (i := 3) (by omega)
                        have g3 := HL8.out.row.frozen 3
                        have HN3 := hide (upd3 HL8.out (nl + 1))
                        have hcv3 : ((nl + 1 : Nat) : Int) = (nl : Int) + 1 := by omega
                        rw [hcv3] at HN3
                        go_upto_region 67 with fail
                        generalize hwn3 : wc.setCell _ _ = wn3 at HN3 ⊢
                        clear hwn3 d3 g3 hcv3
                        go_wp2_with fail
                        go_roundg r.length
                        case measure => have := HMM.out; simp only [List.length_cons] at this; omega
                        case rel => exact ⟨d ++ [⟨43, I, J⟩], r, q + 1, by rw [HDR.out]; simp, rfl, by have := HQ.out; simp only [List.length_append, List.length_cons, List.length_nil]; omega, by go_num, _, by rw [List.map_append, cO_append, cN_append, HOL.out, HNL.out]; exact HN3.out⟩
              case rest =>
                obtain ⟨rfl, vl6, hL6⟩ := hcut
                obtain ⟨OL, hOL⟩ : ∃ OL, cO HR = OL := ⟨_, rfl⟩
                obtain ⟨NL, hNL⟩ : ∃ NL, cN HR = NL := ⟨_, rfl⟩
                have hob : OL ≤ HR.length ∧ NL ≤ HR.length := by rw [← hOL, ← hNL]; exact ⟨cO_le HR, cN_le HR⟩
                obtain ⟨bOL, bNL⟩ := hob
                rw [hOL, hNL] at hL6
                have HOL := hide hOL
                have HNL := hide hNL
                obtain ⟨a7, c7, rfl, -⟩ := own_read hL6.own
                generalize (flat (HR.map (opOf A B))).length = n7 at hL6 ⊢
                have HL8 := hide hL6
                have c1 : wc.cell? ⟨w7.heap.size, 1, none⟩ = some (.int .i64 (OL : Int)) := hL6.row.cell (i := 1) (by omega)
                have c3 : wc.cell? ⟨w7.heap.size, 3, none⟩ = some (.int .i64 (NL : Int)) := hL6.row.cell (i := 3) (by omega)
                have z0 := hL6.row.frozen 0
                have c0 := hL6.row.cell (i := 0) (by omega)
                have HN0 := hide (upd0 hL6 (HunkMath.start old (old + OL)))
                clear hL6 HL7 hOL hNL
                go_upto_region 71 with (go_at_call 29; refine (first_any _ _ _ (by omega) (by omega)).mono ?_; rintro e wA ⟨rfl, rfl⟩)
                generalize hwb : wA.setCell _ _ = wB at HN0 ⊢
                clear hwb c1 c3 z0 c0 HL8
                have c3 : wB.cell? ⟨w7.heap.size, 3, none⟩ = some (.int .i64 (NL : Int)) := HN0.out.row.cell (i := 3) (by omega)
                have z2 := HN0.out.row.frozen 2
                have c2 := HN0.out.row.cell (i := 2) (by omega)
                have HN2 := hide (upd2 HN0.out (HunkMath.start new (new + NL)))
                clear HN0
                go_upto_region 72 with (go_at_call 29; refine (first_any _ _ _ (by omega) (by omega)).mono ?_; rintro e wD ⟨rfl, rfl⟩)
                generalize hwb : wD.setCell _ _ = wE at HN2 ⊢
                clear hwb c3 z2 c2
                obtain ⟨OS, hOS⟩ : ∃ OS, HunkMath.start old (old + OL) = OS := ⟨_, rfl⟩
                obtain ⟨NS, hNS⟩ : ∃ NS, HunkMath.start new (new + NL) = NS := ⟨_, rfl⟩
                rw [hOS, hNS] at HN2
                have HOS := hide hOS
                have HNS := hide hNS
                clear hOS hNS
                have d0 : wE.cell? ⟨w7.heap.size, 0, none⟩ = some (.int .i64 (OS : Int)) := HN2.out.row.cell (i := 0) (by omega)
                have d1 : wE.cell? ⟨w7.heap.size, 1, none⟩ = some (.int .i64 (OL : Int)) := HN2.out.row.cell (i := 1) (by omega)
                have d2 : wE.cell? ⟨w7.heap.size, 2, none⟩ = some (.int .i64 (NS : Int)) := HN2.out.row.cell (i := 2) (by omega)
                have d3 : wE.cell? ⟨w7.heap.size, 3, none⟩ = some (.int .i64 (NL : Int)) := HN2.out.row.cell (i := 3) (by omega)
                have d4 : wE.cell? ⟨w7.heap.size, 4, none⟩ = some (.int .i64 (hid : Int)) := HN2.out.row.cell (i := 4) (by omega)
                have d5 : wE.cell? ⟨w7.heap.size, 5, none⟩ = some (.slice a7 n7 c7) := HN2.out.row.cell (i := 5) (by omega)
                obtain ⟨vs, hln, hown⟩ := HAT.out.below HN2.out.below
                have HLN := hide hln
                have HOWN := hide hown
                have hsz6 := HBW.out.size
                have hsz7 : w6.heap.size ≤ wE.heap.size := Nat.le_trans hsz6 HN2.out.below.size
                have HBE := hide (HBW.out.trans (HN2.out.below.mono hsz6))
                obtain ⟨i5, hi5, hz50, hz51, hz52⟩ := info_parts info45
                have HS67 := hide hsz6
                have HS7 := hide hsz7
                clear hln hown hsz6 hsz7
                have hsl : hs1.length + 1 ≤ 262145 := by omega
                go_wp2_with (at_builtin; refine wpList_append_own_at _ rfl (.tmp 244) (.tmp 246) 39 rfl w6.heap.size 45 i5 _ 6 64 Try.underlying39 hi5 hz50 hz51 hz52 rfl (by decide) _ _ _ rfl (HOWN.out.alloc _) _ 1 1 [.int .i64 (OS : Int), .int .i64 (OL : Int), .int .i64 (NS : Int), .int .i64 (NL : Int), .int .i64 (hid : Int), .slice a7 n7 c7] rfl rfl (six_new _ _ _ _ _ _ _ _ _ rfl) (six_cell _ _ _ _ _ _ _ _) (by unfold maxLen; omega) (by omega) (by rw [World.size_alloc]; have := HS7.out; omega) ?_)
                intro v1 wF hown1 hgrow1 _ hblk1
                have HAT1 : Hid (HAt w6.heap.size wF v1 (hs1 ++ [k])) := by
                  refine push2 (lines_map (fun v n xs h => h.alloc _) hs1 vs HLN.out) (HOWN.out.alloc _) (vl := .slice a7 n7 c7) ?_ ?_ hgrow1
                  · rw [X6.out]; exact own_mono (HN2.out.own.alloc _) (by have := HS67.out; omega)
                  · rw [X1.out, X2.out, X3.out, X4.out, X5.out, HOL.out, HNL.out, HOS.out, HNS.out]; exact hown1
                have HBF := hide ((HBE.out.alloc HS7.out _).grown hgrow1 (by rw [World.size_alloc]; have := HS7.out; omega) (fun g hg => (HOWN.out.lt g hg).1))
                have HC8 : Hid (C6 A B T pe 0 (old + OL) (new + NL) hs' rest) := by rw [HPE.out, ← HOL.out, ← HNL.out]; exact HC7.out
                clear hown1 hgrow1 hblk1
                have hpe := HPE.out
                go_wp2_with fail
                go_roundg (N - pe)
                case measure => have := HM.out; omega
                case rel => exact ⟨pe, 0, old + OL, new + NL, hs1 ++ [k], hs', rfl, by omega, rfl, rfl, by go_num, by go_num, by omega, by omega, by omega, by simp only [List.length_append, List.length_cons, List.length_nil]; omega, by rw [HHS.out, HHS2.out]; simp, HC8.out, HAT1.out, HBF.out⟩
          · have hd : (N : Int) ≤ (p : Int) := by omega
            obtain ⟨e1, e2⟩ := c6_end HC6.out (by have := HTN.out; omega)
            have E1 := hide e1
            have E2 := hide e2
            clear e1 e2
            go_wp2_with fail
            go_ret2
            exact ⟨_, ret_pair (by rw [E2.out]), by
              have := HHS.out
              rw [E1.out, List.append_nil] at this
              rw [this]; exact hat_mono HAT.out HB6.out.size, HB6.out.trans (HBW.out.mono HB6.out.size)⟩
end Go.Proofs.Qxb6605269a.ModelWalk
