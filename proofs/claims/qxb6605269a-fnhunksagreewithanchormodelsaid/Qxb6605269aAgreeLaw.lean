import Derived.Test.Qxb6605269aPatchLaw
import Derived.Test.Qxb6605269aModelWalk
set_option linter.unusedVariables false
set_option linter.unusedSimpArgs false
namespace Go.Proofs.Qxb6605269a.AgreeLaw
open Go.ChangeShapes Go.WideShapes Go.ChangeAt Go.RowKit
open Go.Proofs.Qxb6605269a.Lcs (hide rowIs_drewN info3)
open Go.Proofs.Qxb6605269a.Strs
open Go.Proofs.Qxb6605269a.Mark
open Go.Proofs.Qxb6605269a.MarkLaw (listOf listOf_len Shape Cp clone_any)
open Go.Proofs.Qxb6605269a.HunkBools
open Go.Proofs.Qxb6605269a.HunkZz
open Go.Proofs.Qxb6605269a.HunkMath
open Go.Proofs.Qxb6605269a.HunkMem
open Go.Proofs.Qxb6605269a.HunkGood
open Go.Proofs.Qxb6605269a.HunkStage
open Go.Proofs.Qxb6605269a.HunkWalk (PostH)
open Go.Proofs.Qxb6605269a.ApplyMath
open Go.Proofs.Qxb6605269a.ModelMath
open Go.Proofs.Qxb6605269a.ModelBits
open Go.Proofs.Qxb6605269a.ModelWalk (RdN RdN.below model_any)
open Go.Proofs.Qxb6605269a.PatchLaw

set_option maxRecDepth 100000 in
set_option maxHeartbeats 40000000 in
theorem law (A B : Nat → ByteArray) (R D : Nat → Bool) (a b r d : Option Addr) (la ca lb cb lr cr ld cd : Nat) (w : World)
    (m1 : la ≤ 9223372036854775807) (m2 : lb ≤ 9223372036854775807) (m3 : lr ≤ 9223372036854775807) (m4 : ld ≤ 9223372036854775807)
    (s1 : ∀ i, i < la → (A i).size ≤ 9223372036854775807) (s2 : ∀ i, i < lb → (B i).size ≤ 9223372036854775807)
    (sa : Shape a la ca) (sb : Shape b lb cb) (sr : Shape r lr cr) (sd : Shape d ld cd) (ra : Rd w a la A) (rb : Rd w b lb B) (rr : RdB w r lr R) (rd : RdB w d ld D) :
    Calls Try.prog 5 #[.slice a la ca, .slice b lb cb, .slice r lr cr, .slice d ld cd] w fun e w' => e = .returned (.bool true) ∧ Below w.heap.size w w' := by
  have SA := hide sa
  have SB := hide sb
  have SR := hide sr
  have SD := hide sd
  have RA := hide ra
  have RB := hide rb
  have RR := hide rr
  have RD := hide rd
  have S1 := hide s1
  have S2 := hide s2
  clear sa sb sr sd ra rb rr rd s1 s2
  go_enter Try.func5, Try.ntmps5
  go_wp2_with fail
  refine (zz16 _ _ _ _ _ _ _ _ _ _ _ _ A B _ m1 m2 m3 m4 RA.out RB.out).mono ?_
  rintro e w' ⟨z, rfl, rfl⟩
  cases z
  · go_wp2_with fail
    go_ret
    exact ⟨rfl, Below.refl _ _⟩
  go_wp2_with fail
  refine (take_any _ _ _ _ A _ (by omega) m1 RA.out S1.out).mono ?_
  rintro e w' ⟨r1, rfl, rfl, hr1, hr1s⟩
  have HR1 := hide hr1s
  clear hr1s
  go_wp2_with fail
  refine (take_any _ _ _ _ B _ hr1 m2 RB.out S2.out).mono ?_
  rintro e w' ⟨r2, rfl, rfl, hr2, hr2s⟩
  have HR2 := hide hr2s
  clear hr2s
  go_wp2_with fail
  refine (takeb_any _ _ _ _ _ hr2 m3).mono ?_
  rintro e w' ⟨r3, rfl, rfl, hr3, hr3s⟩
  have HR3 := hide hr3s
  clear hr3s
  go_wp2_with fail
  refine (takeb_any _ _ _ _ _ hr3 m4).mono ?_
  rintro e w' ⟨r4, rfl, rfl, hr4, hr4s⟩
  have HR4 := hide hr4s
  clear hr4s
  by_cases hpos : 0 ≤ r4
  case neg =>
    have hneg : r4 < 0 := by omega
    clear hpos
    go_wp2_with fail
    go_ret
    exact ⟨rfl, Below.refl _ _⟩
  have hr3p : 0 ≤ r3 := by have := HR4.out hpos; omega
  have hr2p : 0 ≤ r2 := by have := HR3.out hr3p; omega
  have hr1p : 0 ≤ r1 := by have := HR2.out hr2p; omega
  have hb1 : la ≤ 131072 := by have := HR1.out hr1p; omega
  have hb2 : lb ≤ 131072 := by have := HR2.out hr2p; omega
  have HS1 : Hid (∀ i, i < la → (A i).size ≤ 1048576) := by
    intro i hi
    have e1 := HR1.out hr1p
    have e2 := tot_at A la i hi
    omega
  have HS2 : Hid (∀ i, i < lb → (B i).size ≤ 1048576) := by
    intro i hi
    have e1 := HR2.out hr2p
    have e2 := tot_at B lb i hi
    omega
  clear HR1 HR2 HR3 HR4 S1 S2 hr1 hr2 hr3 hr1p hr2p hr3p
  have hdr4 : decide (r4 < 0) = false := decide_eq_false (by omega)
  by_cases hl1 : lr = la
  case neg =>
    have hd1 : ((lr : Int) == (la : Int)) = false := by simp; omega
    have hd2 : (lr == la) = false := by simp; omega
    go_wp2_with fail
    go_ret
    exact ⟨rfl, Below.refl _ _⟩
  by_cases hl2 : ld = lb
  case neg =>
    have hd1 : ((ld : Int) == (lb : Int)) = false := by simp; omega
    have hd2 : (ld == lb) = false := by simp; omega
    subst hl1
    go_wp2_with fail
    go_ret
    exact ⟨rfl, Below.refl _ _⟩
  subst hl1 hl2
  go_wp2_with fail
  refine (unmarked_any _ _ _ R _ (by omega) RR.out).mono ?_
  rintro e w1 ⟨v1, rfl, ho1, hb1'⟩
  have HB1 := hide hb1'
  obtain ⟨a10, c10, rfl, hrd1⟩ := own_ints ho1
  have HU1 := hide hrd1
  clear ho1 hb1' hrd1
  go_wp2_with fail
  refine (unmarked_any _ _ _ D _ (by omega) (RD.out.below HB1.out)).mono ?_
  rintro e w2 ⟨v2, rfl, ho2, hb2'⟩
  have HB2 := hide hb2'
  obtain ⟨a11, c11, rfl, hrd2⟩ := own_ints ho2
  have HU2 := hide hrd2
  clear ho2 hb2' hrd2
  have hul1 := um_len R lr
  have hul2 := um_len D ld
  obtain ⟨n1, hn1⟩ : ∃ n1, (um R lr).length = n1 := ⟨_, rfl⟩
  obtain ⟨n2, hn2⟩ : ∃ n2, (um D ld).length = n2 := ⟨_, rfl⟩
  rw [hn1] at hul1 ⊢
  rw [hn2] at hul2 ⊢
  have HN1 := hide hn1
  have HN2 := hide hn2
  have hz1 := HB1.out.size
  have HBW := hide (HB1.out.trans (HB2.out.mono hz1))
  clear hn1 hn2
  by_cases hnn : n1 = n2
  case neg =>
    have hd1 : ((n1 : Int) == (n2 : Int)) = false := by simp; omega
    have hd2 : (n1 == n2) = false := by simp; omega
    go_wp2_with fail
    go_ret
    exact ⟨rfl, HBW.out⟩
  subst hnn
  have HCN : Hid (cnt R lr lr = cnt D ld ld) := by
    have e1 := um_cnt R lr
    have e2 := um_cnt D ld
    have := HN1.out
    have := HN2.out
    show cnt R lr lr = cnt D ld ld
    omega
  have HBz := HBW
  have U1 : Hid (RdN w1 a10 (um R lr)) := HU1.out
  have U2 : Hid (RdN w2 a11 (um D ld)) := HU2.out
  have U1b := hide (U1.out.below HB2.out)
  clear HU1 HU2 HB1 U1
  go_wp2_with fail
  refine (clone_any _ _ _ A _ (by omega) SA.out (RA.out.below HBz.out)).mono ?_
  rintro e w3 ⟨a3, c3, rfl, p3⟩
  have P3 := hide p3
  clear p3
  go_wp2_with fail
  refine (clone_any _ _ _ B _ (by omega) SB.out ((RB.out.below HBz.out).below P3.out.below)).mono ?_
  rintro e w4 ⟨a4, c4, rfl, p4⟩
  have P4 := hide p4
  clear p4
  go_wp2_with fail
  refine (cloneb_any _ _ _ R _ (by omega) SR.out (((RR.out.below HBz.out).below P3.out.below).below P4.out.below)).mono ?_
  rintro e w5 ⟨a5, c5, rfl, p5⟩
  have P5 := hide p5
  clear p5
  go_wp2_with fail
  refine (cloneb_any _ _ _ D _ (by omega) SD.out ((((RD.out.below HBz.out).below P3.out.below).below P4.out.below).below P5.out.below)).mono ?_
  rintro e w6 ⟨a6, c6, rfl, p6⟩
  have P6 := hide p6
  clear p6
  have z3 := P3.out.below.size
  have z4 := P4.out.below.size
  have z5 := P5.out.below.size
  have z6 := P6.out.below.size
  have RA6 := hide (((P3.out.rd.below P4.out.below).below P5.out.below).below P6.out.below)
  have RB6 := hide ((P4.out.rd.below P5.out.below).below P6.out.below)
  have RR6 := hide (P5.out.rd.below P6.out.below)
  have RD6 := hide P6.out.rd
  have U16 := hide ((((U1b.out.below P3.out.below).below P4.out.below).below P5.out.below).below P6.out.below)
  have U26 := hide ((((U2.out.below P3.out.below).below P4.out.below).below P5.out.below).below P6.out.below)
  have BA6 : Hid (∀ x, a3 = some x → x.block < w6.heap.size) := fun x hx => Nat.lt_of_lt_of_le (own_blk P3.out.own x hx) (by omega)
  have BB6 : Hid (∀ x, a4 = some x → x.block < w6.heap.size) := fun x hx => Nat.lt_of_lt_of_le (own_blk P4.out.own x hx) (by omega)
  have KA6 := hide (own_cap P3.out.own)
  have KB6 := hide (own_cap P4.out.own)
  have hz0 := HBz.out.size
  have HB6 := hide ((((HBz.out.trans (P3.out.below.mono hz0)).trans (P4.out.below.mono (by omega))).trans (P5.out.below.mono (by omega))).trans (P6.out.below.mono (by omega)))
  clear P3 P4 P5 P6 RA RB RR RD SA SB SR SD HBW HBz z3 z4 z5 z6 hz0
  go_wp2_with fail
  refine (zzhunks_any A B R D _ _ _ _ _ _ _ _ _ _ _ hb1 hb2 RA6.out RB6.out RR6.out RD6.out HCN.out HS1.out HS2.out KA6.out KB6.out BA6.out BB6.out).mono ?_
  rintro e w7 ⟨S, gf, hs, rest, v7, rfl, hseg, hg1, hg2, htl, htg, hok, hat, hb7⟩
  obtain ⟨T, hT⟩ : ∃ T, T = lay 0 0 S ++ k32 (endA 0 S) (endB 0 S) gf := ⟨_, rfl⟩
  have HLAY : Hid (Lay R D lr ld 0 0 T) := by rw [hT]; exact lay_of hg1 hg2 htl S 0 0 hseg htg
  have HMOK : Hid (MOK A B T 0 0 0 hs rest) := by
    have he := (Seg.ends S hseg).1
    have := mok_of (T := T) (gf := gf) hok [] (by rw [hT]; rfl) (by omega) (seg_ne hseg) (Or.inl ⟨rfl, rfl⟩)
    exact this
  obtain ⟨aH, cH, rfl, hmx, hrh⟩ := hat_read hat
  have HRH := hide hrh
  have HMX := hide hmx
  have RA7 := hide (RA6.out.below hb7)
  have RB7 := hide (RB6.out.below hb7)
  have U17 := hide (U16.out.below hb7)
  have U27 := hide (U26.out.below hb7)
  have HB8 := hide (HB6.out.trans (hb7.mono HB6.out.size))
  clear hT hseg hg1 hg2 htl htg hok hat hb7 hmx hrh HB6 RA6 RB6 RR6 RD6 U16 U26 U1b U2 HB2
  go_wp2_with fail
  refine (model_any A B R D _ _ _ _ _ _ _ _ _ _ _ T hs rest _ hb1 hb2 RA7.out RB7.out HN1.out HN2.out U17.out U27.out HS1.out HS2.out HLAY.out HMOK.out).mono ?_
  rintro e w8 ⟨v8, rfl, hat8, hb8⟩
  obtain ⟨aW, cW, rfl, hmx8, hrh8⟩ := hat_read hat8
  have HRW := hide hrh8
  have HRG := hide (rdhs_below HRH.out hb8)
  have HB9 := hide (HB8.out.trans (hb8.mono HB8.out.size))
  have hlm : hs.length ≤ 9223372036854775807 := by unfold maxLen at hmx8; omega
  obtain ⟨N, hN⟩ : ∃ N, hs.length = N := ⟨_, rfl⟩
  rw [hN] at hlm ⊢
  have HNN := hide hN
  clear hat8 hb8 hmx8 hrh8 HRH HMX hN
  go_wp2_with fail
  go_loopg [16] N (fun g i wr => ∃ k : Nat, g = N - k ∧ k ≤ N ∧ i = .int .i64 (k : Int) ∧ Below w8.heap.size w8 wr)
  case atStart => exact ⟨0, rfl, by omega, rfl, Below.refl _ _⟩
  case round =>
    obtain ⟨k, hg, hk, rfl, hbr⟩ := hrel
    have HG := hide hg
    have HBR := hide hbr
    clear hg hbr
    by_cases hlt : k < N
    · have hd : (k : Int) < (N : Int) := by omega
      obtain ⟨P, h, Q, hPQ, hPl⟩ : ∃ P h Q, hs = P ++ h :: Q ∧ P.length = k := by
        have hl : k < hs.length := by rw [HNN.out]; exact hlt
        exact ⟨hs.take k, hs[k], hs.drop (k + 1), by rw [← List.drop_eq_getElem_cons hl, List.take_append_drop], by rw [List.length_take]; omega⟩
      obtain ⟨g1, al, cl, rfl, k0, k1, k2, k3, k4, k5, kmax, kl⟩ := HRG.out P h Q hPQ
      obtain ⟨g2, bl, dl, rfl, l0, l1, l2, l3, l4, l5, _, ll⟩ := HRW.out P h Q hPQ
      rw [hPl] at k0 k1 k2 k3 k4 k5 l0 l1 l2 l3 l4 l5
      have kp : ∀ {q : Addr} {v : Value}, w8.cell? q = some v → wr.cell? q = some v := fun e => (HBR.out.cell (World.block_lt_of_cell? _ _ e)).trans e
      have k0' := kp k0
      have k1' := kp k1
      have k2' := kp k2
      have k3' := kp k3
      have k4' := kp k4
      have k5' := kp k5
      have l0' := kp l0
      have l1' := kp l1
      have l2' := kp l2
      have l3' := kp l3
      have l4' := kp l4
      have l5' := kp l5
      obtain ⟨M, hM⟩ : ∃ M, (flat h.ops).length = M := ⟨_, rfl⟩
      rw [hM] at k5' l5' kmax kl ll
      have HSM : Hid (Calls Try.prog 22 #[.agg #[.int .i64 (h.os : Int), .int .i64 (h.ol : Int), .int .i64 (h.ns : Int), .int .i64 (h.nl : Int), .int .i64 (h.ub : Int), .slice al M cl], .agg #[.int .i64 (h.os : Int), .int .i64 (h.ol : Int), .int .i64 (h.ns : Int), .int .i64 (h.nl : Int), .int .i64 (h.ub : Int), .slice bl M dl]] wr.drew fun e w' => e = .returned (.bool true) ∧ Below wr.drew.heap.size wr.drew w') := by
        refine same_any h.os h.ol h.ns h.nl h.ub M al bl cl dl (fun i => (flat h.ops).getD i nonl) wr.drew (by unfold maxLen at kmax; omega) ?_ ?_
        · intro h0
          obtain ⟨gl, e1, e2⟩ := kl h0
          exact ⟨gl, e1, fun i hi => by
            have := kp (e2 i hi)
            exact this⟩
        · intro h0
          obtain ⟨gl, e1, e2⟩ := ll h0
          exact ⟨gl, e1, fun i hi => by
            have := kp (e2 i hi)
            exact this⟩
      clear k0 k1 k2 k3 k4 k5 l0 l1 l2 l3 l4 l5 kp kl ll hM kmax
      go_upto_region 26 with fail
      go_cut [106] from 91 to 106 (fun v106 wx => v106 = .bool false ∧ Below w8.heap.size w8 wx)
      case first =>
        go_region_with (go_at_call 22; refine HSM.out.mono ?_; rintro e wz ⟨rfl, hbz⟩; have HBZ := hide hbz; clear hbz)
        all_goals as_aux_lemma =>
          go_step
          go_step
          go_meet
          exact ⟨rfl, HBR.out.drew.trans (HBZ.out.mono HBR.out.size)⟩
      case rest =>
        obtain ⟨rfl, hbc⟩ := hcut
        have HBC := hide hbc
        clear hbc HSM
        go_wp2_with fail
        go_roundg (N - (k + 1))
        case measure => have := HG.out; omega
        case rel => exact ⟨k + 1, rfl, by omega, by go_num, HBC.out⟩
    · have hd : (N : Int) ≤ (k : Int) := by omega
      go_wp2_with fail
      go_ret
      exact ⟨rfl, HB9.out.trans (HBR.out.mono HB9.out.size)⟩
end Go.Proofs.Qxb6605269a.AgreeLaw
