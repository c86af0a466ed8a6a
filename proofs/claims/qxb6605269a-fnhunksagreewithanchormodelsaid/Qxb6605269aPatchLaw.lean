import Derived.Test.Qxb6605269aHunkWalk
import Derived.Test.Qxb6605269aApplyWalk
import Derived.Test.Qxb6605269aHunkZz
set_option linter.unusedVariables false
set_option linter.unusedSimpArgs false
namespace Go.Proofs.Qxb6605269a.PatchLaw
open Go.ChangeShapes Go.WideShapes Go.ChangeAt Go.RowKit
open Go.Proofs.Qxb6605269a.Lcs (hide rowIs_drewN info3)
open Go.Proofs.Qxb6605269a.Strs
open Go.Proofs.Qxb6605269a.Mark
open Go.Proofs.Qxb6605269a.MarkLaw (listOf listOf_len Shape Cp clone_any)
open Go.Proofs.Qxb6605269a.HunkBools
open Go.Proofs.Qxb6605269a.HunkZz
open Go.Proofs.Qxb6605269a.HunkMath
open Go.Proofs.Qxb6605269a.HunkMem
open Go.Proofs.Qxb6605269a.HunkGood
open Go.Proofs.Qxb6605269a.HunkStage
open Go.Proofs.Qxb6605269a.HunkWalk (PostH hunks_any)
open Go.Proofs.Qxb6605269a.ApplyMath
open Go.Proofs.Qxb6605269a.ApplyWalk (apply_any)

theorem zzhunks_any (A B : Nat → ByteArray) (R D : Nat → Bool) (a b r d : Option Addr) (la ca lb cb cr cd : Nat) (w : World)
    (m1 : la ≤ 131072) (m2 : lb ≤ 131072) (ra : Rd w a la A) (rb : Rd w b lb B) (rr : RdB w r la R) (rd : RdB w d lb D) (hcnt : cnt R la la = cnt D lb lb)
    (s1 : ∀ i, i < la → (A i).size ≤ 1048576) (s2 : ∀ i, i < lb → (B i).size ≤ 1048576)
    (ka : la ≤ ca) (kb : lb ≤ cb) (ba : ∀ x, a = some x → x.block < w.heap.size) (bb : ∀ x, b = some x → x.block < w.heap.size) :
    Calls Try.prog 20 #[.slice a la ca, .slice b lb cb, .slice r la cr, .slice d lb cd] w fun e w' => PostH A B R D la lb w e w' := by
  have HM := hide (hunks_any A B R D a b r d la ca lb cb cr cd w m1 m2 ra rb rr rd hcnt s1 s2 ka kb ba bb)
  clear ra rb rr rd hcnt s1 s2 ka kb ba bb
  go_enter Try.func20, Try.ntmps20
  go_wp2_with fail
  refine HM.out.mono ?_
  rintro e w' ⟨S, gf, hs, rest, v, rfl, hP⟩
  have HP := hide hP
  clear hP
  go_wp2_with fail
  go_ret2
  exact ⟨S, gf, hs, rest, v, rfl, HP.out⟩

theorem own_ints {w : World} {base : Nat} {v : Value} {l : List Nat} (h : w.ownsRow base 3 1 v l.length (ints l)) :
    ∃ a cap, v = .slice a l.length cap ∧ (0 < l.length → ∃ g, a = some ⟨g, 0, none⟩ ∧ ∀ (i x : Nat), l[i]? = some x → w.cell? ⟨g, i, none⟩ = some (.int .i64 (x : Int))) := by
  have h' := h
  rcases h.2 with ⟨e, e2⟩ | ⟨g, cap, cur, e, hb, hh, r1, r2, r3, r4⟩
  · exact ⟨none, 0, by rw [e, e2], fun h0 => absurd h0 (by omega)⟩
  · subst e
    refine ⟨_, _, rfl, fun _ => ⟨g, rfl, fun i x hx => ?_⟩⟩
    have hi := (List.getElem?_eq_some_iff.1 hx).1
    rw [h'.cellAt i (by omega)]
    have : (ints l)[i]? = some (.int .i64 (x : Int)) := by simp [ints, hx]
    rw [Nat.mul_one] at *
    simp [this]
theorem um_lt (R : Nat → Bool) : ∀ (n : Nat) (x : Nat), x ∈ um R n → x < n
  | 0, x, h => by simp [um] at h
  | n + 1, x, h => by
    rw [um, List.mem_append] at h
    rcases h with h | h
    · have := um_lt R n x h; omega
    · cases hR : R n
      · rw [hR] at h; simp at h; omega
      · rw [hR] at h; simp at h
theorem own_cap {w : World} {base n m cap : Nat} {a : Option Addr} {xs : List Value} (h : w.ownsRow base 9 1 (.slice a m cap) n xs) : m ≤ cap := by
  rcases h.2 with ⟨e, _⟩ | ⟨g, c, cur, e, _, _, r1, _⟩
  · simp only [Value.slice.injEq] at e; omega
  · simp only [Value.slice.injEq] at e; omega
theorem own_blk {w : World} {base n m cap : Nat} {a : Option Addr} {xs : List Value} (h : w.ownsRow base 9 1 (.slice a m cap) n xs) : ∀ x, a = some x → x.block < w.heap.size := by
  intro x hx
  exact (h.lt x.block (by rw [hx]; rfl)).2

theorem rdhs_below {w wx : World} {a : Option Addr} {hs : List Hk} (h : RdHs w a hs) (hb : Below w.heap.size w wx) : RdHs wx a hs := by
  have k : ∀ {p : Addr} {v : Value}, w.cell? p = some v → wx.cell? p = some v := fun e => (hb.cell (World.block_lt_of_cell? _ _ e)).trans e
  intro P x Q e
  obtain ⟨g, al, cl, e0, e1, e2, e3, e4, e5, e6, e7, e8⟩ := h P x Q e
  refine ⟨g, al, cl, e0, k e1, k e2, k e3, k e4, k e5, k e6, e7, fun h0 => ?_⟩
  obtain ⟨gl, f1, f2⟩ := e8 h0
  exact ⟨gl, f1, fun i hi => k (f2 i hi)⟩
theorem str_ne {x y : ByteArray} (h : x ≠ y) : (x.toList == y.toList) = false := by
  rw [beq_eq_false_iff_ne, ByteArray.toList_eq, ByteArray.toList_eq]
  intro e
  exact h (MarkLaw.ext_toList e)

set_option maxRecDepth 100000 in
set_option maxHeartbeats 40000000 in
theorem law (A B : Nat → ByteArray) (R D : Nat → Bool) (a b r d : Option Addr) (la ca lb cb lr cr ld cd : Nat) (w : World)
    (m1 : la ≤ 9223372036854775807) (m2 : lb ≤ 9223372036854775807) (m3 : lr ≤ 9223372036854775807) (m4 : ld ≤ 9223372036854775807)
    (s1 : ∀ i, i < la → (A i).size ≤ 9223372036854775807) (s2 : ∀ i, i < lb → (B i).size ≤ 9223372036854775807)
    (sa : Shape a la ca) (sb : Shape b lb cb) (sr : Shape r lr cr) (sd : Shape d ld cd) (ra : Rd w a la A) (rb : Rd w b lb B) (rr : RdB w r lr R) (rd : RdB w d ld D) :
    Calls Try.prog 6 #[.slice a la ca, .slice b lb cb, .slice r lr cr, .slice d ld cd] w fun e w' => e = .returned (.bool true) ∧ Below w.heap.size w w' := by
  have SA := hide sa
  have SB := hide sb
  have SR := hide sr
  have SD := hide sd
  have RA := hide ra
  have RB := hide rb
  have RR := hide rr
  have RD := hide rd
  have S1 := hide s1
  have S2 := hide s2
  clear sa sb sr sd ra rb rr rd s1 s2
  go_enter Try.func6, Try.ntmps6
  go_wp2_with fail
  refine (zz23 _ _ _ _ _ _ _ _ _ _ _ _ A B _ m1 m2 m3 m4 RA.out RB.out).mono ?_
  rintro e w' ⟨z, rfl, rfl⟩
  cases z
  · go_wp2_with fail
    go_ret
    exact ⟨rfl, Below.refl _ _⟩
  go_wp2_with fail
  refine (take_any _ _ _ _ A _ (by omega) m1 RA.out S1.out).mono ?_
  rintro e w' ⟨r1, rfl, rfl, hr1, hr1s⟩
  have HR1 := hide hr1s
  clear hr1s
  go_wp2_with fail
  refine (take_any _ _ _ _ B _ hr1 m2 RB.out S2.out).mono ?_
  rintro e w' ⟨r2, rfl, rfl, hr2, hr2s⟩
  have HR2 := hide hr2s
  clear hr2s
  go_wp2_with fail
  refine (takeb_any _ _ _ _ _ hr2 m3).mono ?_
  rintro e w' ⟨r3, rfl, rfl, hr3, hr3s⟩
  have HR3 := hide hr3s
  clear hr3s
  go_wp2_with fail
  refine (takeb_any _ _ _ _ _ hr3 m4).mono ?_
  rintro e w' ⟨r4, rfl, rfl, hr4, hr4s⟩
  have HR4 := hide hr4s
  clear hr4s
  by_cases hpos : 0 ≤ r4
  case neg =>
    have hneg : r4 < 0 := by omega
    clear hpos
    go_wp2_with fail
    go_ret
    exact ⟨rfl, Below.refl _ _⟩
  have hr3p : 0 ≤ r3 := by have := HR4.out hpos; omega
  have hr2p : 0 ≤ r2 := by have := HR3.out hr3p; omega
  have hr1p : 0 ≤ r1 := by have := HR2.out hr2p; omega
  have hb1 : la ≤ 131072 := by have := HR1.out hr1p; omega
  have hb2 : lb ≤ 131072 := by have := HR2.out hr2p; omega
  have HS1 : Hid (∀ i, i < la → (A i).size ≤ 1048576) := by
    intro i hi
    have e1 := HR1.out hr1p
    have e2 := tot_at A la i hi
    omega
  have HS2 : Hid (∀ i, i < lb → (B i).size ≤ 1048576) := by
    intro i hi
    have e1 := HR2.out hr2p
    have e2 := tot_at B lb i hi
    omega
  clear HR1 HR2 HR3 HR4 S1 S2 hr1 hr2 hr3 hr1p hr2p hr3p
  have hdr4 : decide (r4 < 0) = false := decide_eq_false (by omega)
  by_cases hl1 : lr = la
  case neg =>
    have hd1 : ((lr : Int) == (la : Int)) = false := by simp; omega
    have hd2 : (lr == la) = false := by simp; omega
    go_wp2_with fail
    go_ret
    exact ⟨rfl, Below.refl _ _⟩
  by_cases hl2 : ld = lb
  case neg =>
    have hd1 : ((ld : Int) == (lb : Int)) = false := by simp; omega
    have hd2 : (ld == lb) = false := by simp; omega
    subst hl1
    go_wp2_with fail
    go_ret
    exact ⟨rfl, Below.refl _ _⟩
  subst hl1 hl2
  go_wp2_with fail
  refine (unmarked_any _ _ _ R _ (by omega) RR.out).mono ?_
  rintro e w1 ⟨v1, rfl, ho1, hb1'⟩
  have HB1 := hide hb1'
  obtain ⟨a10, c10, rfl, hrd1⟩ := own_ints ho1
  have HU1 := hide hrd1
  clear ho1 hb1' hrd1
  go_wp2_with fail
  refine (unmarked_any _ _ _ D _ (by omega) (RD.out.below HB1.out)).mono ?_
  rintro e w2 ⟨v2, rfl, ho2, hb2'⟩
  have HB2 := hide hb2'
  obtain ⟨a11, c11, rfl, hrd2⟩ := own_ints ho2
  have HU2 := hide hrd2
  clear ho2 hb2' hrd2
  have hul1 := um_len R lr
  have hul2 := um_len D ld
  obtain ⟨n1, hn1⟩ : ∃ n1, (um R lr).length = n1 := ⟨_, rfl⟩
  obtain ⟨n2, hn2⟩ : ∃ n2, (um D ld).length = n2 := ⟨_, rfl⟩
  rw [hn1] at hul1 ⊢
  rw [hn2] at hul2 ⊢
  have HN1 := hide hn1
  have HN2 := hide hn2
  have hz1 := HB1.out.size
  have HBW := hide (HB1.out.trans (HB2.out.mono hz1))
  clear hn1 hn2
  by_cases hnn : n1 = n2
  case neg =>
    have hd1 : ((n1 : Int) == (n2 : Int)) = false := by simp; omega
    have hd2 : (n1 == n2) = false := by simp; omega
    go_wp2_with fail
    go_ret
    exact ⟨rfl, HBW.out⟩
  subst hnn
  go_wp2_with fail
  go_loopw [12] (fun i wr => ∃ (k z : Nat), k ≤ n1 ∧ i = .int .i64 k ∧ wr = w2.drewN z ∧ ∀ (m x y : Nat), m < k → (um R lr)[m]? = some x → (um D ld)[m]? = some y → A x = B y) (fun i _ => n1 - (intOf i).toNat)
  case atStart => exact ⟨0, 0, by omega, rfl, rfl, fun m x y h => absurd h (by omega)⟩
  case round =>
    obtain ⟨k, z, hk, rfl, rfl, heqs⟩ := hrel
    have HEQS := hide heqs
    clear heqs
    by_cases hlt : k < n1
    · obtain ⟨x, hx⟩ : ∃ x, (um R lr)[k]? = some x := ⟨_, List.getElem?_eq_getElem (by have := HN1.out; omega)⟩
      obtain ⟨y, hy⟩ : ∃ y, (um D ld)[k]? = some y := ⟨_, List.getElem?_eq_getElem (by have := HN2.out; omega)⟩
      have hxl : x < lr := um_lt R lr x (List.mem_of_getElem? hx)
      have hyl : y < ld := um_lt D ld y (List.mem_of_getElem? hy)
      obtain ⟨g10, rfl, hc10⟩ := HU1.out (by have := HN1.out; omega)
      obtain ⟨g11, rfl, hc11⟩ := HU2.out (by have := HN2.out; omega)
      obtain ⟨bA, oA, rfl, hcA⟩ := RA.out (by omega)
      obtain ⟨bB, oB, rfl, hcB⟩ := RB.out (by omega)
      have q1 := (HB2.out.cell (World.block_lt_of_cell? _ _ (hc10 k x hx))).trans (hc10 k x hx)
      have q2 := hc11 k y hy
      have q3 := (HBW.out.cell (World.block_lt_of_cell? _ _ (hcA x hxl))).trans (hcA x hxl)
      have q4 := (HBW.out.cell (World.block_lt_of_cell? _ _ (hcB y hyl))).trans (hcB y hyl)
      have i1 : (k : Int) < (n1 : Int) := by omega
      have i2 : (x : Int) < (lr : Int) := by omega
      have i3 : (y : Int) < (ld : Int) := by omega
      have HX := hide hx
      have HY := hide hy
      clear hc10 hc11 hcA hcB hx hy
      by_cases he : A x = B y
      · have HE := hide he
        rw [he] at q3
        clear he
        go_wp2_with fail
        go_quiet (fail)
        go_wp2_with fail
        go_roundw
        case rel =>
          refine ⟨k + 1, _, by omega, by go_num, rfl, fun m x' y' hm h1 h2 => ?_⟩
          by_cases e : m = k
          · subst e
            have e1 := HX.out
            have e2 := HY.out
            rw [h1] at e1
            rw [h2] at e2
            simp only [Option.some.injEq] at e1 e2
            rw [e1, e2]; exact HE.out
          · exact HEQS.out m x' y' (by omega) h1 h2
        case measure => simp [intOf]; omega
      · have hne := str_ne he
        clear he
        go_wp2_with fail
        go_quiet (fail)
        go_wp2_with fail
        go_ret
        exact ⟨rfl, below_drewN (below_drewN HBW.out _) _⟩
    · have hke : (n1 : Int) ≤ (k : Int) := by omega
      have HGL : Hid (∀ (m x y : Nat), (um R lr)[m]? = some x → (um D ld)[m]? = some y → A x = B y) := fun m x y h1 h2 => by
        have := (List.getElem?_eq_some_iff.1 h1).1
        have := HN1.out
        exact HEQS.out m x y (by omega) h1 h2
      have HCN : Hid (cnt R lr lr = cnt D ld ld) := by
        have e1 := um_cnt R lr
        have e2 := um_cnt D ld
        have := HN1.out
        have := HN2.out
        show cnt R lr lr = cnt D ld ld
        omega
      have HBz := hide (below_drewN HBW.out z)
      obtain ⟨wz, hwz⟩ : ∃ wz, wz = w2.drewN z := ⟨_, rfl⟩
      rw [← hwz] at HBz ⊢
      clear hwz HEQS HU1 HU2 HB1 HB2
      go_wp2_with fail
      refine (clone_any _ _ _ A _ (by omega) SA.out (RA.out.below HBz.out)).mono ?_
      rintro e w3 ⟨a3, c3, rfl, p3⟩
      have P3 := hide p3
      clear p3
      go_wp2_with fail
      refine (clone_any _ _ _ B _ (by omega) SB.out ((RB.out.below HBz.out).below P3.out.below)).mono ?_
      rintro e w4 ⟨a4, c4, rfl, p4⟩
      have P4 := hide p4
      clear p4
      go_wp2_with fail
      refine (cloneb_any _ _ _ R _ (by omega) SR.out (((RR.out.below HBz.out).below P3.out.below).below P4.out.below)).mono ?_
      rintro e w5 ⟨a5, c5, rfl, p5⟩
      have P5 := hide p5
      clear p5
      go_wp2_with fail
      refine (cloneb_any _ _ _ D _ (by omega) SD.out ((((RD.out.below HBz.out).below P3.out.below).below P4.out.below).below P5.out.below)).mono ?_
      rintro e w6 ⟨a6, c6, rfl, p6⟩
      have P6 := hide p6
      clear p6
      have z3 := P3.out.below.size
      have z4 := P4.out.below.size
      have z5 := P5.out.below.size
      have z6 := P6.out.below.size
      have RA6 := hide (((P3.out.rd.below P4.out.below).below P5.out.below).below P6.out.below)
      have RB6 := hide ((P4.out.rd.below P5.out.below).below P6.out.below)
      have RR6 := hide (P5.out.rd.below P6.out.below)
      have RD6 := hide P6.out.rd
      have BA6 : Hid (∀ x, a3 = some x → x.block < w6.heap.size) := fun x hx => Nat.lt_of_lt_of_le (own_blk P3.out.own x hx) (by omega)
      have BB6 : Hid (∀ x, a4 = some x → x.block < w6.heap.size) := fun x hx => Nat.lt_of_lt_of_le (own_blk P4.out.own x hx) (by omega)
      have KA6 := hide (own_cap P3.out.own)
      have KB6 := hide (own_cap P4.out.own)
      have hz0 := HBz.out.size
      have HB6 := hide ((((HBz.out.trans (P3.out.below.mono hz0)).trans (P4.out.below.mono (by omega))).trans (P5.out.below.mono (by omega))).trans (P6.out.below.mono (by omega)))
      clear P3 P4 P5 P6 RA RB RR RD SA SB SR SD HBW HBz z3 z4 z5 z6 hz0
      go_wp2_with fail
      refine (zzhunks_any A B R D _ _ _ _ _ _ _ _ _ _ _ hb1 hb2 RA6.out RB6.out RR6.out RD6.out HCN.out HS1.out HS2.out KA6.out KB6.out BA6.out BB6.out).mono ?_
      rintro e w7 ⟨S, gf, hs, rest, v7, rfl, hseg, hg1, hg2, htl, _, hok, hat, hb7⟩
      have HGP := hide (good_all HGL.out hseg hg1 hg2 htl hok)
      obtain ⟨aH, cH, rfl, hmx, hrh⟩ := hat_read hat
      have HRH := hide hrh
      have HMX := hide hmx
      have HB7 := hide hb7
      have RA7 := hide (RA6.out.below hb7)
      have RB7 := hide (RB6.out.below hb7)
      have HB8 := hide (HB6.out.trans (hb7.mono HB6.out.size))
      clear hseg hg1 hg2 htl hok hat hb7 hmx hrh HB6
      go_wp2_with fail
      refine (apply_any false A B _ _ _ _ _ _ _ _ hs rest _ hb1 hb2 RA7.out RB7.out HMX.out HRH.out (good_fwd HGP.out) HS1.out HS2.out).mono ?_
      rintro e w8 ⟨rfl, hb8⟩
      have HB9 := hide hb8
      clear hb8
      go_wp2_with fail
      refine (apply_any true B A _ _ _ _ _ _ _ _ hs rest _ hb2 hb1 (RB7.out.below HB9.out) (RA7.out.below HB9.out) HMX.out (rdhs_below HRH.out HB9.out) (good_bwd HGP.out) HS2.out HS1.out).mono ?_
      rintro e w9 ⟨rfl, hb9⟩
      have HB10 := hide ((HB8.out.trans (HB9.out.mono HB8.out.size)).trans (hb9.mono (Nat.le_trans HB8.out.size HB9.out.size)))
      clear hb9
      go_wp2_with fail
      go_ret
      exact ⟨rfl, HB10.out⟩
end Go.Proofs.Qxb6605269a.PatchLaw
