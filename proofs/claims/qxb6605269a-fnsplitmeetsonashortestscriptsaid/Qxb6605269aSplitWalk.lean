import Derived.Test.Qxb6605269aSplitTurn
namespace Go.Proofs.Qxb6605269a.SplitWalk
open Go.ChangeShapes Go.WideShapes Go.ChangeAt Go.RowKit
open Go.Proofs.Qxb6605269a.SplitMath
open Go.Proofs.Qxb6605269a.SplitInv
open Go.Proofs.Qxb6605269a.Lcs (hide rowIs_drewN set_int)

set_option maxRecDepth 100000 in
set_option maxHeartbeats 40000000 in
theorem split_any (P : Pars) (bc ba bb oa ob la lb ca cb bf bg lf lg : Nat) (p q : Nat) (n m h : Nat) (A B : Nat → Int) (F G : Nat → Int) (C : Nat → Value) (w : World)
    (hPn : P.n = n) (hPm : P.m = m) (hPh : P.h = h) (hPp : P.p = p) (hPq : P.q = q) (hS0 : 0 ≤ P.S) (hS1 : P.S ≤ 9223372036854775807)
    (hc0 : C 0 = .slice (some ⟨ba, oa, none⟩) la ca)
    (hc1 : C 1 = .slice (some ⟨bb, ob, none⟩) lb cb)
    (hc5 : C 5 = .slice (some ⟨bf, 0, none⟩) lf lf)
    (hc6 : C 6 = .slice (some ⟨bg, 0, none⟩) lg lg)
    (h3 : p + n ≤ la) (h6 : q + m ≤ lb) (hca : la ≤ ca) (hcb : lb ≤ cb) (hcm : ca ≤ 1000000) (hcm2 : cb ≤ 1000000)
    (hn : n ≤ 4096) (hm : m ≤ 4096) (hn1 : 1 ≤ n) (hm1 : 1 ≤ m)
    (hh : h = (n + m + 1) / 2) (hlf : 2 * h + 3 ≤ lf) (hlg : 2 * h + 3 ≤ lg) (hlf2 : lf ≤ 1000000) (hlg2 : lg ≤ 1000000)
    (hI : Inv w bc bf bg lf lg C w F G P.S)
    (d1 : bf ≠ bg) (d2 : bf ≠ bc) (d3 : bg ≠ bc) (d4 : ba ≠ bf) (d5 : ba ≠ bg) (d6 : ba ≠ bc) (d7 : bb ≠ bf) (d8 : bb ≠ bg) (d9 : bb ≠ bc)
    (hA : ∀ i, i < n → w.cell? ⟨ba, oa + p + i, none⟩ = some (.int .i64 (A i)))
    (hB : ∀ i, i < m → w.cell? ⟨bb, ob + q + i, none⟩ = some (.int .i64 (B i)))
    (hM : ∀ i j, P.M i j = (decide (i < n) && decide (j < m) && (A i == B j)))
    (hne : P.whole ≠ none) :
    Calls Try.prog 25 #[.pointer (some ⟨bc, 0, none⟩), .int .i64 (p : Int), .int .i64 ((p : Int) + (n : Int)), .int .i64 (q : Int), .int .i64 ((q : Int) + (m : Int))] w fun e w' => PostS P w bc bf bg lf lg C e w' := by
  have hx2 : (p : Int) + (n : Int) ≤ (ca : Int) := by omega
  have hx4 : (q : Int) + (m : Int) ≤ (cb : Int) := by omega
  have e1 : ((p : Int) + (n : Int)).toNat - p = n := by omega
  have e2 : ((q : Int) + (m : Int)).toNat - q = m := by omega
  have e3 : ((n : Int) + (m : Int) + 1) / 2 = (h : Int) := by omega
  have g0 : w.cell? ⟨bc, 0, none⟩ = _ := hI.rc.cell (i := 0) (by omega)
  have g1 : w.cell? ⟨bc, 1, none⟩ = _ := hI.rc.cell (i := 1) (by omega)
  have g5 : w.cell? ⟨bc, 5, none⟩ = _ := hI.rc.cell (i := 5) (by omega)
  have g6 : w.cell? ⟨bc, 6, none⟩ = _ := hI.rc.cell (i := 6) (by omega)
  rw [if_neg (by decide), hc0] at g0
  rw [if_neg (by decide), hc1] at g1
  rw [if_neg (by decide), hc5] at g5
  rw [if_neg (by decide), hc6] at g6
  have f1 := hI.rf.cell (i := h + 2) (by omega)
  have f2 := hI.rf.frozen (h + 2)
  have f3 := hI.rg.cell (i := h) (by omega)
  have f4 := hI.rg.frozen h
  have HI := hide hI
  have hhl : h ≤ 4096 := by omega
  have HH := hide hh
  have HA := hide hA
  have HB := hide hB
  have HM := hide hM
  have HN := hide hne
  have HPn := hide hPn
  have HPm := hide hPm
  have HPh := hide hPh
  have HPp := hide hPp
  have HPq := hide hPq
  clear hh hI hA hB hM hne hPn hPm hPh hPp hPq hc0 hc1 hc5 hc6
  go_enter Try.func25, Try.ntmps25
  go_wp2
  go_quiet (fail)
  go_wp2
  go_quiet (fail)
  go_wp2
  simp only [e3]
  clear e1 e2 e3 g0 g1 g5 g6 f1 f2 f3 f4 hx2 hx4
  go_loopg [22] (h + 1) (fun g t wr => ∃ (d : Nat) (F G : Nat → Int) (s : Int), g = h + 1 - d ∧ t = .int .i64 d ∧ Head P d F G s ∧ Inv w bc bf bg lf lg C wr F G s)
  case atStart =>
    refine ⟨0, _, _, P.S, rfl, rfl, head_zero P F G hS0, ?_⟩
    rw [HPh.out, HPn.out]
    exact ((HI.out.drewN _).setF d1 d2 (h + 2) 0).setG (fun e => d1 e.symm) d3 h (n : Int)
  case round =>
    as_aux_lemma =>
      obtain ⟨d, F1, G1, s1, hgk, rfl, hH, hI⟩ := hrel
      have HK := hide hgk
      clear HI hgk
      have hdh := hH.hd
      rw [HPh.out] at hdh
      by_cases hd : d ≤ h
      · have HF1 := hide (hH.toF (by rw [HPh.out]; exact hd))
        have HI1 := hide hI
        clear hH hI
        go_wp2
        go_loopg [23] (2 * d + 2) (fun g t wr => ∃ (k : Int) (F G : Nat → Int) (s : Int), (g : Int) = d + 2 - k ∧ t = .int .i64 k ∧ HeadF P d k F G s ∧ Inv w bc bf bg lf lg C wr F G s)
        case atStart => exact ⟨_, F1, G1, s1, by omega, rfl, HF1.out, HI1.out⟩
        case round =>
          as_aux_lemma =>
            obtain ⟨k, F2, G2, s2, hgk, rfl, hH, hI⟩ := hrel
            have HK2 := hide hgk
            clear HF1 HI1 hgk
            have hkk := hH.kk
            by_cases hk : k ≤ d
            · have hK := hH.K hk
              have hib : 1 ≤ ix h k ∧ ix h k + 1 < lf := by unfold ix; omega
              have r0 : ((h : Int) + 1 + k) = (ix h k : Int) := by unfold ix; omega
              have r1 : (ix h k : Int) - 1 = (ix h (k - 1) : Int) := by unfold ix; omega
              have r2 : (ix h k : Int) + 1 = (ix h (k + 1) : Int) := by unfold ix; omega
              have b1 : ix h (k - 1) < lf := by unfold ix; omega
              have b2 : ix h (k + 1) < lf := by unfold ix; omega
              have c1 := hI.rf.cell (i := ix h (k - 1)) b1
              have c2 := hI.rf.cell (i := ix h (k + 1)) b2
              have HF2 := hide hH
              have HI2 := hide hI
              have HKd := hide hK
              clear hH hI hK
              go_wp2
              go_cut [123] from 85 to 212 (fun c wx => c = .bool (cF d k (F2 (ix h (k - 1))) (F2 (ix h (k + 1)))) ∧ ∃ q, wx = wr.drewN q)
              case first =>
                as_aux_lemma =>
                  by_cases k1 : k = -(d : Int)
                  · have t1 : (k == -(d : Int)) = true := by simp [k1]
                    have HC := hide (cF_1 d k (F2 (ix h (k - 1))) (F2 (ix h (k + 1))) k1)
                    clear k1
                    go_quiet (fail)
                    go_wp2
                    go_meet
                    exact ⟨by rw [HC.out], _, rfl⟩
                  · have t1 : (k == -(d : Int)) = false := by simp [k1]
                    by_cases k2 : k = d
                    · have t2 : (k != (d : Int)) = false := by simp [k2]
                      have HC := hide (cF_2 d k (F2 (ix h (k - 1))) (F2 (ix h (k + 1))) k1 k2)
                      clear k1 k2
                      go_quiet (fail)
                      go_wp2
                      go_meet
                      exact ⟨by rw [HC.out], _, rfl⟩
                    · have t2 : (k != (d : Int)) = true := by simp [k2]
                      have HC := hide (cF_3 d k (F2 (ix h (k - 1))) (F2 (ix h (k + 1))) k1 k2)
                      clear k1 k2
                      cases hlt : decide (F2 (ix h (k - 1)) < F2 (ix h (k + 1)))
                      · go_quiet (fail)
                        go_wp2
                        go_meet
                        exact ⟨by rw [HC.out, hlt], _, rfl⟩
                      · go_quiet (fail)
                        go_wp2
                        go_meet
                        exact ⟨by rw [HC.out, hlt], _, rfl⟩
              case rest =>
                as_aux_lemma =>
                  obtain ⟨rfl, q1, rfl⟩ := hcut
                  obtain ⟨X0, hX0, Y0, hY0, hX0b⟩ := turnF HKd.out HPn.out HPm.out HM.out
                  go_upto_if 123 with fail
                  go_cut [24] from 85 to 212 (fun c wx => c = .int .i64 (X0 : Int) ∧ ∃ q, wx = wr.drewN q)
                  case first =>
                    as_aux_lemma =>
                      cases hb : cF d k (F2 (ix h (k - 1))) (F2 (ix h (k + 1)))
                      · have HV := hide ((turnF_no HF2.out HKd.out HPh.out hb).trans hX0)
                        go_wp2
                        go_meet
                        refine ⟨?_, _, rfl⟩
                        rw [HV.out, wrap_small _ (by omega) (by omega)]
                      · have HV := hide ((turnF_yes HF2.out HKd.out HPh.out hb).trans hX0)
                        go_wp2
                        go_meet
                        refine ⟨?_, _, rfl⟩
                        rw [HV.out]
                  case rest =>
                    as_aux_lemma =>
                      obtain ⟨rfl, q2, rfl⟩ := hcut
                      go_upto_block 4 with fail
                      obtain ⟨sl, hsl⟩ : ∃ sl, sl = slF P.n P.m P.M d k := ⟨_, rfl⟩
                      rw [← hsl] at hX0b
                      have HSL := hide hsl
                      clear hsl
                      have HX0 := hide hX0
                      clear hX0 c1 c2 r1 r2 b1 b2
                      obtain ⟨X1, hX1⟩ : ∃ X1, X1 = X0 + sl := ⟨_, rfl⟩
                      obtain ⟨Y1, hY1⟩ : ∃ Y1, Y1 = Y0 + sl := ⟨_, rfl⟩
                      have hXb : X1 ≤ n + d ∧ Y1 ≤ n + d ∧ X0 ≤ X1 := by omega
                      have HX1 := hide hX1
                      have HY1 := hide hY1
                      clear hX1 hY1
                      go_cut [24, 25] from 85 to 212 (fun x y wx => x = .int .i64 (X1 : Int) ∧ y = .int .i64 (Y1 : Int) ∧ ∃ q, wx = wr.drewN q)
                      case first =>
                        as_aux_lemma =>
                          go_wp2_with fail
                          go_loopg [24, 25] sl (fun g x y wx => ∃ t X Y : Nat, g = sl - t ∧ t ≤ sl ∧ X = X0 + t ∧ Y = Y0 + t ∧ x = .int .i64 (X : Int) ∧ y = .int .i64 (Y : Int) ∧ ∃ q, wx = wr.drewN q)
                          case atStart => exact ⟨0, X0, Y0, by omega, by omega, rfl, rfl, rfl, rfl, _, rfl⟩
                          case round =>
                            as_aux_lemma =>
                              obtain ⟨t, X, Y, hgt, htl, hX, hY, rfl, rfl, q3, rfl⟩ := hrel
                              have HGT := hide hgt
                              have HX := hide hX
                              have HY := hide hY
                              have hXY : X ≤ X1 ∧ Y ≤ Y1 := by have := HX1.out; have := HY1.out; omega
                              clear hgt hX hY
                              by_cases htt : t < sl
                              · obtain ⟨m1, m2, m3⟩ := slideF_run HX0.out hY0 HM.out HSL.out htt
                                rw [← HX.out] at m1 m3
                                rw [← HY.out] at m2 m3
                                have i1 : (X : Int) < (n : Int) := by omega
                                have i2 : (Y : Int) < (m : Int) := by omega
                                have a1 := (HI2.out.old d4 d5 d6 (oa + p + X)).trans (HA.out X m1)
                                have a2 := (HI2.out.old d7 d8 d9 (ob + q + Y)).trans (HB.out Y m2)
                                go_wp2
                                go_quiet (fail)
                                go_wp2
                                go_roundg (sl - (t + 1))
                                case measure => rw [HGT.out]; omega
                                case rel => exact ⟨t + 1, X + 1, Y + 1, rfl, by omega, by rw [HX.out]; omega, by rw [HY.out]; omega, by go_num, by go_num, _, rfl⟩
                              · have ht2 : t = sl := by omega
                                have hXe : X = X1 := by rw [HX.out, HX1.out, ht2]
                                have hYe : Y = Y1 := by rw [HY.out, HY1.out, ht2]
                                have hstop := slideF_stop HX0.out hY0 HPn.out HPm.out HM.out HSL.out
                                rw [← HX1.out, ← HY1.out] at hstop
                                subst hXe hYe
                                have HST := hide hstop
                                clear hstop ht2
                                by_cases s1' : X < n
                                · have i1 : (X : Int) < (n : Int) := by omega
                                  by_cases s2' : Y < m
                                  · have i2 : (Y : Int) < (m : Int) := by omega
                                    have hf := HST.out s1' s2'
                                    have a1 := (HI2.out.old d4 d5 d6 (oa + p + X)).trans (HA.out X s1')
                                    have a2 := (HI2.out.old d7 d8 d9 (ob + q + Y)).trans (HB.out Y s2')
                                    go_wp2
                                    go_quiet (fail)
                                    go_wp2
                                    go_meet
                                    exact ⟨rfl, rfl, q3 + nq, by simp⟩
                                  · have i2 : decide ((Y : Int) < (m : Int)) = false := by simp; omega
                                    go_wp2
                                    go_quiet (fail)
                                    go_wp2
                                    go_meet
                                    exact ⟨rfl, rfl, q3 + nq, by simp⟩
                                · have i1 : decide ((X : Int) < (n : Int)) = false := by simp; omega
                                  go_wp2
                                  go_quiet (fail)
                                  go_wp2
                                  go_meet
                                  exact ⟨rfl, rfl, q3 + nq, by simp⟩
                      case rest =>
                        as_aux_lemma =>
                          obtain ⟨rfl, rfl, q3, rfl⟩ := hcut
                          have c3 := HI2.out.rf.cell (i := ix h k) (by omega)
                          have z3 := HI2.out.rf.frozen (ix h k)
                          have c4 := HI2.out.steps
                          have z4 := HI2.out.rc.frozen 4
                          have hs0 := HF2.out.s0
                          have hs1 := HF2.out.s1
                          have hs1' : s2 ≤ 9223372036854775807 := by omega
                          have hxi : (X0 : Int) ≤ (X1 : Int) := by omega
                          have hxj : (X1 : Int) ≤ 10000 := by omega
                          have hyj : (Y1 : Int) ≤ 10000 := by omega
                          by_cases hneg : s2 - (1 + (X1 : Int) - (X0 : Int)) < 0
                          · as_aux_lemma =>
                              have hpost := HF2.out.neg hk (s' := s2 - (1 + (X1 : Int) - (X0 : Int))) (by have := HSL.out; have := HX1.out; omega) hneg
                              have HPO := hide hpost
                              clear hpost
                              go_wp2
                              go_ret3
                              exact post_mk HPO.out (((HI2.out.drewN _).setF d1 d2 _ _).setS (fun e => d2 e.symm) (fun e => d3 e.symm) _)
                          · have hnn : 0 ≤ s2 - (1 + (X1 : Int) - (X0 : Int)) := by omega
                            have hrow := rowF HX0.out HSL.out HX1.out
                            have hse : s2 - (1 + (X1 : Int) - (X0 : Int)) = s2 - (1 + (slF P.n P.m P.M d k : Int)) := by have := HSL.out; have := HX1.out; omega
                            have HNX := hide (fun ht => HF2.out.next hk hse hneg ht hrow.symm)
                            have HYS := hide (fun ht => HF2.out.yes hk hse hneg ht (x := (p : Int) + (X1 : Int)) (y := (q : Int) + (Y1 : Int)) (by rw [HPp.out, hrow]) (by rw [HPq.out, hrow]; have := HX1.out; have := HY1.out; omega))
                            have HIE := hide (((HI2.out.drewN q3).setF d1 d2 (ix h k) (X1 : Int)).setS (fun e => d2 e.symm) (fun e => d3 e.symm) (s2 - (1 + (X1 : Int) - (X0 : Int))))
                            rw [HPh.out] at HNX
                            have HRW := hide hrow
                            clear hrow hse
                            cases ho : (((n : Int) - (m : Int)).tmod 2 != 0)
                            · as_aux_lemma =>
                                have HT := hide (HNX.out (tF_no1 HPn.out HPm.out ho))
                                go_wp2
                                all_goals
                                  go_roundg (gk - 2)
                                  case measure => have := HK2.out; omega
                                  case rel => exact ⟨k + 2, _, _, _, by have := HK2.out; omega, by go_num, HT.out, HIE.out⟩
                            · by_cases hj1 : -(d : Int) < k - ((n : Int) - (m : Int))
                              · by_cases hj2 : k - ((n : Int) - (m : Int)) < d
                                · have hjb : ix h (k - ((n : Int) - (m : Int))) < lg := by unfold ix; omega
                                  have r3 : (h : Int) + 1 + (k - ((n : Int) - (m : Int))) = (ix h (k - ((n : Int) - (m : Int))) : Int) := by unfold ix; omega
                                  have c5 := HI2.out.rg.cell (i := ix h (k - ((n : Int) - (m : Int)))) hjb
                                  have hval := tF_last HF2.out HKd.out HPn.out HPm.out HPh.out HRW.out ho hj1 hj2
                                  by_cases hge : G2 (ix h (k - ((n : Int) - (m : Int)))) ≤ (X1 : Int)
                                  · as_aux_lemma =>
                                      have HT := hide (HYS.out (hval.trans (decide_eq_true hge)))
                                      clear hval
                                      go_wp2
                                      go_ret3
                                      exact post_mk HT.out HIE.out
                                  · as_aux_lemma =>
                                      have HT := hide (HNX.out (hval.trans (decide_eq_false hge)))
                                      clear hval
                                      have hge' : (X1 : Int) < G2 (ix h (k - ((n : Int) - (m : Int)))) := by omega
                                      clear hge
                                      go_wp2
                                      all_goals
                                        go_roundg (gk - 2)
                                        case measure => have := HK2.out; omega
                                        case rel => exact ⟨k + 2, _, _, _, by have := HK2.out; omega, by go_num, HT.out, HIE.out⟩
                                · as_aux_lemma =>
                                    have HT := hide (HNX.out (tF_no3 HPn.out HPm.out hj2))
                                    have t3 : decide (k - ((n : Int) - (m : Int)) < (d : Int)) = false := decide_eq_false hj2
                                    go_wp2
                                    all_goals
                                      go_roundg (gk - 2)
                                      case measure => have := HK2.out; omega
                                      case rel => exact ⟨k + 2, _, _, _, by have := HK2.out; omega, by go_num, HT.out, HIE.out⟩
                              · as_aux_lemma =>
                                  have HT := hide (HNX.out (tF_no2 HPn.out HPm.out hj1))
                                  have t2 : decide (-(d : Int) < k - ((n : Int) - (m : Int))) = false := decide_eq_false hj1
                                  go_wp2
                                  all_goals
                                    go_roundg (gk - 2)
                                    case measure => have := HK2.out; omega
                                    case rel => exact ⟨k + 2, _, _, _, by have := HK2.out; omega, by go_num, HT.out, HIE.out⟩
            · have HG1 := hide (hH.toG (by omega))
              have HI1 := hide hI
              clear hH hI
              go_wp2
              go_loopg [28] (2 * d + 2) (fun g t wr => ∃ (j : Int) (F G : Nat → Int) (s : Int), (g : Int) = d + 2 - j ∧ t = .int .i64 j ∧ HeadG P d j F G s ∧ Inv w bc bf bg lf lg C wr F G s)
              case atStart => exact ⟨_, F2, G2, s2, by omega, rfl, HG1.out, HI1.out⟩
              case round =>
                as_aux_lemma =>
                  obtain ⟨j, F3, G3, s3, hgk, rfl, hH, hI⟩ := hrel
                  have HK3 := hide hgk
                  clear HG1 HI1 hgk
                  have hjj := hH.kk
                  by_cases hj : j ≤ d
                  · have hK := hH.K hj
                    have hib : 1 ≤ ix h j ∧ ix h j + 1 < lg := by unfold ix; omega
                    have r0 : ((h : Int) + 1 + j) = (ix h j : Int) := by unfold ix; omega
                    have r1 : (ix h j : Int) - 1 = (ix h (j - 1) : Int) := by unfold ix; omega
                    have r2 : (ix h j : Int) + 1 = (ix h (j + 1) : Int) := by unfold ix; omega
                    have b1 : ix h (j - 1) < lg := by unfold ix; omega
                    have b2 : ix h (j + 1) < lg := by unfold ix; omega
                    have c1 := hI.rg.cell (i := ix h (j - 1)) b1
                    have c2 := hI.rg.cell (i := ix h (j + 1)) b2
                    have HG3 := hide hH
                    have HI3 := hide hI
                    have HKd := hide hK
                    clear hH hI hK
                    go_wp2
                    go_cut [257] from 215 to 343 (fun c wx => c = .bool (cG d j (G3 (ix h (j - 1))) (G3 (ix h (j + 1)))) ∧ ∃ q, wx = wr.drewN q)
                    case first =>
                      as_aux_lemma =>
                        by_cases k1 : j = (d : Int)
                        · have t1 : (j == (d : Int)) = true := by simp [k1]
                          have HC := hide (cG_1 d j (G3 (ix h (j - 1))) (G3 (ix h (j + 1))) k1)
                          clear k1
                          go_quiet (fail)
                          go_wp2
                          go_meet
                          exact ⟨by rw [HC.out], _, rfl⟩
                        · have t1 : (j == (d : Int)) = false := by simp [k1]
                          by_cases k2 : j = -(d : Int)
                          · have t2 : (j != -(d : Int)) = false := by simp [k2]
                            have HC := hide (cG_2 d j (G3 (ix h (j - 1))) (G3 (ix h (j + 1))) k1 k2)
                            clear k1 k2
                            go_quiet (fail)
                            go_wp2
                            go_meet
                            exact ⟨by rw [HC.out], _, rfl⟩
                          · have t2 : (j != -(d : Int)) = true := by simp [k2]
                            have HC := hide (cG_3 d j (G3 (ix h (j - 1))) (G3 (ix h (j + 1))) k1 k2)
                            obtain ⟨gb1, gb2, gb3, gb4⟩ := midG HG3.out HKd.out HPh.out HPn.out k1 k2
                            clear k1 k2
                            cases hlt : decide (G3 (ix h (j - 1)) ≤ G3 (ix h (j + 1)) - 1)
                            · go_quiet (fail)
                              go_wp2
                              go_meet
                              exact ⟨by rw [HC.out, hlt], _, rfl⟩
                            · go_quiet (fail)
                              go_wp2
                              go_meet
                              exact ⟨by rw [HC.out, hlt], _, rfl⟩
                    case rest =>
                      as_aux_lemma =>
                        obtain ⟨rfl, q1, rfl⟩ := hcut
                        obtain ⟨U0, hU0, V0, hV0, hU0b⟩ := turnG HKd.out HPn.out
                        obtain ⟨X0, hX0⟩ : ∃ X0 : Int, X0 = (n : Int) - U0 := ⟨_, rfl⟩
                        obtain ⟨Y0, hY0⟩ : ∃ Y0 : Int, X0 - (j + ((n : Int) - (m : Int))) = Y0 := ⟨_, rfl⟩
                        have hY0' : Y0 = (m : Int) - V0 := by omega
                        have hXb0 : -10000 ≤ X0 ∧ X0 ≤ 4096 := by omega
                        have HX0 := hide hX0
                        have HY0 := hide hY0'
                        clear hX0 hY0'
                        go_upto_if 257 with fail
                        go_cut [30] from 215 to 343 (fun c wx => c = .int .i64 X0 ∧ ∃ q, wx = wr.drewN q)
                        case first =>
                          as_aux_lemma =>
                            cases hb : cG d j (G3 (ix h (j - 1))) (G3 (ix h (j + 1)))
                            · have HV := hide ((turnG_no HG3.out HKd.out HPh.out HPn.out hb).trans (by rw [hU0, ← HX0.out]))
                              go_wp2
                              go_meet
                              refine ⟨?_, _, rfl⟩
                              rw [HV.out, wrap_small _ (by omega) (by omega)]
                            · have HV := hide ((turnG_yes HG3.out HKd.out HPh.out HPn.out hb).trans (by rw [hU0, ← HX0.out]))
                              go_wp2
                              go_meet
                              refine ⟨?_, _, rfl⟩
                              rw [HV.out]
                        case rest =>
                          as_aux_lemma =>
                            obtain ⟨rfl, q2, rfl⟩ := hcut
                            go_upto_block 8 with fail
                            obtain ⟨sl, hsl⟩ : ∃ sl, sl = slF P.n P.m (R P.n P.m P.M) d (-j) := ⟨_, rfl⟩
                            rw [← hsl] at hU0b
                            have HSL := hide hsl
                            have HU0 := hide hU0
                            clear hsl hU0 c1 c2 r1 r2 b1 b2
                            obtain ⟨X1, hX1⟩ : ∃ X1 : Int, X1 = (n : Int) - ((U0 + sl : Nat) : Int) := ⟨_, rfl⟩
                            obtain ⟨Y1, hY1⟩ : ∃ Y1 : Int, Y1 = (m : Int) - ((V0 + sl : Nat) : Int) := ⟨_, rfl⟩
                            have hXb : X1 ≤ X0 ∧ -10000 ≤ X1 ∧ -10000 ≤ Y1 ∧ Y1 ≤ 4096 ∧ X0 - X1 = sl := by have := HX0.out; omega
                            obtain ⟨hXb1, hXb2, hXb3, hXb4, hXb5⟩ := hXb
                            have HX1 := hide hX1
                            have HY1 := hide hY1
                            have HXB := hide hXb5
                            clear hX1 hY1 hXb5
                            go_cut [30, 31] from 215 to 343 (fun x y wx => x = .int .i64 X1 ∧ y = .int .i64 Y1 ∧ ∃ q, wx = wr.drewN q)
                            case first =>
                              as_aux_lemma =>
                                go_wp2_with fail
                                go_loopg [30, 31] sl (fun g x y wx => ∃ (t : Nat) (X Y : Int), g = sl - t ∧ t ≤ sl ∧ X = (n : Int) - ((U0 + t : Nat) : Int) ∧ Y = (m : Int) - ((V0 + t : Nat) : Int) ∧ x = .int .i64 X ∧ y = .int .i64 Y ∧ ∃ q, wx = wr.drewN q)
                                case atStart => exact ⟨0, X0, Y0, by omega, by omega, HX0.out, HY0.out, rfl, rfl, _, rfl⟩
                                case round =>
                                  as_aux_lemma =>
                                    obtain ⟨t, X, Y, hgt, htl, hX, hY, rfl, rfl, q3, rfl⟩ := hrel
                                    have HGT := hide hgt
                                    have HX := hide hX
                                    have HY := hide hY
                                    have hXY : -10000 ≤ X ∧ X ≤ 4096 ∧ -10000 ≤ Y ∧ Y ≤ 4096 := by omega
                                    clear hgt hX hY
                                    by_cases htt : t < sl
                                    · obtain ⟨m1, m2, m3⟩ := slideG_run HU0.out hV0 HPn.out HPm.out HM.out HSL.out htt
                                      obtain ⟨XX, hXX⟩ : ∃ XX, XX = n - 1 - (U0 + t) := ⟨_, rfl⟩
                                      obtain ⟨YY, hYY⟩ : ∃ YY, YY = m - 1 - (V0 + t) := ⟨_, rfl⟩
                                      rw [← hXX, ← hYY] at m3
                                      have x1 : 0 < X := by have := HX.out; omega
                                      have y1 : 0 < Y := by have := HY.out; omega
                                      have rx : X - 1 = (XX : Int) := by have := HX.out; omega
                                      have ry : Y - 1 = (YY : Int) := by have := HY.out; omega
                                      have i0 : XX < n := by omega
                                      have i0' : YY < m := by omega
                                      have i1 : (XX : Int) < (n : Int) := by omega
                                      have i2 : (YY : Int) < (m : Int) := by omega
                                      have a1 := (HI3.out.old d4 d5 d6 (oa + p + XX)).trans (HA.out XX i0)
                                      have a2 := (HI3.out.old d7 d8 d9 (ob + q + YY)).trans (HB.out YY i0')
                                      have HRX := hide rx
                                      have HRY := hide ry
                                      clear hXX hYY
                                      go_wp2
                                      go_quiet (fail)
                                      go_wp2
                                      go_roundg (sl - (t + 1))
                                      case measure => rw [HGT.out]; omega
                                      case rel => exact ⟨t + 1, X - 1, Y - 1, rfl, by omega, by rw [HX.out]; omega, by rw [HY.out]; omega, by rw [HRX.out], by rw [HRY.out], _, rfl⟩
                                    · have ht2 : t = sl := by omega
                                      have hXe : X = X1 := by rw [HX.out, HX1.out, ht2]
                                      have hYe : Y = Y1 := by rw [HY.out, HY1.out, ht2]
                                      have hstop := slideG_stop HU0.out hV0 HPn.out HPm.out HM.out HSL.out
                                      have HST := hide hstop
                                      have HT2 := hide ht2
                                      subst hXe hYe
                                      clear hstop ht2
                                      by_cases s1' : 0 < X
                                      · by_cases s2' : 0 < Y
                                        · have hf := HST.out (by have := HX1.out; omega) (by have := HY1.out; omega)
                                          obtain ⟨XX, hXX⟩ : ∃ XX, XX = n - 1 - (U0 + sl) := ⟨_, rfl⟩
                                          obtain ⟨YY, hYY⟩ : ∃ YY, YY = m - 1 - (V0 + sl) := ⟨_, rfl⟩
                                          rw [← hXX, ← hYY] at hf
                                          have rx : X - 1 = (XX : Int) := by have := HX1.out; omega
                                          have ry : Y - 1 = (YY : Int) := by have := HY1.out; omega
                                          have i0 : XX < n := by omega
                                          have i0' : YY < m := by have := HY1.out; omega
                                          have i1 : (XX : Int) < (n : Int) := by omega
                                          have i2 : (YY : Int) < (m : Int) := by omega
                                          have a1 := (HI3.out.old d4 d5 d6 (oa + p + XX)).trans (HA.out XX i0)
                                          have a2 := (HI3.out.old d7 d8 d9 (ob + q + YY)).trans (HB.out YY i0')
                                          clear hXX hYY
                                          go_wp2
                                          go_quiet (fail)
                                          go_wp2
                                          go_meet
                                          exact ⟨rfl, rfl, q3 + nq, by simp⟩
                                        · have i2 : decide (0 < Y) = false := decide_eq_false s2'
                                          go_wp2
                                          go_quiet (fail)
                                          go_wp2
                                          go_meet
                                          exact ⟨rfl, rfl, q3 + nq, by simp⟩
                                      · have i1 : decide (0 < X) = false := decide_eq_false s1'
                                        go_wp2
                                        go_quiet (fail)
                                        go_wp2
                                        go_meet
                                        exact ⟨rfl, rfl, q3 + nq, by simp⟩
                            case rest =>
                              as_aux_lemma =>
                                obtain ⟨rfl, rfl, q3, rfl⟩ := hcut
                                have c3 := HI3.out.rg.cell (i := ix h j) (by omega)
                                have z3 := HI3.out.rg.frozen (ix h j)
                                have c4 := HI3.out.steps
                                have z4 := HI3.out.rc.frozen 4
                                have hs0 := HG3.out.s0
                                have hs1 := HG3.out.s1
                                have hs1' : s3 ≤ 9223372036854775807 := by omega
                                have hse : s3 - (1 + X0 - X1) = s3 - (1 + (slF P.n P.m (R P.n P.m P.M) d (-j) : Int)) := by have := HSL.out; have := HXB.out; omega
                                have HIE := hide (((HI3.out.drewN q3).setG (fun e => d1 e.symm) d3 (ix h j) X1).setS (fun e => d2 e.symm) (fun e => d3 e.symm) (s3 - (1 + X0 - X1)))
                                have hrow : (n : Int) - row (R P.n P.m P.M) P.n (d + 1) (-j) = X1 := by rw [rowG HU0.out HSL.out, HX1.out]
                                by_cases hneg : s3 - (1 + X0 - X1) < 0
                                · as_aux_lemma =>
                                    have HPO := hide (HG3.out.neg hj hse hneg)
                                    clear hse hrow
                                    go_wp2
                                    go_ret3
                                    exact post_mk HPO.out HIE.out
                                · have hnn : 0 ≤ s3 - (1 + X0 - X1) := by omega
                                  have hPnI : ((P.n : Nat) : Int) = (n : Int) := by rw [HPn.out]
                                  have hPmI : ((P.m : Nat) : Int) = (m : Int) := by rw [HPm.out]
                                  have HNX := hide (fun ht => HG3.out.next hj hse hneg ht (v := X1) (by rw [hPnI]; exact hrow.symm))
                                  have HYS := hide (fun ht => HG3.out.yes hj hse hneg ht (x := (p : Int) + X1) (y := (q : Int) + Y1) (by rw [HPp.out, hPnI, hrow]) (by rw [HPq.out, hPnI, hPmI, hrow]; have := HX1.out; have := HY1.out; omega))
                                  clear hPnI hPmI
                                  rw [HPh.out] at HNX
                                  have HRW := hide hrow
                                  clear hrow hse
                                  cases ho : (((n : Int) - (m : Int)).tmod 2 == 0)
                                  · as_aux_lemma =>
                                      have HT := hide (HNX.out (tB_no1 HPn.out HPm.out ho))
                                      go_wp2
                                      all_goals
                                        go_roundg (gk - 2)
                                        case measure => have := HK3.out; omega
                                        case rel => exact ⟨j + 2, _, _, _, by have := HK3.out; omega, by go_num, HT.out, HIE.out⟩
                                  · by_cases hj1 : -(d : Int) ≤ j + ((n : Int) - (m : Int))
                                    · by_cases hj2 : j + ((n : Int) - (m : Int)) ≤ d
                                      · have hjb : ix h (j + ((n : Int) - (m : Int))) < lf := by unfold ix; omega
                                        have r3 : (h : Int) + 1 + (j + ((n : Int) - (m : Int))) = (ix h (j + ((n : Int) - (m : Int))) : Int) := by unfold ix; omega
                                        have c5 := HI3.out.rf.cell (i := ix h (j + ((n : Int) - (m : Int)))) hjb
                                        have hval := tB_last HG3.out HKd.out HPn.out HPm.out HPh.out HRW.out ho hj1 hj2
                                        by_cases hge : X1 ≤ F3 (ix h (j + ((n : Int) - (m : Int))))
                                        · as_aux_lemma =>
                                            have HT := hide (HYS.out (hval.trans (decide_eq_true hge)))
                                            clear hval
                                            go_wp2
                                            go_ret3
                                            exact post_mk HT.out HIE.out
                                        · as_aux_lemma =>
                                            have HT := hide (HNX.out (hval.trans (decide_eq_false hge)))
                                            clear hval
                                            have hge' : F3 (ix h (j + ((n : Int) - (m : Int)))) < X1 := by omega
                                            clear hge
                                            go_wp2
                                            all_goals
                                              go_roundg (gk - 2)
                                              case measure => have := HK3.out; omega
                                              case rel => exact ⟨j + 2, _, _, _, by have := HK3.out; omega, by go_num, HT.out, HIE.out⟩
                                      · as_aux_lemma =>
                                          have HT := hide (HNX.out (tB_no3 HPn.out HPm.out hj2))
                                          have t3 : decide (j + ((n : Int) - (m : Int)) ≤ (d : Int)) = false := decide_eq_false hj2
                                          go_wp2
                                          all_goals
                                            go_roundg (gk - 2)
                                            case measure => have := HK3.out; omega
                                            case rel => exact ⟨j + 2, _, _, _, by have := HK3.out; omega, by go_num, HT.out, HIE.out⟩
                                    · as_aux_lemma =>
                                        have HT := hide (HNX.out (tB_no2 HPn.out HPm.out hj1))
                                        have t2 : decide (-(d : Int) ≤ j + ((n : Int) - (m : Int))) = false := decide_eq_false hj1
                                        go_wp2
                                        all_goals
                                          go_roundg (gk - 2)
                                          case measure => have := HK3.out; omega
                                          case rel => exact ⟨j + 2, _, _, _, by have := HK3.out; omega, by go_num, HT.out, HIE.out⟩
                  · have HN2 := hide (hH.toHead (by omega))
                    have HI3 := hide hI
                    clear hH hI
                    go_wp2
                    go_roundg (h - d)
                    case measure => have := HK.out; omega
                    case rel => exact ⟨d + 1, _, _, _, by omega, by go_num, HN2.out, HI3.out⟩
      · exact (Head.no hH (by rw [HPh.out]; omega) HN.out).elim
end Go.Proofs.Qxb6605269a.SplitWalk
