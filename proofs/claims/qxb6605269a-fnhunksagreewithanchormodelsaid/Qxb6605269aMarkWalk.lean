import Derived.Test.Qxb6605269aMarkText
import Derived.Deep.CutRange
import Derived.Deep.DeepCutAuto
namespace Go.Proofs.Qxb6605269a.MarkLaw
open Go.ChangeShapes Go.WideShapes Go.ChangeAt Go.RowKit
open Go.Proofs.Qxb6605269a.Lcs (hide rowIs_drewN)
open Go.Proofs.Qxb6605269a.Strs
open Go.Proofs.Qxb6605269a.Mark

def listOf (L : Nat → ByteArray) (n : Nat) : List ByteArray := (List.range n).map L
theorem listOf_len (L : Nat → ByteArray) (n : Nat) : (listOf L n).length = n := by simp [listOf]
theorem listOf_at (L : Nat → ByteArray) (n i : Nat) (z : ByteArray) (h : i < n) : (listOf L n).getD i z = L i := by simp [listOf, h]

/-- nil, or an address -/
def Shape (a : Option Addr) (len cap : Nat) : Prop := (a = none ∧ len = 0 ∧ cap = 0) ∨ ∃ x, a = some x

/-- a copy of strings -/
structure Cp (w w' : World) (a : Option Addr) (len cap : Nat) (L : Nat → ByteArray) : Prop where
  own : w'.ownsRow w.heap.size 9 1 (.slice a len cap) len (strs (listOf L len))
  rd : Rd w' a len L
  shape : Shape a len cap
  lo : ∀ b o, a = some ⟨b, o, none⟩ → w.heap.size ≤ b ∧ b < w'.heap.size
  below : Below w.heap.size w w'

theorem row_own {w : World} {g len base : Nat} {L : Nat → ByteArray} (h : w.rowIs g 9 len (fun i => .string (L i))) (hb : base ≤ g) (hl : len ≤ 1048576) :
    w.ownsRow base 9 1 (.slice (some ⟨g, 0, none⟩) len len) len (strs (listOf L len)) := by
  obtain ⟨c, h1, h2, h3⟩ := h
  refine ⟨by simp [Mark.strs, listOf], Or.inr ⟨g, len, c, rfl, hb, h1, Nat.le_refl _, by unfold maxLen; omega, by omega, ?_⟩⟩
  apply List.ext_getElem?
  intro i
  rw [Nat.mul_one, List.getElem?_take]
  by_cases hi : i < len
  · rw [if_pos hi, Array.getElem?_toList, h3 i hi]
    simp [Mark.strs, listOf, hi]
  · rw [if_neg hi]
    simp [Mark.strs, listOf, hi]

theorem clone_any (a : Option Addr) (len cap : Nat) (L : Nat → ByteArray) (w : World) (hlen : len ≤ 1048576) (hs : Shape a len cap) (hr : Rd w a len L) :
    Calls Try.prog 13 #[.slice a len cap] w fun e w' => ∃ a' cap', e = .returned (.slice a' len cap') ∧ Cp w w' a' len cap' L := by
  rcases hs with ⟨rfl, rfl, rfl⟩ | ⟨x, rfl⟩
  · refine (clone_nil w).mono ?_
    rintro e w' ⟨rfl, rfl⟩
    exact ⟨none, 0, rfl, World.ownsRow_nil _ _ _ _, fun h => absurd h (by omega), Or.inl ⟨rfl, rfl, rfl⟩, (fun b o h => by cases h), Below.refl _ _⟩
  · refine (clone_row x len cap L w hlen hr).mono ?_
    rintro e w' ⟨g, rfl, hc⟩
    refine ⟨_, _, rfl, row_own hc.row hc.lo hlen, fun _ => ⟨g, 0, rfl, fun i hi => by rw [Nat.zero_add]; exact hc.row.cell hi⟩, Or.inr ⟨_, rfl⟩, fun b o h => ?_, hc.below⟩
    simp only [Option.some.injEq, Addr.mk.injEq] at h
    obtain ⟨rfl, _⟩ := h
    exact ⟨hc.lo, hc.hi⟩

theorem own_below {w wx : World} {base B : Nat} {v : Value} {n : Nat} {xs : List Value} (h : w.ownsRow base 9 1 v n xs) (hb : Below B w wx) (hB : ∀ k, v.ownBlock = some k → k < B) : wx.ownsRow base 9 1 v n xs := by
  refine ⟨h.1, ?_⟩
  rcases h.2 with e | ⟨g, cap, cur, e, h1, h2, h3⟩
  · exact Or.inl e
  · exact Or.inr ⟨g, cap, cur, e, h1, by rw [hb.block g (hB g (by rw [e]; rfl))]; exact h2, h3⟩

theorem below_of_grown {w w' : World} {row : Option Nat} (hg : w.grownBy w' row) {B : Nat} (hB : B ≤ w.heap.size) (hr : ∀ k, row = some k → B ≤ k) : Below B w w' :=
  (Below.refl B w).grown hg hB hr
theorem rd_grown {w w' : World} {row : Option Nat} {a : Option Addr} {len : Nat} {L : Nat → ByteArray} (h : Rd w a len L) (hg : w.grownBy w' row) (hne : ∀ b o, a = some ⟨b, o, none⟩ → some b ≠ row) : Rd w' a len L := by
  intro h0
  obtain ⟨b, o, ha, hc⟩ := h h0
  exact ⟨b, o, ha, fun i hi => hg.cell (hc i hi) (hne b o ha)⟩

theorem got_left (mk : Int) (L H : Nat → ByteArray) (n lh k : Nat) (h : k < lh) : (listOf H lh ++ entries mk L n).getD k nonl = H k := by
  rw [List.getD, List.getElem?_append_left (by rw [listOf_len]; exact h)]
  exact listOf_at H lh k nonl h

theorem last_not (s : ByteArray) (h : ends s = false) (hs : s.size - 1 < s.size) : (((s[s.size - 1]'hs).toNat : Int) == 10) = false := by
  rw [beq_eq_false_iff_ne]
  intro e
  have e1 : s[s.size - 1] = 10 := by apply UInt8.toNat_inj.1; show _ = 10; omega
  have e2 : (s.extract (s.size - 1) s.size).toList = [10] := by
    rw [ByteArray.toList_eq, Lib.extract_data, List.take_of_length_le (by simp)]
    have hl : s.size - 1 < s.data.toList.length := by simpa using hs
    rw [List.drop_eq_getElem_cons hl, List.drop_of_length_le (by simp; omega)]
    congr 1
  simp only [ends, e2, show (1 ≤ s.size) from by omega, decide_true, Bool.true_and] at h
  simp at h
theorem nonl_list : nonl.toList = [92, 32, 78, 111, 32, 110, 101, 119, 108, 105, 110, 101, 32, 97, 116, 32, 101, 110, 100, 32, 111, 102, 32, 102, 105, 108, 101] := by
  rw [ByteArray.toList_eq]; rfl

set_option maxRecDepth 100000 in
set_option maxHeartbeats 4000000 in
theorem law (mk : Int) (h0 : 0 ≤ mk) (h1 : mk ≤ 255) (H L : Nat → ByteArray) (ah al : Option Addr) (lh ch n cl : Nat) (w : World)
    (m1 : lh ≤ 9223372036854775807) (m2 : n ≤ 9223372036854775807) (s1 : ∀ i, i < lh → (H i).size ≤ 9223372036854775807) (s2 : ∀ i, i < n → (L i).size ≤ 9223372036854775807)
    (sh : Shape ah lh ch) (sl : Shape al n cl) (rh : Rd w ah lh H) (rl : Rd w al n L) :
    Calls Try.prog 4 #[.slice ah lh ch, .int .u8 mk, .slice al n cl] w fun e w' => e = .returned (.bool true) ∧ Below w.heap.size w w' := by
  have SH := hide sh
  have SL := hide sl
  have RH := hide rh
  have RL := hide rl
  have S1 := hide s1
  have S2 := hide s2
  clear sh sl rh rl s1 s2
  go_enter Try.func4, Try.ntmps4
  go_wp2_with fail
  refine (zzmark_any _ _ _ _ _ _ _ H L _ m1 m2 RH.out RL.out).mono ?_
  rintro e w' ⟨r, rfl, rfl⟩
  cases r
  · go_wp2_with fail
    go_ret
    exact ⟨rfl, Below.refl _ _⟩
  go_wp2_with fail
  refine (take_any _ _ _ _ H _ (by omega) m1 RH.out S1.out).mono ?_
  rintro e w' ⟨r1, rfl, rfl, hr1, hr1s⟩
  have HR1 := hide hr1s
  clear hr1s
  go_wp2_with fail
  refine (take_any _ _ _ _ L _ hr1 m2 RL.out S2.out).mono ?_
  rintro e w' ⟨r2, rfl, rfl, hr2b, hr2s⟩
  have HR2 := hide hr2s
  clear hr2s
  by_cases hr2 : 0 ≤ r2
  case neg =>
    have hneg : r2 < 0 := by omega
    clear hr2
    go_wp2_with fail
    go_ret
    exact ⟨rfl, Below.refl _ _⟩
  have hr1p : 0 ≤ r1 := by have := HR2.out hr2; omega
  have hb1 : lh ≤ 1048576 := by have := HR1.out hr1p; omega
  have hb2 : n ≤ 1048576 := by have := HR2.out hr2; omega
  have HS : Hid (∀ i, i < n → (L i).size ≤ 1048576) := by
    intro i hi
    have e1 := HR2.out hr2
    have e2 := tot_at L n i hi
    omega
  clear HR1 HR2 S1 S2
  by_cases h92 : mk = 92
  · subst h92
    have hd : decide (r2 < 0) = false := by simp; omega
    go_wp2_with fail
    go_ret
    exact ⟨rfl, Below.refl _ _⟩
  have hm : (mk == 92) = false := by simp [h92]
  go_wp2_with fail
  refine (clone_any _ _ _ H _ hb1 SH.out RH.out).mono ?_
  rintro e w1 ⟨a1, c1, rfl, p1⟩
  have P1 := hide p1
  clear p1
  go_wp2_with fail
  refine (clone_any _ _ _ L _ hb2 SL.out (RL.out.below P1.out.below)).mono ?_
  rintro e w2 ⟨a2, c2, rfl, p2⟩
  have P2 := hide p2
  clear p2
  go_wp2_with fail
  refine (clone_any _ _ _ H _ hb1 P1.out.shape (P1.out.rd.below P2.out.below)).mono ?_
  rintro e w3 ⟨a3, c3, rfl, p3⟩
  have P3 := hide p3
  clear p3
  go_wp2_with fail
  have hmk : 0 ≤ mk ∧ mk ≤ 255 := ⟨h0, h1⟩
  have hz1 := P1.out.below.size
  have hz2 := P2.out.below.size
  have hz3 := P3.out.below.size
  have HOW := hide (own_below (own_below P1.out.own P2.out.below (fun k hk => (P1.out.own.lt k hk).2)) P3.out.below (fun k hk => Nat.lt_of_lt_of_le (P1.out.own.lt k hk).2 hz2))
  have HOW' : Hid (w3.ownsRow w'.heap.size 9 1 (.slice a1 lh c1) (listOf H lh).length (Mark.strs (listOf H lh))) := by rw [listOf_len]; exact HOW.out
  refine (zzmark w'.heap.size _ (listOf H lh) mk _ _ _ L _ HOW'.out (by omega) hb2 (by rw [listOf_len]; omega) hmk (P2.out.rd.below P3.out.below) ?_ HS.out).mono ?_
  · intro b o hb e
    have e1 := (P2.out.lo b o hb).1
    have e2 := (P1.out.own.lt b e.symm).2
    omega
  rintro e w4 ⟨v4, rfl, hO⟩
  obtain ⟨a4, c4, rfl, hrd4⟩ := own_read hO.own
  have HO4 := hide hO
  have HB4 := hide (below_of_grown HO4.out.grown (B := w'.heap.size) (by omega) (fun k hk => (P1.out.own.lt k hk).1))
  have RD4 := hide hrd4
  -- what was copied ahead of the call is still there
  have RL4 : Hid (Rd w4 a2 n L) := rd_grown (P2.out.rd.below P3.out.below) HO4.out.grown (fun b o hb e => by have e1 := (P2.out.lo b o hb).1; have e2 := (P1.out.own.lt b e.symm).2; omega)
  have RB4 : Hid (Rd w4 a3 lh H) := rd_grown P3.out.rd HO4.out.grown (fun b o hb e => by have e1 := (P3.out.lo b o hb).1; have e2 := (P1.out.own.lt b e.symm).2; omega)
  have HBW := hide (((P1.out.below.trans (P2.out.below.mono hz1)).trans (P3.out.below.mono (Nat.le_trans hz1 hz2))).trans HB4.out)
  clear hO hrd4 HOW HOW' HO4 HB4 P1 P2 P3 SH SL RH RL hz1 hz2 hz3
  have hlenT : (listOf H lh ++ entries mk L n).length = lh + (entries mk L n).length := by rw [List.length_append, listOf_len]
  have hen := entries_len mk L n
  obtain ⟨E, rE⟩ : ∃ E, (entries mk L n).length = E := ⟨_, rfl⟩
  rw [rE] at hlenT hen
  have hd46 : decide ((lh : Int) + (E : Int) < (lh : Int)) = false := by simp; omega
  have hd29 : decide (r2 < 0) = false := by simp; omega
  have HLT := hide hlenT
  clear hlenT
  have rL := listOf_len H lh
  go_wp2_with fail
  have RE := hide rE
  clear rE hd29 hd46 rL
  go_loopw [10] (fun i wr => ∃ (k q : Nat), k ≤ lh ∧ i = .int .i64 k ∧ wr = w4.drewN q) (fun i _ => lh - (intOf i).toNat)
  case atStart => exact ⟨0, 0, by omega, rfl, rfl⟩
  case round =>
    obtain ⟨k, q, hk, rfl, rfl⟩ := hrel
    by_cases hlt : k < lh
    · obtain ⟨g, hg4, _, hc4⟩ := RD4.out (by rw [HLT.out]; omega)
      obtain ⟨b3, o3, hg3, hc3⟩ := RB4.out (by omega)
      have e1 := hc4 k (by rw [HLT.out]; omega)
      rw [got_left mk L H n lh k hlt] at e1
      have e2 := hc3 k hlt
      clear hc4 hc3
      subst hg4 hg3
      have i1 : (k : Int) < (lh : Int) + (E : Int) := by omega
      go_wp2_with fail
      go_quiet (fail)
      go_wp2_with fail
      go_roundw
      case rel => exact ⟨k + 1, _, by omega, by go_num, rfl⟩
      case measure => simp [intOf]; omega
    · go_wp2_with fail
      refine (text_any mk _ h0 h1).mono ?_
      rintro e w5 ⟨rfl, hb5⟩
      have HB5 := hide hb5
      clear hb5
      have HP := hide (encode_eq mk h0 h1)
      have hps : (Utf8.encode mk).size ≤ 2 := by rw [HP.out]; exact mtext_size _
      go_wp2_with fail
      have RG5 : Hid (0 < lh + E → ∃ g, a4 = some ⟨g, 0, none⟩ ∧ ∀ i, i < lh + E → w5.cell? ⟨g, i, none⟩ = some (.string ((listOf H lh ++ entries mk L n).getD i nonl))) := by
        intro hx
        obtain ⟨g, hg, _, hc⟩ := RD4.out (by rw [HLT.out]; exact hx)
        refine ⟨g, hg, fun i hi => ?_⟩
        have hci := hc i (by rw [HLT.out]; exact hi)
        rw [HB5.out.cell (by have := World.block_lt_of_cell? _ _ hci; simpa using this)]
        simpa using hci
      have RL5 : Hid (Rd w5 a2 n L) := by
        intro hx
        obtain ⟨b, o, ha, hc⟩ := RL4.out hx
        refine ⟨b, o, ha, fun i hi => ?_⟩
        have hci := hc i hi
        rw [HB5.out.cell (by have := World.block_lt_of_cell? _ _ hci; simpa using this)]
        simpa using hci
      have HBF := hide (HBW.out.trans ((below_drewN (Below.refl w4.heap.size w4) q).trans (HB5.out.mono (by simp)) |>.mono HBW.out.size))
      clear RD4 RL4 RB4 HB5 HBW
      go_loop [12, 13] (fun kk ii => ∃ (k P : Nat), k ≤ n ∧ kk = .int .i64 k ∧ ii = .int .i64 P ∧ P = lh + (entries mk L k).length) (fun kk _ => n - (intOf kk).toNat)
      case atStart => exact ⟨0, lh, by omega, rfl, rfl, by simp [entries]⟩
      case round =>
        obtain ⟨k2, P, hk2, rfl, rfl, hP⟩ := hrel
        have HPP := hide hP
        clear hP
        by_cases hkn : k2 < n
        · obtain ⟨x1, x2, x3, x4⟩ := got_here mk L (listOf H lh) n k2 hkn
          rw [listOf_len, ← HPP.out] at x1 x2 x3 x4
          rw [HLT.out] at x2 x3 x4
          obtain ⟨g, hg, hcg⟩ := RG5.out (by omega)
          obtain ⟨b2, o2, hg2, hcl⟩ := RL5.out (by omega)
          subst hg hg2
          have c0 := hcg P x2
          rw [x1] at c0
          have cl := hcl k2 hkn
          have hsk := HS.out k2 hkn
          have hcs := cut_size (L k2)
          have i1 : (P : Int) < (lh : Int) + (E : Int) := by omega
          have i2 : (k2 : Int) < (n : Int) := by omega
          have HX3 := hide x3
          have HX4 := hide x4
          have HCG := hide hcg
          have HEN := hide (show entries mk L (k2 + 1) = entries mk L k2 ++ entry mk (L k2) from rfl)
          clear x1 x3 x4 hcg hcl
          have f2 := app_head (Utf8.encode mk) (cut (L k2))
          have f3 := app_tail (Utf8.encode mk) (cut (L k2))
          rw [ByteArray.size_append] at f3
          cases he : ends (L k2)
          · obtain ⟨z1, z2⟩ := HX3.out he
            have c1 := HCG.out (P + 1) z2
            rw [z1] at c1
            have i3 : (P : Int) + 1 < (lh : Int) + (E : Int) := by omega
            have f5 : cut (L k2) = L k2 := by unfold cut; rw [he]; rfl
            rw [f5] at c0 f2 f3
            have f6 : (nonl.toList == [92, 32, 78, 111, 32, 110, 101, 119, 108, 105, 110, 101, 32, 97, 116, 32, 101, 110, 100, 32, 111, 102, 32, 102, 105, 108, 101]) = true := by rw [nonl_list]; rfl
            have HL := hide (last_not (L k2) he)
            have HNE := hide (show (entry mk (L k2)).length = 2 from by unfold entry; rw [he]; rfl)
            clear z1 f5 hcs
            generalize L k2 = s at *
            by_cases hs0 : s.size = 0
            · have j1 : decide ((0 : Int) < (s.size : Int)) = false := decide_eq_false (by omega)
              have j1n : decide (0 < s.size) = false := decide_eq_false (by omega)
              clear hs0
              go_wp2_with fail
              go_round
              case rel => exact ⟨k2 + 1, P + 2, by omega, by go_num, by go_num, by rw [HEN.out, List.length_append, HNE.out, HPP.out]; omega⟩
              case measure => simp [intOf]; omega
            · have j1 : (0 : Int) < (s.size : Int) := by omega
              have j2 : s.size - 1 < s.size := by omega
              have j3 := HL.out j2
              clear hs0
              go_wp2_with fail
              go_round
              case rel => exact ⟨k2 + 1, P + 2, by omega, by go_num, by go_num, by rw [HEN.out, List.length_append, HNE.out, HPP.out]; omega⟩
              case measure => simp [intOf]; omega
          · have f4 := cut_back (L k2) he
            have HNE := hide (show (entry mk (L k2)).length = 1 from by unfold entry; rw [he]; rfl)
            by_cases hnx : P + 1 < lh + E
            · obtain ⟨cc, hcc⟩ := HX4.out he hnx
              have c1 := HCG.out (P + 1) hnx
              rw [hcc] at c1
              have hne := marker_ne mk h0 h1 h92 cc
              rw [nonl_list] at hne
              have i3 : (P : Int) + 1 < (lh : Int) + (E : Int) := by omega
              clear hcc
              go_wp2_with fail
              go_round
              case rel => exact ⟨k2 + 1, P + 1, by omega, by go_num, by go_num, by rw [HEN.out, List.length_append, HNE.out, HPP.out]; omega⟩
              case measure => simp [intOf]; omega
            · have i3 : decide ((P : Int) + 1 < (lh : Int) + (E : Int)) = false := by simp; omega
              go_wp2_with fail
              go_round
              case rel => exact ⟨k2 + 1, P + 1, by omega, by go_num, by go_num, by rw [HEN.out, List.length_append, HNE.out, HPP.out]; omega⟩
              case measure => simp [intOf]; omega
        · have hkn2 : k2 = n := by omega
          have hPe : (lh : Int) + (E : Int) ≤ (P : Int) := by rw [HPP.out, hkn2, RE.out]; omega
          have hfin : ((k2 : Int) == (n : Int)) = true := by simp [hkn2]
          clear hkn2
          go_wp2_with fail
          go_ret
          exact ⟨rfl, HBF.out⟩
end Go.Proofs.Qxb6605269a.MarkLaw
