import Derived.Test.Qxb6605269aHunkBools
namespace Go.Proofs.Qxb6605269a.HunkZz
open Go.ChangeShapes Go.WideShapes Go.ChangeAt Go.RowKit
open Go.Proofs.Qxb6605269a.Lcs (hide rowIs_drewN info3)
open Go.Proofs.Qxb6605269a.Strs

set_option maxHeartbeats 1000000 in
theorem zz16 (a b c d : Option Addr) (la lb lc ld ca cb cc cd : Nat) (L H : Nat → ByteArray) (w : World) (h1 : la ≤ 9223372036854775807) (h2 : lb ≤ 9223372036854775807) (h3 : lc ≤ 9223372036854775807) (h4 : ld ≤ 9223372036854775807) (hr : Rd w a la L) (hr2 : Rd w b lb H) :
    Calls Try.prog 16 #[.slice a la ca, .slice b lb cb, .slice c lc cc, .slice d ld cd] w fun e w' => AnyBool w e w' := by
  by_cases hl : la ≤ 1048576
  · go_enter Try.func16, Try.ntmps16
    go_wp2
    go_loop [9, 10] (fun z i => ∃ (k : Nat) (x : Int), k ≤ la ∧ i = .int .i64 k ∧ z = .int .i64 x ∧ 0 ≤ x ∧ x ≤ 1048576) (fun _ i => la - (intOf i).toNat)
    case atStart => exact ⟨0, _, by omega, rfl, rfl, by omega, by omega⟩
    case round =>
      obtain ⟨k, x, hk, rfl, rfl, hx0, hx1⟩ := hrel
      by_cases hlt : k < la
      · obtain ⟨b, o, rfl, hc⟩ := hr (by omega)
        have hck := hc k hlt
        clear hc hr hr2
        by_cases hbig : (1048576 : Int) < ((L k).size : Int)
        · go_wp2
          go_ret
          exact ⟨_, rfl, rfl⟩
        · have hbig' : ((L k).size : Int) ≤ 1048576 := by omega
          clear hbig
          by_cases hsum : (1048576 : Int) < x + ((L k).size : Int)
          · go_wp2
            go_ret
            exact ⟨_, rfl, rfl⟩
          · have hsum' : x + ((L k).size : Int) ≤ 1048576 := by omega
            clear hsum
            go_wp2
            go_round
            case rel => exact ⟨k + 1, _, by omega, by go_num, rfl, by omega, by omega⟩
            case measure => simp [intOf]; omega
      · clear hr
        by_cases hl2 : (1048576 : Int) < (lb : Int)
        · go_wp2
          go_ret
          exact ⟨_, rfl, rfl⟩
        · have hl2' : (lb : Int) ≤ 1048576 := by omega
          clear hl2
          by_cases hs2 : (1048576 : Int) < x + (lb : Int)
          · go_wp2
            go_ret
            exact ⟨_, rfl, rfl⟩
          · have hs2' : x + (lb : Int) ≤ 1048576 := by omega
            have hd1 : decide ((1048576 : Int) < (lb : Int)) = false := by simp; omega
            have hd2 : decide ((1048576 : Int) < x + (lb : Int)) = false := by simp; omega
            clear hs2
            go_wp2
            go_loop [9, 11] (fun z i => ∃ (k : Nat) (x : Int), k ≤ lb ∧ i = .int .i64 k ∧ z = .int .i64 x ∧ 0 ≤ x ∧ x ≤ 1048576) (fun _ i => lb - (intOf i).toNat)
            case atStart => exact ⟨0, _, by omega, rfl, rfl, by omega, by omega⟩
            case round =>
              obtain ⟨k2, x2, hk2, rfl, rfl, hx20, hx21⟩ := hrel
              by_cases hlt2 : k2 < lb
              · obtain ⟨b, o, rfl, hc⟩ := hr2 (by omega)
                have hck := hc k2 hlt2
                clear hc hr2
                by_cases hbig : (1048576 : Int) < ((H k2).size : Int)
                · go_wp2
                  go_ret
                  exact ⟨_, rfl, rfl⟩
                · have hbig' : ((H k2).size : Int) ≤ 1048576 := by omega
                  clear hbig
                  by_cases hsum : (1048576 : Int) < x2 + ((H k2).size : Int)
                  · go_wp2
                    go_ret
                    exact ⟨_, rfl, rfl⟩
                  · have hsum' : x2 + ((H k2).size : Int) ≤ 1048576 := by omega
                    clear hsum
                    go_wp2
                    go_round
                    case rel => exact ⟨k2 + 1, _, by omega, by go_num, rfl, by omega, by omega⟩
                    case measure => simp [intOf]; omega
              · clear hr2
                by_cases q1 : (1048576 : Int) < (lc : Int)
                · go_wp2
                  go_ret
                  exact ⟨_, rfl, rfl⟩
                · have q1' : (lc : Int) ≤ 1048576 := by omega
                  clear q1
                  by_cases q2 : (1048576 : Int) < x2 + (lc : Int)
                  · go_wp2
                    go_ret
                    exact ⟨_, rfl, rfl⟩
                  · have q2' : x2 + (lc : Int) ≤ 1048576 := by omega
                    clear q2
                    by_cases q3 : (1048576 : Int) < (ld : Int)
                    · go_wp2
                      go_ret
                      exact ⟨_, rfl, rfl⟩
                    · have q3' : (ld : Int) ≤ 1048576 := by omega
                      clear q3
                      by_cases q4 : (1048576 : Int) < x2 + (lc : Int) + (ld : Int)
                      · go_wp2
                        go_ret
                        exact ⟨_, rfl, rfl⟩
                      · have q4' : x2 + (lc : Int) + (ld : Int) ≤ 1048576 := by omega
                        clear q4
                        go_wp2
                        go_ret
                        exact ⟨_, rfl, rfl⟩
  · clear hr hr2
    go_enter Try.func16, Try.ntmps16
    go_wp2
    go_ret
    exact ⟨_, rfl, rfl⟩

set_option maxHeartbeats 1000000 in
theorem zz23 (a b c d : Option Addr) (la lb lc ld ca cb cc cd : Nat) (L H : Nat → ByteArray) (w : World) (h1 : la ≤ 9223372036854775807) (h2 : lb ≤ 9223372036854775807) (h3 : lc ≤ 9223372036854775807) (h4 : ld ≤ 9223372036854775807) (hr : Rd w a la L) (hr2 : Rd w b lb H) :
    Calls Try.prog 23 #[.slice a la ca, .slice b lb cb, .slice c lc cc, .slice d ld cd] w fun e w' => AnyBool w e w' := by
  by_cases hl : la ≤ 1048576
  · go_enter Try.func23, Try.ntmps23
    go_wp2
    go_loop [9, 10] (fun z i => ∃ (k : Nat) (x : Int), k ≤ la ∧ i = .int .i64 k ∧ z = .int .i64 x ∧ 0 ≤ x ∧ x ≤ 1048576) (fun _ i => la - (intOf i).toNat)
    case atStart => exact ⟨0, _, by omega, rfl, rfl, by omega, by omega⟩
    case round =>
      obtain ⟨k, x, hk, rfl, rfl, hx0, hx1⟩ := hrel
      by_cases hlt : k < la
      · obtain ⟨b, o, rfl, hc⟩ := hr (by omega)
        have hck := hc k hlt
        clear hc hr hr2
        by_cases hbig : (1048576 : Int) < ((L k).size : Int)
        · go_wp2
          go_ret
          exact ⟨_, rfl, rfl⟩
        · have hbig' : ((L k).size : Int) ≤ 1048576 := by omega
          clear hbig
          by_cases hsum : (1048576 : Int) < x + ((L k).size : Int)
          · go_wp2
            go_ret
            exact ⟨_, rfl, rfl⟩
          · have hsum' : x + ((L k).size : Int) ≤ 1048576 := by omega
            clear hsum
            go_wp2
            go_round
            case rel => exact ⟨k + 1, _, by omega, by go_num, rfl, by omega, by omega⟩
            case measure => simp [intOf]; omega
      · clear hr
        by_cases hl2 : (1048576 : Int) < (lb : Int)
        · go_wp2
          go_ret
          exact ⟨_, rfl, rfl⟩
        · have hl2' : (lb : Int) ≤ 1048576 := by omega
          clear hl2
          by_cases hs2 : (1048576 : Int) < x + (lb : Int)
          · go_wp2
            go_ret
            exact ⟨_, rfl, rfl⟩
          · have hs2' : x + (lb : Int) ≤ 1048576 := by omega
            have hd1 : decide ((1048576 : Int) < (lb : Int)) = false := by simp; omega
            have hd2 : decide ((1048576 : Int) < x + (lb : Int)) = false := by simp; omega
            clear hs2
            go_wp2
            go_loop [9, 11] (fun z i => ∃ (k : Nat) (x : Int), k ≤ lb ∧ i = .int .i64 k ∧ z = .int .i64 x ∧ 0 ≤ x ∧ x ≤ 1048576) (fun _ i => lb - (intOf i).toNat)
            case atStart => exact ⟨0, _, by omega, rfl, rfl, by omega, by omega⟩
            case round =>
              obtain ⟨k2, x2, hk2, rfl, rfl, hx20, hx21⟩ := hrel
              by_cases hlt2 : k2 < lb
              · obtain ⟨b, o, rfl, hc⟩ := hr2 (by omega)
                have hck := hc k2 hlt2
                clear hc hr2
                by_cases hbig : (1048576 : Int) < ((H k2).size : Int)
                · go_wp2
                  go_ret
                  exact ⟨_, rfl, rfl⟩
                · have hbig' : ((H k2).size : Int) ≤ 1048576 := by omega
                  clear hbig
                  by_cases hsum : (1048576 : Int) < x2 + ((H k2).size : Int)
                  · go_wp2
                    go_ret
                    exact ⟨_, rfl, rfl⟩
                  · have hsum' : x2 + ((H k2).size : Int) ≤ 1048576 := by omega
                    clear hsum
                    go_wp2
                    go_round
                    case rel => exact ⟨k2 + 1, _, by omega, by go_num, rfl, by omega, by omega⟩
                    case measure => simp [intOf]; omega
              · clear hr2
                by_cases q1 : (1048576 : Int) < (lc : Int)
                · go_wp2
                  go_ret
                  exact ⟨_, rfl, rfl⟩
                · have q1' : (lc : Int) ≤ 1048576 := by omega
                  clear q1
                  by_cases q2 : (1048576 : Int) < x2 + (lc : Int)
                  · go_wp2
                    go_ret
                    exact ⟨_, rfl, rfl⟩
                  · have q2' : x2 + (lc : Int) ≤ 1048576 := by omega
                    clear q2
                    by_cases q3 : (1048576 : Int) < (ld : Int)
                    · go_wp2
                      go_ret
                      exact ⟨_, rfl, rfl⟩
                    · have q3' : (ld : Int) ≤ 1048576 := by omega
                      clear q3
                      by_cases q4 : (1048576 : Int) < x2 + (lc : Int) + (ld : Int)
                      · go_wp2
                        go_ret
                        exact ⟨_, rfl, rfl⟩
                      · have q4' : x2 + (lc : Int) + (ld : Int) ≤ 1048576 := by omega
                        clear q4
                        go_wp2
                        go_ret
                        exact ⟨_, rfl, rfl⟩
  · clear hr hr2
    go_enter Try.func23, Try.ntmps23
    go_wp2
    go_ret
    exact ⟨_, rfl, rfl⟩
end Go.Proofs.Qxb6605269a.HunkZz
