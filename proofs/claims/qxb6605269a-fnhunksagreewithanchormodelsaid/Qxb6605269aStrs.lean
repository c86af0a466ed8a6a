import Derived.Test.Qxb6605269aLcs
import Derived.Maps.AppendAt
namespace Go.Proofs.Qxb6605269a.Strs
open Go.ChangeShapes Go.WideShapes Go.ChangeAt Go.RowKit
open Go.Proofs.Qxb6605269a.Lcs (hide rowIs_drewN)

theorem info9 : (Try.prog.info? 9).map (fun i => (i.zero, i.size, i.bytes)) = some (some (.string ⟨#[]⟩), 1, 16) := by kernel_rfl
theorem ret_bool {a b : Bool} (h : a = b) : Ending.returned (.bool a) = .returned (.bool b) := by rw [h]
theorem ret_int {k : IntKind} {a b : Int} (h : a = b) : Ending.returned (.int k a) = .returned (.int k b) := by rw [h]

/-- a slice of strings can be read -/
def Rd (w : World) (a : Option Addr) (len : Nat) (L : Nat → ByteArray) : Prop := 0 < len → ∃ b o, a = some ⟨b, o, none⟩ ∧ ∀ i, i < len → w.cell? ⟨b, o + i, none⟩ = some (.string (L i))

theorem Rd.below {w wx : World} {a : Option Addr} {len : Nat} {L : Nat → ByteArray} (h : Rd w a len L) (hb : Below w.heap.size w wx) : Rd wx a len L := by
  intro h0
  obtain ⟨b, o, ha, hc⟩ := h h0
  exact ⟨b, o, ha, fun i hi => by rw [hb.cell (World.block_lt_of_cell? w _ (hc i hi))]; exact hc i hi⟩

/-- how many bytes the first k strings hold -/
def tot (L : Nat → ByteArray) : Nat → Nat
  | 0 => 0
  | k + 1 => tot L k + (L k).size

theorem tot_at (L : Nat → ByteArray) (k i : Nat) (h : i < k) : (L i).size ≤ tot L k := by
  induction k with
  | zero => omega
  | succ k ih =>
    by_cases e : i = k
    · subst e; simp only [tot]; omega
    · have := ih (by omega); simp only [tot]; omega
theorem tot_mono (L : Nat → ByteArray) (k n : Nat) (h : k ≤ n) : tot L k ≤ tot L n := by
  induction n with
  | zero => have : k = 0 := by omega
            subst this; exact Nat.le_refl _
  | succ n ih =>
    by_cases e : k = n + 1
    · subst e; exact Nat.le_refl _
    · have := ih (by omega); simp only [tot]; omega

set_option maxHeartbeats 400000 in
theorem take_any (bud : Int) (a : Option Addr) (len cap : Nat) (L : Nat → ByteArray) (w : World) (h1 : bud ≤ 1048576) (hlen : len ≤ 9223372036854775807) (hr : Rd w a len L) (hs : ∀ i, i < len → (L i).size ≤ 9223372036854775807) :
    Calls Try.prog 12 #[.int .i64 bud, .slice a len cap] w fun e w' => ∃ r : Int, e = .returned (.int .i64 r) ∧ w' = w ∧ r ≤ 1048576 ∧ (0 ≤ r → r + 8 * (len : Int) + (tot L len : Int) = bud) := by
  by_cases hb : bud < 0
  · go_enter Try.func12, Try.ntmps12
    go_wp2
    go_ret
    exact ⟨_, rfl, rfl, by omega, by omega⟩
  · by_cases hl : bud / 8 < (len : Int)
    · have hb' : 0 ≤ bud := by omega
      go_enter Try.func12, Try.ntmps12
      go_wp2
      go_ret
      exact ⟨_, rfl, rfl, by omega, by omega⟩
    · have hb' : 0 ≤ bud := by omega
      have hd1 : decide (bud < 0) = false := decide_eq_false hb
      have hd2 : decide (bud / 8 < (len : Int)) = false := decide_eq_false hl
      clear hb hl
      have hl' : (len : Int) ≤ bud / 8 := by simpa using hd2
      go_enter Try.func12, Try.ntmps12
      go_wp2
      go_loop [0, 5] (fun r i => ∃ (k : Nat) (x : Int), k ≤ len ∧ i = .int .i64 k ∧ r = .int .i64 x ∧ 0 ≤ x ∧ x + 8 * (len : Int) + (tot L k : Int) = bud) (fun _ i => len - (intOf i).toNat)
      case atStart => exact ⟨0, _, by omega, rfl, rfl, by omega, by simp [tot]⟩
      case round =>
        obtain ⟨k, x, hk, rfl, rfl, hx, hsum⟩ := hrel
        have HS := hide hsum
        have hxb : x ≤ 1048576 := by omega
        clear hsum
        by_cases hlt : k < len
        · obtain ⟨b, o, rfl, hc⟩ := hr (by omega)
          have hck := hc k hlt
          have hsk := hs k hlt
          have HT := hide (show tot L (k + 1) = tot L k + (L k).size from rfl)
          clear hc hs hr
          by_cases hbig : x < ((L k).size : Int)
          · go_wp2
            go_ret
            exact ⟨_, rfl, rfl, by omega, by omega⟩
          · have hbig' : ((L k).size : Int) ≤ x := by omega
            clear hbig
            go_wp2
            go_round
            case rel => exact ⟨k + 1, _, by omega, by go_num, rfl, by omega, by rw [HT.out]; have := HS.out; omega⟩
            case measure => simp [intOf]; omega
        · have hke : k = len := by omega
          go_wp2
          go_ret
          exact ⟨x, rfl, rfl, by omega, fun _ => by have e := HS.out; rw [hke] at e; exact e⟩

/-- it answers something and writes nothing -/
def AnyBool (w : World) (e : Ending) (w' : World) : Prop := ∃ r, e = .returned (.bool r) ∧ w' = w

set_option maxHeartbeats 1000000 in
theorem zzmark_any (a b : Option Addr) (la lb ca cb : Nat) (mk : Int) (L H : Nat → ByteArray) (w : World) (h1 : la ≤ 9223372036854775807) (h2 : lb ≤ 9223372036854775807) (hr : Rd w a la L) (hr2 : Rd w b lb H) :
    Calls Try.prog 11 #[.slice a la ca, .int .u8 mk, .slice b lb cb] w fun e w' => AnyBool w e w' := by
  by_cases hl : la ≤ 1048576
  · go_enter Try.func11, Try.ntmps11
    go_wp2
    go_loop [7, 8] (fun z i => ∃ (k : Nat) (x : Int), k ≤ la ∧ i = .int .i64 k ∧ z = .int .i64 x ∧ 0 ≤ x ∧ x ≤ 1048576) (fun _ i => la - (intOf i).toNat)
    case atStart => exact ⟨0, _, by omega, rfl, rfl, by omega, by omega⟩
    case round =>
      obtain ⟨k, x, hk, rfl, rfl, hx0, hx1⟩ := hrel
      by_cases hlt : k < la
      · obtain ⟨b, o, rfl, hc⟩ := hr (by omega)
        have hck := hc k hlt
        clear hc hr hr2
        by_cases hbig : (1048576 : Int) < ((L k).size : Int)
        · go_wp2
          go_ret
          exact ⟨_, rfl, rfl⟩
        · have hbig' : ((L k).size : Int) ≤ 1048576 := by omega
          clear hbig
          by_cases hsum : (1048576 : Int) < x + ((L k).size : Int)
          · go_wp2
            go_ret
            exact ⟨_, rfl, rfl⟩
          · have hsum' : x + ((L k).size : Int) ≤ 1048576 := by omega
            clear hsum
            go_wp2
            go_round
            case rel => exact ⟨k + 1, _, by omega, by go_num, rfl, by omega, by omega⟩
            case measure => simp [intOf]; omega
      · clear hr
        by_cases hl2 : (1048576 : Int) < (lb : Int)
        · go_wp2
          go_ret
          exact ⟨_, rfl, rfl⟩
        · have hl2' : (lb : Int) ≤ 1048576 := by omega
          clear hl2
          by_cases hs2 : (1048576 : Int) < x + (lb : Int)
          · go_wp2
            go_ret
            exact ⟨_, rfl, rfl⟩
          · have hs2' : x + (lb : Int) ≤ 1048576 := by omega
            have hd1 : decide ((1048576 : Int) < (lb : Int)) = false := by simp; omega
            have hd2 : decide ((1048576 : Int) < x + (lb : Int)) = false := by simp; omega
            clear hs2
            go_wp2
            go_loop [7, 9] (fun z i => ∃ (k : Nat) (x : Int), k ≤ lb ∧ i = .int .i64 k ∧ z = .int .i64 x ∧ 0 ≤ x ∧ x ≤ 1048576) (fun _ i => lb - (intOf i).toNat)
            case atStart => exact ⟨0, _, by omega, rfl, rfl, by omega, by omega⟩
            case round =>
              obtain ⟨k2, x2, hk2, rfl, rfl, hx20, hx21⟩ := hrel
              by_cases hlt2 : k2 < lb
              · obtain ⟨b, o, rfl, hc⟩ := hr2 (by omega)
                have hck := hc k2 hlt2
                clear hc hr2
                by_cases hbig : (1048576 : Int) < ((H k2).size : Int)
                · go_wp2
                  go_ret
                  exact ⟨_, rfl, rfl⟩
                · have hbig' : ((H k2).size : Int) ≤ 1048576 := by omega
                  clear hbig
                  by_cases hsum : (1048576 : Int) < x2 + ((H k2).size : Int)
                  · go_wp2
                    go_ret
                    exact ⟨_, rfl, rfl⟩
                  · have hsum' : x2 + ((H k2).size : Int) ≤ 1048576 := by omega
                    clear hsum
                    go_wp2
                    go_round
                    case rel => exact ⟨k2 + 1, _, by omega, by go_num, rfl, by omega, by omega⟩
                    case measure => simp [intOf]; omega
              · go_wp2
                go_ret
                exact ⟨_, rfl, rfl⟩
  · clear hr hr2
    go_enter Try.func11, Try.ntmps11
    go_wp2
    go_ret
    exact ⟨_, rfl, rfl⟩

/-- a copy in new memory -/
structure CopiedS (w w' : World) (g len : Nat) (L : Nat → ByteArray) : Prop where
  row : w'.rowIs g 9 len (fun i => .string (L i))
  lo : w.heap.size ≤ g
  hi : g < w'.heap.size
  below : Below w.heap.size w w'

theorem set_str {w : World} {b : Nat} {t : TypeId} {n : Nat} {f : Nat → ByteArray} (h : w.rowIs b t n fun j => .string (f j)) (i : Nat) (v : ByteArray) :
    (w.setCell ⟨b, i, none⟩ (.string v)).rowIs b t n fun j => .string (if j = i then v else f j) :=
  (h.set i (.string v)).congr fun j _ => by split <;> rfl

theorem clone_nil (w : World) : Calls Try.prog 13 #[.slice none 0 0] w fun e w' => e = .returned (.slice none 0 0) ∧ w' = w := by
  have q28 : ∀ (w : World) (a : Option Addr) (n c n' c' : Nat), (binOp .eql 28 (.slice a n c) (.slice none n' c')).run Try.prog w = .ok (.bool a.isNone) w := fun w a n c n' c' => Lib.run_eql_slice_nil w _ _ a n c n' c' Try.underlying28
  go_enter Try.func13, Try.ntmps13
  go_wp2
  go_ret
  exact ⟨rfl, rfl⟩

set_option maxHeartbeats 400000 in
theorem clone_row (x : Addr) (len cap : Nat) (L : Nat → ByteArray) (w : World) (hlen : len ≤ 1048576)
    (hr : Rd w (some x) len L) :
    Calls Try.prog 13 #[.slice (some x) len cap] w fun e w' => ∃ g, e = .returned (.slice (some ⟨g, 0, none⟩) len len) ∧ CopiedS w w' g len L := by
  have q28 : ∀ (w : World) (a : Option Addr) (n c n' c' : Nat), (binOp .eql 28 (.slice a n c) (.slice none n' c')).run Try.prog w = .ok (.bool a.isNone) w := fun w a n c n' c' => Lib.run_eql_slice_nil w _ _ a n c n' c' Try.underlying28
  have hmk := fun wx => run_make_row' (P := Try.prog) 28 9 (.string ⟨#[]⟩) 16 Try.underlying28 info9 rfl .i64 .i64 len (by omega) (by omega) wx
  have HR := hide (World.rowIs_made w (.string ⟨#[]⟩) len 9)
  go_enter Try.func13, Try.ntmps13
  go_wp2
  go_loopw [4] (fun i wr => ∃ (k : Nat) (f : Nat → ByteArray), k ≤ len ∧ i = .int .i64 k ∧ wr.rowIs w.heap.size 9 len (fun i => .string (f i)) ∧ (∀ j, j < k → f j = L j) ∧ Below w.heap.size w wr) (fun i _ => len - (intOf i).toNat)
  case atStart => exact ⟨0, fun _ => ⟨#[]⟩, by omega, rfl, HR.out, fun j hj => absurd hj (by omega), (Below.refl _ _).alloc (Nat.le_refl _) _⟩
  case round =>
    obtain ⟨k, f, hk, rfl, hrow, hpre, hbel⟩ := hrel
    clear HR
    have HP := hide hpre
    have HRW := hide hrow
    clear hpre
    by_cases hlt : k < len
    · obtain ⟨b, o, hx, hc⟩ := hr (by omega)
      simp only [Option.some.injEq] at hx
      subst hx
      have hck := hc k hlt
      have hc' := (hbel.cell (World.block_lt_of_cell? w _ hck)).trans hck
      have e1 := hrow.cell hlt
      have e2 := hrow.frozen k
      clear hrow hck hc hr
      go_wp2
      go_roundw
      case rel =>
        refine ⟨k + 1, _, by omega, by go_num, set_str HRW.out k _, ?_, hbel.setCell (Nat.le_refl _) _⟩
        intro j hj
        by_cases e : j = k
        · simp [e]
        · simp only [e, if_false]; exact HP.out j (by omega)
      case measure => simp [intOf]; omega
    · have hlt2 := hrow.lt
      clear hrow hr
      go_wp2
      go_ret
      exact ⟨_, rfl, HRW.out.congr fun i hi => by rw [HP.out i (by omega)], Nat.le_refl _, hlt2, hbel⟩

end Go.Proofs.Qxb6605269a.Strs
