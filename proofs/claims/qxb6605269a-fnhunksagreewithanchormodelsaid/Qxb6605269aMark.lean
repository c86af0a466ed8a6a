import Derived.Test.Qxb6605269aStrs
import Derived.Deep.LoopGhost
namespace Go.Proofs.Qxb6605269a.Mark
open Go.ChangeShapes Go.WideShapes Go.ChangeAt Go.RowKit
open Go.Proofs.Qxb6605269a.Lcs (hide rowIs_drewN)
open Go.Proofs.Qxb6605269a.Strs

/-- the line ends with a line end -/
def ends (s : ByteArray) : Bool := decide (1 ≤ s.size) && ((s.extract (s.size - 1) s.size).toList == [10])
def cut (s : ByteArray) : ByteArray := if ends s then s.extract 0 (s.size - 1) else s

theorem has_any (s : ByteArray) (w : World) (hs : s.size ≤ 1048576) : Calls Try.prog 33 #[.string s, .string ⟨#[10]⟩] w fun e w' => e = .returned (.bool (ends s)) ∧ w' = w := by
  by_cases h : 1 ≤ s.size
  · have h' : (1 : Int) ≤ (s.size : Int) := by omega
    go_enter Try.func33, Try.ntmps33
    go_wp2
    go_ret
    exact ⟨ret_bool (by simp [ends, h]), rfl⟩
  · have h' : (s.size : Int) < 1 := by omega
    go_enter Try.func33, Try.ntmps33
    go_wp2
    go_ret
    exact ⟨ret_bool (by simp [ends, h]), rfl⟩

theorem ends_size (s : ByteArray) (h : ends s = true) : 1 ≤ s.size := by
  simp only [ends, Bool.and_eq_true, decide_eq_true_eq] at h; exact h.1

theorem cut_lite (s : ByteArray) (w : World) (hs : s.size ≤ 1048576) : Calls Try.prog 32 #[.string s, .string ⟨#[10]⟩] w fun e w' => e = .returned (.tuple #[.string (cut s), .bool (ends s)]) ∧ w' = w := by
  cases he : ends s
  · go_enter Try.func32, Try.ntmps32
    go_wp2_with (go_at_call 33; refine (has_any _ _ hs).mono ?_; rintro e w' ⟨rfl, rfl⟩)
    go_ret2
    exact ⟨by rw [cut, he]; rfl, rfl⟩
  · have h1 := ends_size s he
    have h' : (1 : Int) ≤ (s.size : Int) := by omega
    go_enter Try.func32, Try.ntmps32
    go_wp2_with (go_at_call 33; refine (has_any _ _ hs).mono ?_; rintro e w' ⟨rfl, rfl⟩)
    go_ret2
    exact ⟨by rw [cut, he]; rfl, rfl⟩
theorem cut_any (s : ByteArray) (w : World) (hs : s.size ≤ 1048576) : Calls Try.prog 30 #[.string s, .string ⟨#[10]⟩] w fun e w' => e = .returned (.tuple #[.string (cut s), .bool (ends s)]) ∧ w' = w := by
  go_enter Try.func30, Try.ntmps30
  go_wp2_with (go_at_call 32; refine (cut_lite _ _ hs).mono ?_; rintro e w' ⟨rfl, rfl⟩)
  go_ret2
  exact ⟨rfl, rfl⟩

def nonl : ByteArray := ⟨#[92, 32, 78, 111, 32, 110, 101, 119, 108, 105, 110, 101, 32, 97, 116, 32, 101, 110, 100, 32, 111, 102, 32, 102, 105, 108, 101]⟩
/-- what mark appends for one line -/
def entry (mk : Int) (s : ByteArray) : List ByteArray := if ends s then [Utf8.encode mk ++ cut s] else [Utf8.encode mk ++ cut s, nonl]
def entries (mk : Int) (L : Nat → ByteArray) : Nat → List ByteArray
  | 0 => []
  | k + 1 => entries mk L k ++ entry mk (L k)
theorem entry_len (mk : Int) (s : ByteArray) : (entry mk s).length ≤ 2 := by unfold entry; split <;> simp
theorem entries_len (mk : Int) (L : Nat → ByteArray) (k : Nat) : (entries mk L k).length ≤ 2 * k := by
  induction k with
  | zero => simp [entries]
  | succ k ih => have := entry_len mk (L k); simp only [entries, List.length_append]; omega

def strs (l : List ByteArray) : List Value := l.map Value.string
theorem strs_append (a b : List ByteArray) : strs (a ++ b) = strs a ++ strs b := by simp [strs]

/-- what is known of the row that is appended to: v0 and w0: as the call began -/
structure Own (w0 : World) (v0 : Value) (w : World) (base : Nat) (v : Value) (l : List ByteArray) : Prop where
  own : w.ownsRow base 9 1 v l.length (strs l)
  blk : v.ownBlock = v0.ownBlock ∨ ∃ g, v.ownBlock = some g ∧ w0.heap.size ≤ g
  grown : w0.grownBy w v0.ownBlock

theorem grownBy_refl (w : World) (row : Option Nat) : w.grownBy w row := ⟨rfl, rfl, rfl, Nat.le_refl _, fun _ _ _ => rfl⟩

/-- the marker's text, as the law spells it -/
def mtext (m : Nat) : ByteArray := if m < 128 then ⟨#[UInt8.ofNat m]⟩ else ⟨#[UInt8.ofNat (192 + m / 64), UInt8.ofNat (128 + m % 64)]⟩
theorem encode_tab : ∀ m : Fin 256, (Utf8.encode (m.val : Int)).data = (mtext m.val).data := by decide +kernel
theorem encode_eq (mk : Int) (h0 : 0 ≤ mk) (h1 : mk ≤ 255) : Utf8.encode mk = mtext mk.toNat := by
  have := encode_tab ⟨mk.toNat, by omega⟩
  rw [show ((mk.toNat : Nat) : Int) = mk from by omega] at this
  exact ByteArray.ext this
theorem mtext_size (m : Nat) : (mtext m).size ≤ 2 := by unfold mtext; split <;> simp [ByteArray.size]
theorem cut_size (s : ByteArray) : (cut s).size ≤ s.size := by
  unfold cut; split
  · simp
  · exact Nat.le_refl _

theorem one_new (w : World) (x : Value) (t : TypeId) : ∀ j u, [x][j]? = some u → (w.alloc (.cells #[x] t)).cell? ((⟨w.heap.size, 0, none⟩ : Addr).add j) = some u := by
  intro j u hj
  match j, hj with
  | 0, hj => simp at hj; subst hj; simp [Addr.add]
theorem one_cell (s : ByteArray) : ∀ u ∈ [Value.string s], u.oneCell' = true := by
  intro u hu; simp at hu; subst hu; rfl

/-- one append -/
theorem Own.step {w0 w w1 : World} {base : Nat} {v0 v v1 : Value} {l : List ByteArray} {x : ByteArray} {t : TypeId} {n : Nat}
    (h : Own w0 v0 w base v l) (hown : w1.ownsRow base 9 1 v1 n (strs l ++ [.string x]))
    (hgrow : (w.alloc (.cells #[.string x] t)).grownBy w1 v.ownBlock) (hblk : v1.ownBlock = v.ownBlock ∨ v1.ownBlock = some (w.heap.size + 1)) :
    Own w0 v0 w1 base v1 (l ++ [x]) := by
  have hn : n = (l ++ [x]).length := by have := hown.1; simp [strs] at this; simp; omega
  subst hn
  have hsz := h.grown.size
  refine ⟨by rw [strs_append]; exact hown, ?_, ?_⟩
  · rcases hblk with e | e
    · rw [e]; exact h.blk
    · exact Or.inr ⟨_, e, by omega⟩
  · have hs1 := hgrow.size
    rw [World.size_alloc] at hs1
    refine ⟨hgrow.os.trans h.grown.os, hgrow.tape.trans h.grown.tape, hgrow.output.trans h.grown.output, by omega, fun k hk hne => ?_⟩
    have hv : some k ≠ v.ownBlock := by
      rcases h.blk with e | ⟨g, e, hg⟩
      · rw [e]; exact hne
      · rw [e]; intro e2; simp only [Option.some.injEq] at e2; omega
    rw [hgrow.block k (by rw [World.size_alloc]; omega) hv, Below.heap_alloc _ _ _ (by omega)]
    exact h.grown.block k hk hne

set_option maxHeartbeats 1000000 in
theorem mark_any (base : Nat) (v : Value) (H : List ByteArray) (mk : Int) (a : Option Addr) (len cap : Nat) (L : Nat → ByteArray) (w : World)
    (hown : w.ownsRow base 9 1 v H.length (strs H)) (hbase : base ≤ w.heap.size) (hlen : len ≤ 1048576) (hH : H.length ≤ 10000000) (hmk : 0 ≤ mk ∧ mk ≤ 255)
    (hr : Rd w a len L) (hap : ∀ b o, a = some ⟨b, o, none⟩ → some b ≠ v.ownBlock) (hs : ∀ i, i < len → (L i).size ≤ 1048576) :
    Calls Try.prog 26 #[v, .int .u8 mk, .slice a len cap] w fun e w' => ∃ v', e = .returned v' ∧ Own w v w' base v' (H ++ entries mk L len) := by
  obtain ⟨i0, hi, hz0, hz1, hz2⟩ := info_parts info9
  go_enter Try.func26, Try.ntmps26
  go_wp2
  go_loopg [0, 13] len (fun g v1 i wr => ∃ k : Nat, g = len - k ∧ k ≤ len ∧ i = .int .i64 k ∧ Own w v wr base v1 (H ++ entries mk L k))
  case atStart => exact ⟨0, by omega, by omega, rfl, ⟨by simpa [entries] using hown, Or.inl rfl, grownBy_refl _ _⟩⟩
  case round =>
    obtain ⟨k, hg, hk, rfl, hO⟩ := hrel
    by_cases hlt : k < len
    · obtain ⟨bl, ol, rfl, hc⟩ := hr (by omega)
      have hck := hO.grown.cell (hc k hlt) (hap bl ol rfl)
      have hsk := hs k hlt
      have HO := hide hO
      have HG := hide hg
      have hcs := cut_size (L k)
      have hms : (Utf8.encode mk).size ≤ 2 := by rw [encode_eq mk hmk.1 hmk.2]; exact mtext_size _
      have hel := entries_len mk L k
      have hbw := hO.grown.size
      have hll : (H ++ entries mk L k).length ≤ 12097152 := by simp only [List.length_append]; omega
      have HE := hide (show entries mk L (k + 1) = entries mk L k ++ entry mk (L k) from rfl)
      clear hO hc hr hap hs hg hown
      cases he : ends (L k)
      · have HEN := hide (show entry mk (L k) = [Utf8.encode mk ++ cut (L k), nonl] from by unfold entry; rw [he]; rfl)
        go_wp2_with (first | (go_at_call 30; refine (cut_any _ _ hsk).mono ?_; rintro e w' ⟨rfl, rfl⟩) | (at_builtin; refine wpList_append_own_at _ rfl (.tmp 22) (.tmp 27) 28 rfl base 9 i0 (.string ⟨#[]⟩) 1 16 Try.underlying28 hi hz0 hz1 hz2 rfl (by decide) _ _ _ rfl (HO.out.own.alloc _) _ 1 1 [.string (Utf8.encode mk ++ cut (L k))] rfl rfl ?c1 ?c2 ?c3 ?c4 ?c5 ?_))
        case c1 => exact one_new _ _ _
        case c2 => exact one_cell _
        case c3 => unfold maxLen; omega
        case c4 => omega
        case c5 => rw [World.size_alloc]; omega
        intro v1 w1 hown1 hgrow1 _ hblk1
        have O1o := hide (HO.out.step hown1 hgrow1 hblk1)
        have hw1 := hgrow1.size
        rw [World.size_alloc] at hw1
        clear hown1 hgrow1 hblk1 HO
        go_wp2_with (at_builtin; refine wpList_append_own_at _ rfl (.tmp 31) (.tmp 32) 28 rfl base 9 i0 (.string ⟨#[]⟩) 1 16 Try.underlying28 hi hz0 hz1 hz2 rfl (by decide) _ _ _ rfl (O1o.out.own.alloc _) _ 1 1 [.string nonl] rfl rfl ?d1 ?d2 ?d3 ?d4 ?d5 ?_)
        case d1 => exact one_new _ _ _
        case d2 => exact one_cell _
        case d3 => unfold maxLen; simp only [List.length_append, List.length_cons, List.length_nil] at *; omega
        case d4 => simp only [List.length_append, List.length_cons, List.length_nil] at *; omega
        case d5 => rw [World.size_alloc]; omega
        intro v2 w2 hown2 hgrow2 _ hblk2
        have O2o := hide (O1o.out.step (x := nonl) (by rw [List.append_assoc]; exact hown2) hgrow2 hblk2)
        clear hown2 hgrow2 hblk2 O1o
        go_wp2
        go_roundg (len - (k + 1))
        case measure => have := HG.out; omega
        case rel => exact ⟨k + 1, rfl, by omega, by go_num, by rw [HE.out, HEN.out]; simpa [List.append_assoc] using O2o.out⟩
      · have HEN := hide (show entry mk (L k) = [Utf8.encode mk ++ cut (L k)] from by unfold entry; rw [he]; rfl)
        go_wp2_with (first | (go_at_call 30; refine (cut_any _ _ hsk).mono ?_; rintro e w' ⟨rfl, rfl⟩) | (at_builtin; refine wpList_append_own_at _ rfl (.tmp 22) (.tmp 27) 28 rfl base 9 i0 (.string ⟨#[]⟩) 1 16 Try.underlying28 hi hz0 hz1 hz2 rfl (by decide) _ _ _ rfl (HO.out.own.alloc _) _ 1 1 [.string (Utf8.encode mk ++ cut (L k))] rfl rfl ?c1 ?c2 ?c3 ?c4 ?c5 ?_))
        case c1 => exact one_new _ _ _
        case c2 => exact one_cell _
        case c3 => unfold maxLen; omega
        case c4 => omega
        case c5 => rw [World.size_alloc]; omega
        intro v1 w1 hown1 hgrow1 _ hblk1
        have O1o := hide (HO.out.step hown1 hgrow1 hblk1)
        clear hown1 hgrow1 hblk1 HO
        go_wp2
        go_roundg (len - (k + 1))
        case measure => have := HG.out; omega
        case rel => exact ⟨k + 1, rfl, by omega, by go_num, by rw [HE.out, HEN.out, ← List.append_assoc]; exact O1o.out⟩
    · have hke : k = len := by omega
      have HO := hide hO
      clear hO hr hs hown hap
      go_wp2
      go_ret
      subst hke
      exact ⟨_, rfl, HO.out⟩

theorem zzmark (base : Nat) (v : Value) (H : List ByteArray) (mk : Int) (a : Option Addr) (len cap : Nat) (L : Nat → ByteArray) (w : World)
    (hown : w.ownsRow base 9 1 v H.length (strs H)) (hbase : base ≤ w.heap.size) (hlen : len ≤ 1048576) (hH : H.length ≤ 10000000) (hmk : 0 ≤ mk ∧ mk ≤ 255)
    (hr : Rd w a len L) (hap : ∀ b o, a = some ⟨b, o, none⟩ → some b ≠ v.ownBlock) (hs : ∀ i, i < len → (L i).size ≤ 1048576) :
    Calls Try.prog 14 #[v, .int .u8 mk, .slice a len cap] w fun e w' => ∃ v', e = .returned v' ∧ Own w v w' base v' (H ++ entries mk L len) := by
  have HM := hide (mark_any base v H mk a len cap L w hown hbase hlen hH hmk hr hap hs)
  clear hown hr hs hap
  go_enter Try.func14, Try.ntmps14
  go_wp2_with fail
  refine HM.out.mono ?_
  rintro e w' ⟨v', rfl, hO⟩
  have HO := hide hO
  clear hO
  go_wp2
  go_ret
  exact ⟨v', rfl, HO.out⟩

/-- what is owned can be read -/
theorem own_read {w : World} {base : Nat} {v : Value} {l : List ByteArray} (h : w.ownsRow base 9 1 v l.length (strs l)) :
    ∃ a cap, v = .slice a l.length cap ∧ (0 < l.length → ∃ g, a = some ⟨g, 0, none⟩ ∧ base ≤ g ∧ ∀ i, i < l.length → w.cell? ⟨g, i, none⟩ = some (.string (l.getD i nonl))) := by
  have h' := h
  rcases h.2 with ⟨e, e2⟩ | ⟨g, cap, cur, e, hb, hh, r1, r2, r3, r4⟩
  · exact ⟨none, 0, by rw [e, e2], fun h0 => absurd h0 (by omega)⟩
  · subst e
    refine ⟨_, _, rfl, fun _ => ⟨g, rfl, hb, fun i hi => ?_⟩⟩
    rw [h'.cellAt i (by omega)]
    simp [strs, hi]

end Go.Proofs.Qxb6605269a.Mark
