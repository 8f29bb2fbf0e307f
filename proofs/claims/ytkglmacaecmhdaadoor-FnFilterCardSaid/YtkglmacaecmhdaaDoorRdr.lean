/- The reader of the reference (spec.reader): take, number, length, walked once for every reader. -/
import Derived.Test.YtkglmacaecmhdaaDoorProg
import Derived.Test.YtkglmacaecmhdaaDoorNum
import Derived.Deep.LoopGhost
namespace Go.Proofs.YtkglmacaecmhdaaDoor
open Go.RowKit
set_option linter.unusedVariables false

/-- A reader lies in block b: it has the bytes l (which lie in block kb), and is bad or not. -/
def RD (w : World) (b kb : Nat) (l : List UInt8) (bad : Bool) : Prop :=
  ∃ v, w.heap[b]? = some (.cells #[v, .bool bad] 76 (0, 0)) ∧ BS w v l ∧ (l ≠ [] → ∀ k, v.ownBlock = some k → k = kb) ∧ kb ≠ b

/-- What 'take' hands back. -/
def TakePost (w : World) (b kb : Nat) (l : List UInt8) (bad : Bool) (n : Nat) (e : Ending) (w' : World) : Prop :=
  ∃ v, e = .returned v ∧ BS w' v (l.take n) ∧ (l ≠ [] → ∀ k, v.ownBlock = some k → k = kb) ∧ RD w' b kb (l.drop n) (bad || decide (l.length < n)) ∧ Fr [b] w w'

theorem own_same {a a' : Option Addr} {n c n' c' kb : Nat} (h : ∀ k, (Value.slice a n c).ownBlock = some k → k = kb) (e : (Value.slice a' n' c').ownBlock = (Value.slice a n c).ownBlock) : ∀ k, (Value.slice a' n' c').ownBlock = some k → k = kb := by rw [e]; exact h

set_option maxHeartbeats 400000 in
theorem take_raw (b : Nat) (a A : Option Addr) (len c n : Nat) (bad : Bool) (w : World) (hn : n ≤ len) (hlc : len ≤ c) (hm : c ≤ 9223372036854775807)
    (h0 : w.cell? ⟨b, 0, none⟩ = some (.slice a len c)) (f0 : w.frozen? ⟨b, 0, none⟩ = false) (hA : (if c = n then a else Option.map (fun x => x.add n) a) = A) :
    Calls Tryd.prog 88 #[.pointer (some ⟨b, 0, none⟩), .int .i64 n] w fun e w' => e = .returned (.slice a n c) ∧ w.setCell ⟨b, 0, none⟩ (.slice A (len - n) (c - n)) = w' := by
  go_enter Tryd.func88, Tryd.ntmps88
  go_wp2
  go_ret
  exact ⟨rfl, rfl⟩

set_option maxHeartbeats 400000 in
theorem take_raw_bad (b : Nat) (a A : Option Addr) (len c n : Nat) (bad : Bool) (w : World) (hn : len < n) (hlc : len ≤ c) (hm : c ≤ 9223372036854775807)
    (h0 : w.cell? ⟨b, 0, none⟩ = some (.slice a len c)) (f0 : w.frozen? ⟨b, 0, none⟩ = false) (h1 : w.cell? ⟨b, 1, none⟩ = some (.bool bad)) (f1 : w.frozen? ⟨b, 1, none⟩ = false) (hA : (if c = len then a else Option.map (fun x => x.add len) a) = A) :
    Calls Tryd.prog 88 #[.pointer (some ⟨b, 0, none⟩), .int .i64 n] w fun e w' => e = .returned (.slice a len c) ∧ (w.setCell ⟨b, 1, none⟩ (.bool true)).setCell ⟨b, 0, none⟩ (.slice A 0 (c - len)) = w' := by
  go_enter Tryd.func88, Tryd.ntmps88
  go_wp2
  go_ret
  exact ⟨rfl, by simp⟩

theorem take_any (b kb : Nat) (l : List UInt8) (bad : Bool) (n : Nat) (w : World) (h : RD w b kb l bad) :
    Calls Tryd.prog 88 #[.pointer (some ⟨b, 0, none⟩), .int .i64 n] w (TakePost w b kb l bad n) := by
  obtain ⟨v, hb, hs, ho, hne⟩ := h
  obtain ⟨a, c, rfl, h1, h2⟩ := hs.len
  have hm : c ≤ 9223372036854775807 := h2
  have c0 := cell_of_block hb 0
  have c1 := cell_of_block hb 1
  have f0 := free_of_block hb 0
  have f1 := free_of_block hb 1
  rcases Nat.lt_or_ge l.length n with hn | hn
  · refine (take_raw_bad b a _ l.length c n bad w hn h1 hm c0 f0 c1 f1 rfl).mono fun e w' ⟨he, hw⟩ => ?_
    have hf : Fr [b] w w' := by rw [← hw]; exact (((Fr.refl _ _).setCell (.inl (by simp)) _).setCell (.inl (by simp)) _)
    have hk := hs.fr1 hf (fun hl k hk => by have := ho hl k hk; simp; omega)
    refine ⟨_, he, ?_, ho, ⟨.slice (aft a c l.length) 0 (c - l.length), ?_, ?_, ?_, hne⟩, hf⟩
    · rw [List.take_of_length_le (by omega)]; exact hk
    · rw [← hw, aft_def]
      exact (block_setCell (block_setCell hb 1 _) 0 _).trans (by simp [hn])
    · rw [List.drop_of_length_le (by omega)]
      have := hk.drop l.length (Nat.le_refl _)
      simpa using this
    · intro hl; exact absurd (List.drop_of_length_le (by omega)) hl
  · refine (take_raw b a _ l.length c n bad w hn h1 hm c0 f0 rfl).mono fun e w' ⟨he, hw⟩ => ?_
    have hf : Fr [b] w w' := by rw [← hw]; exact ((Fr.refl _ _).setCell (.inl (by simp)) _)
    have hk := hs.fr1 hf (fun hl k hk => by have := ho hl k hk; simp; omega)
    refine ⟨_, he, hk.take n hn, (fun hl => own_same (ho hl) (by cases a <;> rfl)), ⟨.slice (aft a c n) (l.length - n) (c - n), ?_, hk.drop n hn, ?_, hne⟩, hf⟩
    · rw [← hw, aft_def]
      have e : decide (l.length < n) = false := by simp; omega
      rw [e, Bool.or_false]
      exact (block_setCell hb 0 _).trans (by simp)
    · exact fun hl => own_same (ho (fun h => hl (by rw [h, List.drop_nil]))) (aft_own a c n _ _ l.length c)

def NumPost (w : World) (b kb : Nat) (l : List UInt8) (bad : Bool) (n : Nat) (e : Ending) (w' : World) : Prop :=
  e = .returned (.int .i64 (numOf (l.take n) : Nat)) ∧ RD w' b kb (l.drop n) (bad || decide (l.length < n)) ∧ Fr [b] w w'

set_option maxHeartbeats 400000 in
theorem number_any (b kb : Nat) (l : List UInt8) (bad : Bool) (n : Nat) (hn4 : n ≤ 4) (w : World) (h : RD w b kb l bad) :
    Calls Tryd.prog 85 #[.pointer (some ⟨b, 0, none⟩), .int .i64 n] w (NumPost w b kb l bad n) := by
  go_enter Tryd.func85, Tryd.ntmps85
  go_wp2_with fail
  refine (take_any b kb l bad n w h).mono ?_
  rintro e w1 ⟨v, rfl, hv, ho, hr, hf⟩
  generalize hl : l.take n = s at *
  rcases hv.cases with ⟨rfl, a, c, rfl, hc⟩ | ⟨vb, o, c, rfl, hp, h1, h2, hlt, hcell⟩
  · go_wp2_with fail
    refine wp_loop_rounds 1 ?_
    rw [rounds_succ]
    go_wp2
    go_ret
    exact ⟨ret_int (by rw [hl]; rfl), hr, hf⟩
  · go_wp2_with fail
    have hs4 : s.length ≤ 4 := by rw [← hl, List.length_take]; omega
    have Hl := Lib.hid hl
    have HC := Lib.hid hcell
    clear hl hcell
    go_loop [5, 7, 12] (fun n x i => ∃ k : Nat, k ≤ s.length ∧ i = .int .i64 k ∧ n = .int .i64 (numOf (s.take k) : Nat)) (fun _ _ i => s.length - (intOf i).toNat)
    case atStart => exact ⟨0, by omega, rfl, rfl⟩
    case round =>
      obtain ⟨k, hk, rfl, rfl⟩ := hrel
      by_cases hlt : k < s.length
      · obtain ⟨x, hx⟩ : ∃ x, s[k]? = some x := ⟨_, List.getElem?_eq_getElem hlt⟩
        have hc : w1.cell? ⟨vb, o + k, none⟩ = some (.int .u8 (x.toNat : Int)) := HC.out k x hx
        have hx2 := Lib.hid hx
        clear hx
        have hb : x.toNat < 256 := x.toNat_lt
        go_wp2
        go_round
        case rel => exact ⟨k + 1, by omega, by go_num, by rw [shl8_or _ _ (numOf_lt4 _ (by rw [List.length_take]; omega)) hb, take_snoc' s k x hx2.out, numOf_snoc]⟩
        case measure => simp [intOf]; omega
      · go_wp2
        go_ret
        exact ⟨ret_int (by rw [Hl.out, List.take_of_length_le (by omega)]), hr, hf⟩

/-- The reader's variable byte integer: k rounds are left, the next one is the i-th. -/
def rdLen : Nat → Nat → Nat → List UInt8 → Bool → Nat × List UInt8 × Bool
  | 0, _, _, l, _ => (0, l, true)
  | k + 1, i, n, l, bad =>
    if numOf (l.take 1) < 128 then (n + numOf (l.take 1) % 128 * 128 ^ i, l.drop 1, bad || decide (l.length < 1))
    else rdLen k (i + 1) (n + numOf (l.take 1) % 128 * 128 ^ i) (l.drop 1) (bad || decide (l.length < 1))

def LenPost (w : World) (b kb : Nat) (l : List UInt8) (bad : Bool) (e : Ending) (w' : World) : Prop :=
  e = .returned (.int .i64 ((rdLen 4 0 0 l bad).1 : Nat)) ∧ RD w' b kb (rdLen 4 0 0 l bad).2.1 (rdLen 4 0 0 l bad).2.2 ∧ Fr [b] w w'

/-- The relation of the loop: the rest of the rounds comes to what all come to. -/
def LenRel (w : World) (b kb : Nat) (l : List UInt8) (bad : Bool) (k n : Nat) (w' : World) : Prop :=
  ∃ l' bad', RD w' b kb l' bad' ∧ Fr [b] w w' ∧ rdLen (4 - k) k n l' bad' = rdLen 4 0 0 l bad ∧ n < 128 ^ k

set_option maxRecDepth 20000 in
set_option maxHeartbeats 400000 in
theorem length_any (b kb : Nat) (l : List UInt8) (bad : Bool) (w : World) (h : RD w b kb l bad) :
    Calls Tryd.prog 49 #[.pointer (some ⟨b, 0, none⟩)] w (LenPost w b kb l bad) := by
  go_enter Tryd.func49, Tryd.ntmps49
  go_wp2_with fail
  go_loopw [3, 4, 5, 6] (fun n _ _ i wr => ∃ k m : Nat, k ≤ 4 ∧ i = .int .i64 k ∧ n = .int .i64 m ∧ LenRel w b kb l bad k m wr) (fun _ _ _ i _ => 4 - (intOf i).toNat)
  case atStart => exact ⟨0, 0, by omega, rfl, rfl, l, bad, h, Fr.refl _ _, rfl, by simp⟩
  case round =>
    obtain ⟨k, m, hk, rfl, rfl, hR⟩ := hrel
    by_cases hlt : k < 4
    · go_wp2_with fail
      obtain ⟨l', bad', hrd, hfr, heq, hm⟩ := hR
      refine (number_any b kb l' bad' 1 (by omega) _ hrd).mono ?_
      rintro e w1 ⟨rfl, hr1, hf1⟩
      have hxb : numOf (l'.take 1) < 256 := numOf_lt1 _
      have HE := Lib.hid heq
      clear heq
      generalize hx : numOf (l'.take 1) = x at *
      have HX := Lib.hid hx
      have HM := Lib.hid hm
      clear hx hm
      go_wp2_with fail
      · have hlt' : ((x : Nat) : Int) < 128 := by assumption
        go_ret
        have he : rdLen (4 - k) k m l' bad' = (m + x % 128 * 128 ^ k, l'.drop 1, bad' || decide (l'.length < 1)) := by
          rw [show 4 - k = (3 - k) + 1 by omega, rdLen, HX.out, if_pos (by omega)]
        have heq := HE.out
        rw [he] at heq
        refine ⟨?_, ?_, ?_⟩
        · rw [← heq]; exact ret_int (vbi_or m k x HM.out (by omega) hxb)
        · rw [← heq]; exact hr1
        · exact hfr.trans hf1 (fun y hy => .inl hy)
      · have hge : (128 : Int) ≤ ((x : Nat) : Int) := by assumption
        go_roundw
        case rel =>
          refine ⟨k + 1, m + x % 128 * 128 ^ k, by omega, by go_num, by rw [vbi_or m k x HM.out (by omega) hxb], l'.drop 1, _, hr1, hfr.trans hf1 (fun y hy => .inl hy), ?_, vbi_lt m k x HM.out⟩
          rw [← HE.out, show 4 - k = (4 - (k + 1)) + 1 by omega, rdLen, HX.out, if_neg (by omega)]
        case measure => simp [intOf]; omega
    · obtain ⟨l', bad', hrd, hfr, heq, hm⟩ := hR
      have HE := Lib.hid heq
      clear heq
      obtain ⟨v, hb, hs, ho, hne⟩ := hrd
      have c1 : wr.cell? ⟨b, 1, none⟩ = some (.bool bad') := cell_of_block hb 1
      have f1 := free_of_block hb 1
      go_wp2
      go_ret
      have h4 : k = 4 := by omega
      subst h4
      have heq := HE.out
      rw [show rdLen (4 - 4) 4 m l' bad' = (0, l', true) from rfl] at heq
      refine ⟨by rw [← heq]; rfl, ?_, ?_⟩
      · rw [← heq]
        exact ⟨v, by rw [block_setCell hb 1 _]; rfl, hs.fr1 (S := [b]) ((Fr.refl _ _).setCell (.inl (by simp)) _) (fun hl k hk => by have := ho hl k hk; simp; omega), ho, hne⟩
      · exact (hfr.setCell (.inl (by simp)) _)
end Go.Proofs.YtkglmacaecmhdaaDoor
