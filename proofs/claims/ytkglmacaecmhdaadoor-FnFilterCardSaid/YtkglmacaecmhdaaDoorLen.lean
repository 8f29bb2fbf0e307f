/- The reference's variable byte integer (spec.Length), the plain buffer's writes, the package's encodeLength. -/
import Derived.Test.YtkglmacaecmhdaaDoorByt
import Derived.Deep.RegionWith
import Derived.Deep.LoopGhost
namespace Go.Proofs.YtkglmacaecmhdaaDoor
open Go.RowKit
set_option linter.unusedVariables false

/-- The bytes of a variable byte integer, k of them at most behind the first. -/
def lenGo : Nat → Nat → List UInt8
  | 0, n => [UInt8.ofNat n]
  | k + 1, n => if n < 128 then [UInt8.ofNat n] else UInt8.ofNat (n % 128 + 128) :: lenGo k (n / 128)
def lenB (n : Nat) : List UInt8 := lenGo 9 n

/-- What a function leaves that makes a slice of bytes of its own. -/
def MadeB (w : World) (l : List UInt8) (e : Ending) (w' : World) : Prop :=
  ∃ v, e = .returned v ∧ OwnB w' 0 v l ∧ Fresh w v ∧ Fr [] w w'

theorem ofNat_toNat (y : Nat) (hy : y < 256) : (UInt8.ofNat y).toNat = y := by rw [UInt8.toNat_ofNat']; omega
theorem u8c_ofNat (y : Nat) (hy : y < 256) : u8c (UInt8.ofNat y) = .int .u8 (y : Int) := by unfold u8c; rw [ofNat_toNat y hy]
/-- A slice of one byte, just made. -/
theorem one_bs (w : World) (y : Nat) (hy : y < 256) : BS (w.alloc (.cells #[.int .u8 (y : Int)] 5)) (.slice (some ⟨w.heap.size, 0, none⟩) 1 1) [UInt8.ofNat y] :=
  (OwnB.made (base := 0) (l := [UInt8.ofNat y]) (heap_alloc_new _ _) (Nat.zero_le _) (by simp [u8c_ofNat y hy]) (by simp [maxLen])).bs
theorem one_src (w : World) (y : Nat) (hy : y < 256) : Src Tryd.prog (w.alloc (.cells #[.int .u8 (y : Int)] 5)) 22 1 (.slice (some ⟨w.heap.size, 0, none⟩) 1 1) 1 ([UInt8.ofNat y].map u8c) :=
  Src.bytes Tryd.underlying22 (one_bs w y hy)
theorem fresh_step {w : World} {H : Nat} {v v' : Value} (h : Fresh w v) (hs : w.heap.size ≤ H) (hk : ∀ k, v'.ownBlock = some k → v.ownBlock = some k ∨ H ≤ k) : Fresh w v' := fun k hk' => by
  rcases hk k hk' with h1 | h1
  · exact h k h1
  · omega
theorem Fr.fresh {S : List Nat} {a w w' : World} {v : Value} (h : Fr S a w) (hg : w.grownBy w' v.ownBlock) (hv : Fresh a v) : Fr S a w' := h.grown hg fun k hk => .inr (hv k hk)
/-- What is owned stays owned behind a new block. -/
theorem OwnB.alloc {w : World} {base : Nat} {v : Value} {l : List UInt8} (h : OwnB w base v l) (o : Obj) : OwnB (w.alloc o) base v l := h.keep fun k hk => Below.heap_alloc _ _ _ (h.lt k hk).2

def LenBRel (w : World) (n0 : Nat) (m : Nat) (v : Value) (w' : World) : Prop :=
  ∃ l k, l.length + k = 9 ∧ OwnB w' 0 v l ∧ Fresh w v ∧ Fr [] w w' ∧ l ++ lenGo k m = lenB n0 ∧ m < 128 ^ (k + 1)

theorem and127 (m : Nat) (hm : m < 9223372036854775808) : bits .and .i64 (m : Int) 127 % 256 = ((m % 128 : Nat) : Int) := by
  have := i64_and_nat m 127 hm (by omega)
  rw [nat_mask7] at this
  rw [show (127 : Int) = ((127 : Nat) : Int) from rfl, this]
  omega
theorem or128 (y : Nat) (hy : y < 128) : bits .or .u8 (y : Int) 128 = ((y + 128 : Nat) : Int) := by
  rw [u8_or128_right _ (by omega) (by omega)]; rfl

set_option maxRecDepth 20000 in
set_option maxHeartbeats 400000 in
theorem length_made (n : Nat) (hn2 : n < 9223372036854775808) (w : World) : Calls Tryd.prog 17 #[.int .i64 n] w (MadeB w (lenB n)) := by
  have hn : n < 128 ^ (9 + 1) := by have : (128 : Nat) ^ 10 = 1180591620717411303424 := rfl; omega
  go_enter Tryd.func17, Tryd.ntmps17
  go_wp2_with fail
  go_loopw [0, 3, 4] (fun nn out _ wr => ∃ m v, nn = .int .i64 (m : Nat) ∧ out = v ∧ m < 9223372036854775808 ∧ LenBRel w n m v wr) (fun nn _ _ _ => (intOf nn).toNat)
  case atStart => exact ⟨n, _, rfl, rfl, hn2, [], 9, rfl, OwnB.nil _ _, fun k hk => by simp [Value.ownBlock] at hk, Fr.refl _ _, rfl, hn⟩
  case round =>
    obtain ⟨m, v, rfl, rfl, hm, hR⟩ := hrel
    have HR := Lib.hid hR
    clear hR hn hn2
    obtain ⟨y, hy⟩ : ∃ y, y = m % 128 := ⟨_, rfl⟩
    have ea : bits .and .i64 (m : Int) 127 % 256 = (y : Int) := by rw [hy]; exact and127 m hm
    have hy1 : y < 128 := by omega
    have HY := Lib.hid hy
    clear hy
    obtain ⟨l, k, hlk, hown, hfre, hfr, hl, hmk⟩ := HR.out
    have HL := Lib.hid hl
    have HM := Lib.hid hmk
    have HO := Lib.hid hown
    clear hl hmk hown
    by_cases hm1 : m < 128
    · have ht : ((m : Int) / 128 == 0) = true := by simp; omega
      go_wp2_with (at_builtin; refine app_b rfl (.tmp 12) (.tmp 14) 22 rfl 0 _ l rfl (HO.out.alloc _) _ [UInt8.ofNat y] rfl (one_src wr y (by omega)) (by simp; omega) (Nat.zero_le _) ?_)
      intro v' w1 hown' hg hk
      go_wp2_with fail
      go_ret
      refine ⟨v', rfl, ?_, fresh_step hfre (Nat.le_succ_of_le hfr.size) hk, (hfr.alloc _).fresh hg hfre⟩
      have e : lenGo k m = [UInt8.ofNat m] := by
        cases k with
        | zero => rfl
        | succ k => rw [lenGo, if_pos hm1]
      have hym : y = m := by have := HY.out; omega
      rw [← HL.out, e, ← hym]
      exact hown'
    · have ht : ((m : Int) / 128 == 0) = false := by simp; omega
      have eo := or128 y hy1
      obtain ⟨z, hz⟩ : ∃ z, y + 128 = z := ⟨_, rfl⟩
      rw [hz] at eo
      have hz1 : z < 256 := by omega
      have HZ := Lib.hid hz
      clear hz
      go_wp2_with (at_builtin; refine app_b rfl (.tmp 16) (.tmp 19) 22 rfl 0 _ l rfl (HO.out.alloc _) _ [UInt8.ofNat z] rfl (one_src wr z (by omega)) (by simp; omega) (Nat.zero_le _) ?_)
      intro v' w1 hown' hg hk
      go_wp2_with fail
      go_roundw
      case rel =>
        cases k with
        | zero => have := HM.out; simp at this; omega
        | succ k =>
          refine ⟨m / 128, v', by go_num, rfl, by omega, l ++ [UInt8.ofNat z], k, by simp; omega, hown', fresh_step hfre (Nat.le_succ_of_le hfr.size) hk, (hfr.alloc _).fresh hg hfre, ?_, ?_⟩
          · rw [← HL.out, lenGo, if_neg hm1, ← HZ.out, HY.out]
            simp
          · have := HM.out
            rw [Nat.pow_succ] at this
            omega
      case measure => simp [intOf]; omega
end Go.Proofs.YtkglmacaecmhdaaDoor
