/- The plain buffer's writes (WriteByte, Write, Bytes, Len), encodeLength over it. -/
import Derived.Test.YtkglmacaecmhdaaDoorLen
namespace Go.Proofs.YtkglmacaecmhdaaDoor
open Go.RowKit
set_option linter.unusedVariables false

/-- A buffer lies in block b; its slice v is the program's own and holds the bytes l. -/
structure Bu (w : World) (b : Nat) (v : Value) (l : List UInt8) : Prop where
  at_ : w.heap[b]? = some (.cells #[v] 89 (0, 0))
  own : OwnB w 0 v l
  ne : v.ownBlock ≠ some b

/-- Where a slice may lie now: where it lay, or in a new block. -/
def Moved (w : World) (v v' : Value) : Prop := ∀ k, v'.ownBlock = some k → v.ownBlock = some k ∨ w.heap.size ≤ k
/-- What a write leaves. -/
def BuPost (w : World) (b : Nat) (v : Value) (l : List UInt8) (w' : World) : Prop :=
  ∃ v', Bu w' b v' l ∧ Moved w v v' ∧ Fr (b :: v.ownBlock.toList) w w'

theorem Fr.grow {S : List Nat} {a w w' : World} {v : Value} (h : Fr S a w) (hg : w.grownBy w' v.ownBlock) (hv : ∀ k, v.ownBlock = some k → k ∈ S ∨ a.heap.size ≤ k) : Fr S a w' := h.grown hg hv

/-- The block of a buffer behind an append to its slice. -/
theorem grown_block {w w' : World} {row : Option Nat} (hg : w.grownBy w' row) {b : Nat} {o : Obj} (hb : w.heap[b]? = some o) (hne : row ≠ some b) : w'.heap[b]? = some o :=
  (hg.block b (lt_of_block hb) (fun e => hne e.symm)).trans hb

set_option maxRecDepth 20000 in
set_option maxHeartbeats 400000 in
theorem writeByte_any (b c : Nat) (v : Value) (l : List UInt8) (hc : c < 256) (hl : l.length ≤ 1073741824) (w : World) (h : Bu w b v l) :
    Calls Tryd.prog 99 #[.pointer (some ⟨b, 0, none⟩), .int .u8 c] w fun e w' => e = .returned .nilIface ∧ BuPost w b v (l ++ [UInt8.ofNat c]) w' := by
  obtain ⟨hb, hown, hne⟩ := h
  have c0 : w.cell? ⟨b, 0, none⟩ = some v := cell_of_block hb 0
  have hlt := lt_of_block hb
  have HO := Lib.hid hown
  have HB := Lib.hid hb
  clear hown hb
  go_enter Tryd.func99, Tryd.ntmps99
  go_wp2_with (at_builtin; refine app_b rfl (.tmp 9) (.tmp 11) 22 rfl 0 v l rfl (HO.out.alloc _) _ [UInt8.ofNat c] rfl (one_src w c hc) (by simp; omega) (Nat.zero_le _) ?_)
  intro v' w1 hown' hg hk
  have hb1 := grown_block hg (alloc_past (.cells #[.int .u8 (c : Int)] 5) HB.out) hne
  have c1 : w1.cell? ⟨b, 0, none⟩ = some v := cell_of_block hb1 0
  have f1 := free_of_block hb1 0
  have HB1 := Lib.hid hb1
  have HG := Lib.hid hg
  have HK := Lib.hid hk
  have HO1 := Lib.hid hown'
  obtain ⟨a, cc, rfl, _, _⟩ := hown'.bs.len
  clear hb1 hg hk hown'
  go_wp2_with fail
  go_ret
  have hne' : (Value.slice a (l ++ [UInt8.ofNat c]).length cc).ownBlock ≠ some b := fun e => by
    rcases HK.out b e with h | h
    · exact hne h
    · have : w.heap.size ≤ b := Nat.le_trans (by simp) h
      omega
  refine ⟨rfl, _, ⟨?_, ?_, hne'⟩, ?_, ?_⟩
  · exact (block_setCell HB1.out 0 _).trans (by simp)
  · exact HO1.out.keep fun k hk => Below.heap_setCell _ _ _ _ (fun e => hne' (by rw [hk, e]))
  · intro k hk
    rcases HK.out k hk with h | h
    · exact .inl h
    · exact .inr (Nat.le_trans (by simp) h)
  · exact (((Fr.refl _ _).alloc _).grow HG.out (fun k hk => .inl (by simp [hk]))).setCell (.inl (by simp)) _

set_option maxRecDepth 20000 in
set_option maxHeartbeats 400000 in
theorem write_any (b : Nat) (v p : Value) (l l2 : List UInt8) (hl : l.length ≤ 1073741824) (hl2 : l2.length ≤ 1073741824) (w : World) (h : Bu w b v l) (hp : BS w p l2) :
    Calls Tryd.prog 155 #[.pointer (some ⟨b, 0, none⟩), p] w fun e w' => e = .returned (.tuple #[.int .i64 l2.length, .nilIface]) ∧ BuPost w b v (l ++ l2) w' := by
  obtain ⟨hb, hown, hne⟩ := h
  obtain ⟨pa, pc, rfl, _, _⟩ := hp.len
  have c0 : w.cell? ⟨b, 0, none⟩ = some v := cell_of_block hb 0
  have hlt := lt_of_block hb
  have HO := Lib.hid hown
  have HB := Lib.hid hb
  have HP := Lib.hid hp
  clear hown hb hp
  go_enter Tryd.func155, Tryd.ntmps155
  go_wp2_with (at_builtin; refine app_b rfl (.tmp 10) (.tmp 11) 22 rfl 0 v l rfl HO.out _ l2 rfl (Src.bytes Tryd.underlying22 HP.out) (by omega) (Nat.zero_le _) ?_)
  intro v' w1 hown' hg hk
  have hb1 := grown_block hg HB.out hne
  have c1 : w1.cell? ⟨b, 0, none⟩ = some v := cell_of_block hb1 0
  have f1 := free_of_block hb1 0
  have HB1 := Lib.hid hb1
  have HG := Lib.hid hg
  have HK := Lib.hid hk
  have HO1 := Lib.hid hown'
  obtain ⟨a, cc, rfl, _, _⟩ := hown'.bs.len
  clear hb1 hg hk hown'
  go_wp2_with fail
  go_ret2
  have hne' : (Value.slice a (l ++ l2).length cc).ownBlock ≠ some b := fun e => by
    rcases HK.out b e with h | h
    · exact hne h
    · omega
  refine ⟨rfl, _, ⟨?_, ?_, hne'⟩, HK.out, ?_⟩
  · exact (block_setCell HB1.out 0 _).trans (by simp)
  · exact HO1.out.keep fun k hk => Below.heap_setCell _ _ _ _ (fun e => hne' (by rw [hk, e]))
  · exact ((Fr.refl _ _).grow HG.out (fun k hk => .inl (by simp [hk]))).setCell (.inl (by simp)) _

set_option maxRecDepth 20000 in
set_option maxHeartbeats 400000 in
theorem bytes_any (b : Nat) (v : Value) (w : World) (h : w.heap[b]? = some (.cells #[v] 89 (0, 0))) : Calls Tryd.prog 58 #[.pointer (some ⟨b, 0, none⟩)] w fun e w' => e = .returned v ∧ w = w' := by
  have c0 : w.cell? ⟨b, 0, none⟩ = some v := cell_of_block h 0
  clear h
  go_enter Tryd.func58, Tryd.ntmps58
  go_wp2_with fail
  go_ret
  exact ⟨rfl, rfl⟩

set_option maxRecDepth 20000 in
set_option maxHeartbeats 400000 in
theorem lenBuf_any (b : Nat) (v : Value) (l : List UInt8) (w : World) (h : Bu w b v l) : Calls Tryd.prog 161 #[.pointer (some ⟨b, 0, none⟩)] w fun e w' => e = .returned (.int .i64 l.length) ∧ w = w' := by
  obtain ⟨a, c, rfl, _, _⟩ := h.own.bs.len
  have c0 : w.cell? ⟨b, 0, none⟩ = some (.slice a l.length c) := cell_of_block h.at_ 0
  clear h
  go_enter Tryd.func161, Tryd.ntmps161
  go_wp2_with fail
  go_ret
  exact ⟨rfl, rfl⟩

theorem Moved.refl (w : World) (v : Value) : Moved w v v := fun k hk => .inl hk
theorem Moved.trans {w w1 : World} {v v1 v2 : Value} (h : Moved w v v1) (h1 : Moved w1 v1 v2) (hs : w.heap.size ≤ w1.heap.size) : Moved w v v2 := fun k hk => by
  rcases h1 k hk with h2 | h2
  · exact h k h2
  · exact .inr (Nat.le_trans hs h2)
/-- One write behind another. -/
theorem BuPost.trans {w w1 w2 : World} {b : Nat} {v v1 : Value} {l : List UInt8} (hf : Fr (b :: v.ownBlock.toList) w w1) (hm : Moved w v v1) (h : BuPost w1 b v1 l w2) : BuPost w b v l w2 := by
  obtain ⟨v2, h1, h2, h3⟩ := h
  refine ⟨v2, h1, hm.trans h2 hf.size, hf.trans h3 fun x hx => ?_⟩
  rcases List.mem_cons.1 hx with rfl | hx
  · exact .inl (by simp)
  · rw [Option.mem_toList] at hx
    rcases hm x hx with h | h
    · exact .inl (by simp [h])
    · exact .inr h

def EncRel (w : World) (b : Nat) (v0 : Value) (l0 : List UInt8) (n0 m : Nat) (w' : World) : Prop :=
  ∃ v l k, l.length + k = 9 ∧ Bu w' b v (l0 ++ l) ∧ Moved w v0 v ∧ Fr (b :: v0.ownBlock.toList) w w' ∧ l ++ lenGo k m = lenB n0 ∧ m < 128 ^ (k + 1)

set_option maxRecDepth 20000 in
set_option maxHeartbeats 400000 in
theorem encodeLength_any (b n : Nat) (hn2 : n < 9223372036854775808) (v : Value) (l : List UInt8) (hl : l.length ≤ 536870912) (w : World) (h : Bu w b v l) :
    Calls Tryd.prog 98 #[.pointer (some ⟨b, 0, none⟩), .int .i64 n] w fun e w' => e = .returned (.tuple #[]) ∧ BuPost w b v (l ++ lenB n) w' := by
  have hn : n < 128 ^ (9 + 1) := by have : (128 : Nat) ^ 10 = 1180591620717411303424 := rfl; omega
  go_enter Tryd.func98, Tryd.ntmps98
  go_wp2_with fail
  go_loopw [1, 4] (fun nn _ wr => ∃ m, nn = .int .i64 (m : Nat) ∧ m < 9223372036854775808 ∧ EncRel w b v l n m wr) (fun nn _ _ => (intOf nn).toNat)
  case atStart => exact ⟨n, rfl, hn2, v, [], 9, rfl, by simpa using h, Moved.refl _ _, Fr.refl _ _, rfl, hn⟩
  case round =>
    obtain ⟨m, rfl, hm, hR⟩ := hrel
    have HR := Lib.hid hR
    have HH := Lib.hid h
    clear hR hn hn2 h
    obtain ⟨v1, l1, k, hlk, hbu, hmo, hfr, hl1, hmk⟩ := HR.out
    have HL := Lib.hid hl1
    have HM := Lib.hid hmk
    have HB := Lib.hid hbu
    clear hl1 hmk hbu
    obtain ⟨y, hy⟩ : ∃ y, m % 128 = y := ⟨_, rfl⟩
    have em : (m : Int) % 128 = (y : Int) := by omega
    have hy1 : y < 128 := by omega
    have HY := Lib.hid hy
    clear hy
    by_cases hm1 : m < 128
    · have ht : ((m : Int) / 128 == 0) = true := by simp; omega
      go_wp2_with fail
      refine (writeByte_any b y v1 _ (by omega) (by simp; omega) _ HB.out).mono ?_
      rintro e w1 ⟨rfl, hbp⟩
      go_wp2_with fail
      go_end0
      refine ⟨rfl, BuPost.trans hfr hmo ?_⟩
      have e : lenGo k m = [UInt8.ofNat m] := by
        cases k with
        | zero => rfl
        | succ k => rw [lenGo, if_pos hm1]
      have hym : y = m := by have := HY.out; omega
      rw [← HL.out, e, ← hym, ← List.append_assoc]
      exact hbp
    · have ht : ((m : Int) / 128 == 0) = false := by simp; omega
      have eo := or128 y hy1
      obtain ⟨z, hz⟩ : ∃ z, y + 128 = z := ⟨_, rfl⟩
      rw [hz] at eo
      have hz1 : z < 256 := by omega
      have HZ := Lib.hid hz
      clear hz
      go_wp2_with fail
      refine (writeByte_any b z v1 _ (by omega) (by simp; omega) _ HB.out).mono ?_
      rintro e w1 ⟨rfl, v2, hb2, hm2, hf2⟩
      go_wp2_with fail
      go_roundw
      case rel =>
        cases k with
        | zero => have := HM.out; simp at this; omega
        | succ k =>
          obtain ⟨v3, h1, h2, h3⟩ := BuPost.trans hfr hmo ⟨v2, hb2, hm2, hf2⟩
          refine ⟨m / 128, by go_num, by omega, v3, l1 ++ [UInt8.ofNat z], k, by simp; omega, by rw [← List.append_assoc]; exact h1, h2, h3, ?_, ?_⟩
          · rw [← HL.out, lenGo, if_neg hm1, ← HZ.out, ← HY.out]
            simp
          · have := HM.out
            rw [Nat.pow_succ] at this
            omega
      case measure => simp [intOf]; omega

theorem new_bu (w : World) : Bu (w.alloc (.cells #[.slice none 0 0] 89)) w.heap.size (.slice none 0 0) [] :=
  ⟨heap_alloc_new _ _, OwnB.nil _ _, by simp [Value.ownBlock]⟩

set_option maxRecDepth 20000 in
set_option maxHeartbeats 400000 in
theorem zzEncodeLength_any (n : Nat) (hn : n < 9223372036854775808) (w : World) : Calls Tryd.prog 54 #[.int .i64 n] w (MadeB w (lenB n)) := by
  go_enter Tryd.func54, Tryd.ntmps54
  go_wp2_with fail
  refine (encodeLength_any _ n hn _ [] (by simp) _ (new_bu w)).mono ?_
  rintro e w1 ⟨rfl, v, hb, hm, hf⟩
  go_wp2_with fail
  refine (bytes_any _ v _ hb.at_).mono ?_
  rintro e w2 ⟨rfl, rfl⟩
  go_wp2_with fail
  go_ret
  refine ⟨v, rfl, hb.own, fun k hk => ?_, ((Fr.refl _ _).alloc _).trans hf (fun x hx => .inr (by simp [Value.ownBlock] at hx; omega))⟩
  rcases hm k hk with h | h
  · simp [Value.ownBlock] at h
  · exact Nat.le_trans (by simp) h

theorem lenGo_length : ∀ k n, (lenGo k n).length ≤ k + 1
  | 0, n => by simp [lenGo]
  | k + 1, n => by
    rw [lenGo]
    split
    · simp
    · simp; exact lenGo_length k _

set_option maxRecDepth 20000 in
set_option maxHeartbeats 400000 in
theorem formatLength_any (n : Nat) (hn : n < 9223372036854775808) (w : World) : Calls Tryd.prog 18 #[.int .i64 n] w (ClonePost w (lenB n)) := by
  go_enter Tryd.func18, Tryd.ntmps18
  go_wp2_with fail
  refine (zzEncodeLength_any n hn _).mono ?_
  rintro e w1 ⟨v, rfl, ho, hfre, hf⟩
  go_wp2_with fail
  refine (clone_any v _ _ ho.bs (by have := lenGo_length 9 n; unfold lenB; omega)).mono ?_
  rintro e w2 ⟨v2, rfl, hb2, hfr2, hf2⟩
  go_wp2_with fail
  go_ret
  exact ⟨v2, rfl, hb2, fun k hk => Nat.le_trans hf.size (hfr2 k hk), hf.trans hf2 (by simp)⟩
end Go.Proofs.YtkglmacaecmhdaaDoor
