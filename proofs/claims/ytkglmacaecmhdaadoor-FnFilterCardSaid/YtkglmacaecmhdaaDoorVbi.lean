/- The package's variable byte integers: the plain buffer, DecodeLength. -/
import Derived.Test.YtkglmacaecmhdaaDoorByt
import Derived.Deep.RegionWith
import Derived.Deep.LoopGhost
namespace Go.Proofs.YtkglmacaecmhdaaDoor
open Go.RowKit
set_option linter.unusedVariables false

/-- A buffer lies in block b and holds the bytes l. -/
def BF (w : World) (b : Nat) (l : List UInt8) : Prop :=
  ∃ v, w.heap[b]? = some (.cells #[v] 89 (0, 0)) ∧ BS w v l ∧ (l ≠ [] → v.ownBlock ≠ some b)

def eofV : Value := .iface 239 (.string ⟨#[69, 79, 70]⟩)

set_option maxRecDepth 20000 in
set_option maxHeartbeats 400000 in
theorem readByte_nil (b : Nat) (w : World) (h : BF w b []) :
    Calls Tryd.prog 195 #[.pointer (some ⟨b, 0, none⟩)] w fun e w' => e = .returned (.tuple #[.int .u8 0, eofV]) ∧ w = w' := by
  obtain ⟨v, hb, hs, ho⟩ := h
  rcases hs.cases with ⟨_, a, c, rfl, hc⟩ | ⟨_, _, _, _, hp, _⟩
  · have c0 : w.cell? ⟨b, 0, none⟩ = some (.slice a 0 c) := cell_of_block hb 0
    go_enter Tryd.func195, Tryd.ntmps195
    go_wp2
    go_ret2
    exact ⟨rfl, rfl⟩
  · simp at hp

set_option maxRecDepth 20000 in
set_option maxHeartbeats 400000 in
theorem readByte_cons (b : Nat) (x : UInt8) (l : List UInt8) (w : World) (h : BF w b (x :: l)) :
    Calls Tryd.prog 195 #[.pointer (some ⟨b, 0, none⟩)] w fun e w' => e = .returned (.tuple #[.int .u8 (x.toNat : Int), .nilIface]) ∧ BF w' b l ∧ Fr [b] w w' := by
  obtain ⟨v, hb, hs, ho⟩ := h
  have HS := Lib.hid hs
  rcases hs.cases with ⟨h0, _⟩ | ⟨vb, o, c, rfl, _, h1, h2, hlt, hcell⟩
  · cases h0
  · have c0 : w.cell? ⟨b, 0, none⟩ = some (.slice (some ⟨vb, o, none⟩) (x :: l).length c) := cell_of_block hb 0
    have f0 := free_of_block hb 0
    have cx : w.cell? ⟨vb, o, none⟩ = some (.int .u8 (x.toNat : Int)) := hcell 0 x rfl
    obtain ⟨A, hA⟩ : ∃ A, (if c = 1 then some (⟨vb, o, none⟩ : Addr) else some ⟨vb, o + 1, none⟩) = A := ⟨_, rfl⟩
    have hA2 := Lib.hid hA
    have hm : c ≤ 9223372036854775807 := h2
    clear hcell hs
    simp only [List.length_cons] at c0 h1
    go_enter Tryd.func195, Tryd.ntmps195
    go_wp2
    go_ret2
    have hd := HS.out.drop 1 (by simp)
    rw [aft_some, hA2.out] at hd
    have hf : Fr [b] w (w.setCell ⟨b, 0, none⟩ (.slice A l.length (c - 1))) := (Fr.refl _ _).setCell (.inl (by simp)) _
    have hown : (Value.slice A l.length (c - 1)).ownBlock ≠ some b := by
      rw [← hA2.out, ← aft_some, aft_own _ c 1 _ _ (x :: l).length c]; exact ho (by simp)
    exact ⟨rfl, ⟨_, (block_setCell hb 0 _).trans (by simp), hd.fr1 hf (fun _ k hk => by simp; intro e; subst e; exact hown hk), fun _ => hown⟩, hf⟩

/-- A variable byte integer read off bytes: k rounds are left, the next one is the i-th; the value, and how many bytes it has. -/
def vbiP : Nat → Nat → Nat → List UInt8 → Option (Nat × Nat)
  | 0, _, _, _ => none
  | _ + 1, _, _, [] => none
  | k + 1, i, n, x :: l => if x.toNat < 128 then some (n + x.toNat % 128 * 128 ^ i, i + 1) else vbiP k (i + 1) (n + x.toNat % 128 * 128 ^ i) l
/-- The next k bytes all say that there are more. -/
def endl : Nat → List UInt8 → Bool
  | 0, _ => true
  | _ + 1, [] => false
  | k + 1, x :: l => if x.toNat < 128 then false else endl k l

def DecPost (w : World) (b : Nat) (l : List UInt8) (e : Ending) (w' : World) : Prop :=
  (∃ n s, vbiP 4 0 0 l = some (n, s) ∧ e = .returned (.tuple #[.int .i64 (n : Int), .int .i64 (s : Int), .nilIface]) ∧ BF w' b (l.drop s) ∧ Fr [b] w w') ∨
  (∃ s : Nat, vbiP 4 0 0 l = none ∧ e = .returned (.tuple #[.int .i64 0, .int .i64 (s : Int), eofV]) ∧ Fr [b] w w')

def DecRel (w : World) (b : Nat) (l : List UInt8) (k m : Nat) (w' : World) : Prop :=
  ∃ l', BF w' b l' ∧ Fr [b] w w' ∧ vbiP (4 - k) k m l' = vbiP 4 0 0 l ∧ l' = l.drop k ∧ endl (4 - k) l' = endl 4 l ∧ m < 128 ^ k

theorem method_read (a : Addr) (w : World) : (method 341 87 (.pointer (some a)) "ReadByte").run Tryd.prog w = .ok (195, .pointer (some a)) w := by kernel_rfl

set_option maxRecDepth 20000 in
set_option maxHeartbeats 400000 in
theorem decodeLength_any (b : Nat) (l : List UInt8) (w : World) (h : BF w b l) (hl : endl 4 l = false) :
    Calls Tryd.prog 96 #[.iface 87 (.pointer (some ⟨b, 0, none⟩))] w (DecPost w b l) := by
  have HL := Lib.hid hl
  clear hl
  go_enter Tryd.func96, Tryd.ntmps96
  go_wp2_with fail
  go_loopw [3, 5, 6, 7, 8] (fun bu mu n _ _ wr => ∃ k m : Nat, k ≤ 3 ∧ bu = .int .i64 (k + 1 : Nat) ∧ mu = .int .u32 (7 * k : Nat) ∧ n = .int .u32 m ∧ DecRel w b l k m wr) (fun bu _ _ _ _ _ => 5 - (intOf bu).toNat)
  case atStart => exact ⟨0, 0, by omega, rfl, rfl, rfl, l, h, Fr.refl _ _, rfl, rfl, rfl, by simp⟩
  case round =>
    obtain ⟨k, m, hk, rfl, rfl, rfl, hR⟩ := hrel
    have HR := Lib.hid hR
    clear hR
    have hme := method_read
    go_wp2_with fail
    obtain ⟨l', hbf, hfr, hv, hd, he, hm⟩ := HR.out
    cases l' with
    | nil =>
      have HV := Lib.hid hv
      have HD := Lib.hid hd
      clear hv hd he hm
      refine (readByte_nil b _ hbf).mono ?_
      rintro e w1 ⟨rfl, rfl⟩
      unfold eofV
      go_wp2_with fail
      go_ret3
      refine .inr ⟨k + 1, ?_, rfl, hfr⟩
      rw [← HV.out, show 4 - k = (3 - k) + 1 by omega]
      rfl
    | cons x l' =>
      have HV := Lib.hid hv
      have HD := Lib.hid hd
      have HE := Lib.hid he
      have HM := Lib.hid hm
      clear hv hd he hm
      refine (readByte_cons b x l' _ hbf).mono ?_
      rintro e w1 ⟨rfl, hbf1, hf1⟩
      have hxb : x.toNat < 256 := x.toNat_lt
      have e1 := vbi_or32 m k x.toNat HM.out hk hxb
      have hn' : m + x.toNat % 128 * 128 ^ k < 268435456 := by
        have h1 := vbi_lt m k x.toNat HM.out
        have h2 : 128 ^ (k + 1) ≤ 128 ^ 4 := Nat.pow_le_pow_right (by omega) (by omega)
        have h3 : (128 : Nat) ^ 4 = 268435456 := rfl
        omega
      generalize hn : m + x.toNat % 128 * 128 ^ k = n' at *
      have HN := Lib.hid hn
      clear hn
      have e2 := and128_eq x.toNat hxb
      have hdrop : l' = l.drop (k + 1) := by rw [← List.tail_drop, ← HD.out]; rfl
      have HD2 := Lib.hid hdrop
      clear hdrop
      by_cases hx1 : x.toNat < 128
      · rw [decide_eq_true hx1] at e2
        go_wp2_with fail
        go_ret3
        refine .inl ⟨n', k + 1, ?_, rfl, by rw [← HD2.out]; exact hbf1, hfr.trans hf1 (fun y hy => .inl hy)⟩
        rw [← HV.out, show 4 - k = (3 - k) + 1 by omega, vbiP, if_pos hx1, HN.out]
      · rw [decide_eq_false hx1] at e2
        have hk3 : k < 3 := by
          refine Nat.lt_of_le_of_ne hk fun h3 => ?_
          subst h3
          have h5 := HE.out.trans HL.out
          rw [show 4 - 3 = 0 + 1 from rfl, endl, if_neg hx1] at h5
          cases h5
        go_wp2_with fail
        go_roundw
        case rel =>
          refine ⟨k + 1, n', by omega, by go_num, by go_num, rfl, l', hbf1, hfr.trans hf1 (fun y hy => .inl hy), ?_, HD2.out, ?_, ?_⟩
          · rw [← HV.out, show 4 - k = (4 - (k + 1)) + 1 by omega, vbiP, if_neg hx1, HN.out]
          · rw [← HE.out, show 4 - k = (4 - (k + 1)) + 1 by omega, endl, if_neg hx1]
          · rw [← HN.out]; exact vbi_lt m k _ HM.out
        case measure => simp [intOf]; omega
end Go.Proofs.YtkglmacaecmhdaaDoor
