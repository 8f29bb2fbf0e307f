/- spec.Text: its answer is a function of the text alone; Dollar. -/
import Derived.Test.YtkglmacaecmhdaaDoorStr
import Derived.Laws.RangeAny
import Derived.LoopTactic
import Derived.Test.YtkglmacaecmhdaaDoorNum
namespace Go.Proofs.YtkglmacaecmhdaaDoor
open Go.RowKit
set_option linter.unusedVariables false

/-- Is the character at place i one that no text may have? -/
def badAt (s : ByteArray) (i : Nat) : Bool :=
  (Utf8.decode s i).1 == 0 || ((Utf8.decode s i).1 == 65533 && (decide (s.size < i + 3) || !((s.extract i (i + 3)).toList == [239, 191, 189])))
def textFrom (s : ByteArray) : Nat → Nat → Bool
  | 0, _ => decide (s.size ≤ 65535)
  | b + 1, i => if i < s.size then (if badAt s i then false else textFrom s b (i + (Utf8.decode s i).2)) else decide (s.size ≤ 65535)
def textB (s : ByteArray) : Bool := textFrom s s.size 0
theorem textFrom_end (s : ByteArray) (b i : Nat) (h : ¬ i < s.size) : textFrom s b i = decide (s.size ≤ 65535) := by
  cases b with
  | zero => rfl
  | succ b => simp [textFrom, h]
theorem width_pos (s : ByteArray) (pos : Nat) (h : pos < s.size) : 1 ≤ (Utf8.decode s pos).2 := by
  by_cases ha : (s[pos]'h).toNat < 128
  · rw [decode_ascii s pos h ha]
    exact Nat.le_refl _
  · exact (decode_high s pos h (by omega)).2

set_option maxRecDepth 20000 in
set_option maxHeartbeats 800000 in
theorem text_any (s : ByteArray) (hs : s.size ≤ 1099511627776) (w : World) : Calls Tryd.prog 25 #[.string s] w fun e w' => e = .returned (.bool (textB s)) ∧ ∃ pos, w' = w.iter s pos := by
  have hs' : s.size ≤ 9223372036854775807 := by omega
  obtain ⟨r, hr⟩ : ∃ r, textB s = r := ⟨_, rfl⟩
  rw [hr]
  have HR := Lib.hid hr
  clear hr
  go_enter Tryd.func25, Tryd.ntmps25
  go_wp2_with fail
  go_loopw [3, 4] (fun _ _ wr => ∃ (pos b : Nat), wr = w.iter s pos ∧ Hid (textFrom s b pos = r) ∧ s.size ≤ pos + b) (fun _ _ wr => s.size - wr.iterPos w.heap.size)
  case atStart => exact ⟨0, s.size, rfl, HR.out, by omega⟩
  case round =>
    obtain ⟨pos, b, rfl, ht, hpb⟩ := hrel
    by_cases hlt : pos < s.size
    · have hnext := fun ty => run_next_any (P := Tryd.prog) w s pos ty hlt
      have hw := width_pos s pos hlt
      have hd := decode_le s pos
      obtain ⟨b, rfl⟩ : ∃ c, b = c + 1 := ⟨b - 1, by omega⟩
      have ht' := ht.out
      rw [textFrom, if_pos hlt] at ht'
      have HT := Lib.hid ht'
      clear ht ht'
      by_cases r0 : (Utf8.decode s pos).1 = 0
      · have hb : badAt s pos = true := by simp [badAt, r0]
        have HB := Lib.hid hb
        clear hb
        go_wp2_with fail
        go_ret
        exact ⟨ret_bool (by have := HT.out; rwa [HB.out, if_pos rfl] at this), _, rfl⟩
      by_cases r1 : (Utf8.decode s pos).1 = 65533
      · by_cases h3 : s.size < pos + 3
        · have hb : badAt s pos = true := by simp [badAt, r1, h3]
          have HB := Lib.hid hb
          clear hb
          go_wp2_with fail
          go_ret
          exact ⟨ret_bool (by have := HT.out; rwa [HB.out, if_pos rfl] at this), _, rfl⟩
        · cases he : ((s.extract pos (pos + 3)).toList == [239, 191, 189])
          · have hb : badAt s pos = true := by rw [badAt, he]; simp [r1]
            have HB := Lib.hid hb
            clear hb
            go_wp2_with fail
            go_ret
            exact ⟨ret_bool (by have := HT.out; rwa [HB.out, if_pos rfl] at this), _, rfl⟩
          · have hb : badAt s pos = false := by rw [badAt, he]; simp [r1, h3]
            have HB := Lib.hid hb
            clear hb
            go_wp2_with fail
            go_roundw
            case rel => exact ⟨pos + (Utf8.decode s pos).2, b, rfl, (by have := HT.out; rwa [HB.out, if_neg (by simp)] at this : textFrom s b (pos + (Utf8.decode s pos).2) = r), by omega⟩
            case measure => simp; omega
      · have hb : badAt s pos = false := by simp [badAt, r0, r1]
        have HB := Lib.hid hb
        clear hb
        have r1' : ¬ ((Utf8.decode s pos).1 : Int) = 65533 := by omega
        go_wp2_with fail
        go_roundw
        case rel => exact ⟨pos + (Utf8.decode s pos).2, b, rfl, (by have := HT.out; rwa [HB.out, if_neg (by simp)] at this : textFrom s b (pos + (Utf8.decode s pos).2) = r), by omega⟩
        case measure => simp; omega
    · have hnext := fun ty => run_next_end (P := Tryd.prog) w s pos ty hlt
      have he := textFrom_end s b pos hlt
      have HE := Lib.hid (he.symm.trans ht.out)
      clear he
      go_wp2_with fail
      go_ret
      exact ⟨ret_bool (by rw [← HE.out, decide_eq_decide]; omega), _, rfl⟩
end Go.Proofs.YtkglmacaecmhdaaDoor
