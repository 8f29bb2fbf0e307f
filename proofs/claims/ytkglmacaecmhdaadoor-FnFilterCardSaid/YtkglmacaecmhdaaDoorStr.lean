/- Strings: IndexByte, the tests over strings of bytes. -/
import Derived.Test.YtkglmacaecmhdaaDoorByt
import Derived.Lib.Bytealg
namespace Go.Proofs.YtkglmacaecmhdaaDoor
open Go.RowKit
set_option linter.unusedVariables false

/-- A string's bytes. -/
def bl (s : ByteArray) : List UInt8 := s.data.toList
/-- The string of some bytes. -/
def strc (l : List UInt8) : Value := .string ⟨l.toArray⟩
theorem bl_len (s : ByteArray) : (bl s).length = s.size := rfl
theorem bl_mk (l : List UInt8) : bl ⟨l.toArray⟩ = l := rfl
theorem mk_bl (s : ByteArray) : (⟨(bl s).toArray⟩ : ByteArray) = s := Lib.mk_data s
theorem strc_bl (s : ByteArray) : strc (bl s) = .string s := by rw [strc, mk_bl]
theorem bl_at (s : ByteArray) (k : Nat) (x : UInt8) (h : (bl s)[k]? = some x) (hk : k < s.size) : s[k] = x := by
  have := List.getElem?_eq_some_iff.1 h
  obtain ⟨h1, h2⟩ := this
  rw [← h2]
  rfl
theorem bl_some (s : ByteArray) (k : Nat) (hk : k < s.size) : ∃ x, (bl s)[k]? = some x := ⟨_, List.getElem?_eq_getElem (l := bl s) hk⟩

/-- Are all bytes ASCII? -/
def asc (l : List UInt8) : Bool := l.all fun x => decide (x.toNat < 128)

set_option maxRecDepth 20000 in
set_option maxHeartbeats 400000 in
theorem ascii_any (s : ByteArray) (hs : s.size ≤ 9223372036854775807) (w : World) : Calls Tryd.prog 22 #[.string s] w fun e w' => e = .returned (.bool (asc (bl s))) ∧ w = w' := by
  obtain ⟨r, hr⟩ : ∃ r, asc (bl s) = r := ⟨_, rfl⟩
  rw [hr]
  have HR := Lib.hid hr
  clear hr
  go_enter Tryd.func22, Tryd.ntmps22
  go_wp2_with fail
  go_loop [3, 6] (fun _ i => ∃ k : Nat, k ≤ s.size ∧ i = .int .i64 k ∧ Hid (asc ((bl s).take k) = true)) (fun _ i => s.size - (intOf i).toNat)
  case atStart => exact ⟨0, by omega, rfl, (show asc ((bl s).take 0) = true from rfl)⟩
  case round =>
    obtain ⟨k, hk, rfl, hw⟩ := hrel
    by_cases hlt : k < s.size
    · obtain ⟨x, hx⟩ := bl_some s k hlt
      have hsk := bl_at s k x hx hlt
      have HX := Lib.hid hx
      clear hx
      have hmem : x ∈ bl s := List.mem_of_getElem? HX.out
      by_cases hx0 : 128 ≤ x.toNat
      · have hno : asc (bl s) = false := by
          rw [asc, List.all_eq_false]
          exact ⟨x, hmem, by simp; omega⟩
        have HN := Lib.hid (hno.symm.trans HR.out)
        clear hno
        go_wp2_with fail
        go_ret
        exact ⟨ret_bool HN.out, rfl⟩
      · go_wp2_with fail
        go_round
        case rel =>
          refine ⟨k + 1, by omega, by go_num, (show asc ((bl s).take (k + 1)) = true from ?_)⟩
          have := hw.out
          rw [List.take_add_one, HX.out, Option.toList_some, asc, List.all_append]
          rw [asc] at this
          rw [this]
          simp
          omega
        case measure => simp [intOf]; omega
    · have hyes : asc (bl s) = true := by
        have := hw.out
        rwa [List.take_of_length_le (by rw [bl_len]; omega)] at this
      have HN := Lib.hid (hyes.symm.trans HR.out)
      clear hyes
      go_wp2_with fail
      go_ret
      exact ⟨ret_bool HN.out, rfl⟩
end Go.Proofs.YtkglmacaecmhdaaDoor
