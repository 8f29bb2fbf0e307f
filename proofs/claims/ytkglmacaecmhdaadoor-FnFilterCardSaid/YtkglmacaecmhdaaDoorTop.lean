/- laws.FnTopicName: Dollar, Topic, IsValidFilter for publishing. -/
import Derived.Test.YtkglmacaecmhdaaDoorEqn
import Derived.Test.YtkglmacaecmhdaaDoorLa
namespace Go.Proofs.YtkglmacaecmhdaaDoor
open Go.RowKit
set_option linter.unusedVariables false

def dol (l : List UInt8) : Bool := l.head? == some 36
theorem bl_nil (s : ByteArray) (h : s.size = 0) : s = ByteArray.empty := by
  have : s.data.toList = [] := List.eq_nil_of_length_eq_zero h
  rw [← Lib.mk_data s, this]
  rfl
theorem toList_ne (t : ByteArray) (h : 0 < t.size) : t.toList.isEmpty = false := by
  rw [Lib.toList_data]
  cases hh : t.data.toList with
  | nil => have : t.size = 0 := by rw [Lib.size_eq, hh]; rfl
           omega
  | cons => rfl

set_option maxRecDepth 20000 in
theorem dollar_any (s : ByteArray) (hs : s.size ≤ 1073741824) (w : World) : Calls Tryd.prog 26 #[.string s] w fun e w' => e = .returned (.bool (dol (bl s))) ∧ w = w' := by
  have hs' : s.size ≤ 9223372036854775807 := by omega
  by_cases h0 : 0 < s.size
  · obtain ⟨x, hx⟩ := bl_some s 0 h0
    have hsk := bl_at s 0 x hx h0
    have hte := toList_ne s h0
    have hd : dol (bl s) = ((x.toNat : Int) == 36) := by
      rw [dol, List.head?_eq_getElem?, hx]
      by_cases h : x = 36
      · subst h; rfl
      · have h2 : x.toNat ≠ 36 := fun e => h (UInt8.toNat_inj.1 e)
        have h3 : ((x.toNat : Int) == 36) = false := by rw [beq_eq_false_iff_ne]; omega
        rw [h3]
        simp [h]
    rw [hd]
    clear hx hd
    go_enter Tryd.func26, Tryd.ntmps26
    go_wp2_with fail
    go_ret
    exact ⟨rfl, rfl⟩
  · obtain rfl := bl_nil s (by omega)
    go_enter Tryd.func26, Tryd.ntmps26
    go_wp2_with fail
    go_ret
    exact ⟨rfl, rfl⟩

/-- No sign of a filter in it? -/
def noSign (l : List UInt8) : Bool := l.all fun x => !(x == 43) && !(x == 35)

set_option maxRecDepth 20000 in
set_option maxHeartbeats 400000 in
theorem topic_any (s : ByteArray) (h0 : 0 < s.size) (hs : s.size ≤ 1073741824) (w : World) : Calls Tryd.prog 30 #[.string s] w fun e w' => e = .returned (.bool (noSign (bl s) && textB s)) ∧ Fr [] w w' := by
  have hs' : s.size ≤ 9223372036854775807 := by omega
  have hte := toList_ne s h0
  have htx := fun w => text_any s (by omega) w
  obtain ⟨tb, htb⟩ : ∃ b, textB s = b := ⟨_, rfl⟩
  rw [htb] at htx ⊢
  obtain ⟨r, hr⟩ : ∃ r, noSign (bl s) = r := ⟨_, rfl⟩
  rw [hr]
  have HR := Lib.hid hr
  have HT := Lib.hid htx
  clear hr htx htb
  go_enter Tryd.func30, Tryd.ntmps30
  go_wp2_with fail
  go_loop [3, 6] (fun _ i => ∃ k : Nat, k ≤ s.size ∧ i = .int .i64 k ∧ Hid (noSign ((bl s).take k) = true)) (fun _ i => s.size - (intOf i).toNat)
  case atStart => exact ⟨0, by omega, rfl, (show noSign ((bl s).take 0) = true from rfl)⟩
  case round =>
    obtain ⟨k, hk, rfl, hw⟩ := hrel
    by_cases hlt : k < s.size
    · obtain ⟨x, hx⟩ := bl_some s k hlt
      have hsk := bl_at s k x hx hlt
      have HX := Lib.hid hx
      clear hx
      have hmem : x ∈ bl s := List.mem_of_getElem? HX.out
      have hx256 : x.toNat < 256 := x.toNat_lt
      by_cases hx0 : x.toNat = 43
      · have hno : noSign (bl s) = false := by
          rw [noSign, List.all_eq_false]
          exact ⟨x, hmem, by rw [show x = 43 from UInt8.toNat_inj.1 hx0]; decide⟩
        have HN := Lib.hid (hno.symm.trans HR.out)
        clear hno
        go_wp2_with fail
        go_ret
        exact ⟨ret_bool (by rw [← HN.out]; rfl), Fr.refl _ _⟩
      by_cases hx1 : x.toNat = 35
      · have hno : noSign (bl s) = false := by
          rw [noSign, List.all_eq_false]
          exact ⟨x, hmem, by rw [show x = 35 from UInt8.toNat_inj.1 hx1]; decide⟩
        have HN := Lib.hid (hno.symm.trans HR.out)
        clear hno
        go_wp2_with fail
        go_ret
        exact ⟨ret_bool (by rw [← HN.out]; rfl), Fr.refl _ _⟩
      · have hi1 : ((x.toNat : Int) == 43) = false := by rw [beq_eq_false_iff_ne]; omega
        have hi2 : ((x.toNat : Int) == 35) = false := by rw [beq_eq_false_iff_ne]; omega
        go_wp2_with fail
        go_round
        case rel =>
          refine ⟨k + 1, by omega, by go_num, (show noSign ((bl s).take (k + 1)) = true from ?_)⟩
          have := hw.out
          rw [List.take_add_one, HX.out, Option.toList_some, noSign, List.all_append]
          rw [noSign] at this
          rw [this]
          have e1 : ¬ x = 43 := fun h => hx0 (by rw [h]; rfl)
          have e2 : ¬ x = 35 := fun h => hx1 (by rw [h]; rfl)
          simp [e1, e2]
        case measure => simp [intOf]; omega
    · have hyes : noSign (bl s) = true := by
        have := hw.out
        rwa [List.take_of_length_le (by rw [bl_len]; omega)] at this
      have HN := Lib.hid (hyes.symm.trans HR.out)
      clear hyes
      go_wp2_with fail
      refine (HT.out _).mono ?_
      rintro e w1 ⟨rfl, pos, rfl⟩
      go_wp2_with fail
      go_ret
      exact ⟨ret_bool (by rw [← HN.out]; simp), (Fr.refl _ _).alloc _⟩
end Go.Proofs.YtkglmacaecmhdaaDoor
