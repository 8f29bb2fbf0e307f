/- laws.FnTopicName: the walk of the law. -/
import Derived.Test.YtkglmacaecmhdaaDoorPub
namespace Go.Proofs.YtkglmacaecmhdaaDoor
open Go.RowKit
set_option linter.unusedVariables false

set_option maxRecDepth 20000 in
set_option maxHeartbeats 800000 in
theorem fnTopicName_walk (s : ByteArray) (w : World) (hs : s.size ≤ maxLen) (hfold : w.cell? ⟨22, 36, none⟩ = some (.int .u16 36)) : Calls Tryd.prog 8 #[.string s] w (Yes w) := by
  have hs' : s.size ≤ 9223372036854775807 := hs
  by_cases hbig : 2147483647 < s.size
  · go_enter Tryd.func8, Tryd.ntmps8
    go_wp2_with fail
    go_ret
    exact ⟨rfl, Fr.refl _ _⟩
  by_cases h00 : s.size = 0
  · obtain rfl := bl_nil s h00
    go_enter Tryd.func8, Tryd.ntmps8
    go_wp2_with (go_at_call 14; refine (works_any _).mono ?_; rintro e w1 ⟨rfl, hf⟩)
    go_ret
    exact ⟨rfl, hf⟩
  have h0 : 0 < s.size := by omega
  have hte := toList_ne s h0
  by_cases h200 : 200 < s.size
  · go_enter Tryd.func8, Tryd.ntmps8
    go_wp2_with (go_at_call 14; refine (works_any _).mono ?_; rintro e w1 ⟨rfl, hf⟩)
    go_ret
    exact ⟨rfl, hf⟩
  have hs2 : s.size ≤ 200 := by omega
  have htx := fun w => text_any s (by omega) w
  have hdl := fun w => dollar_any s (by omega) w
  have htp := fun w => topic_any s h0 (by omega) w
  cases htb : textB s
  · rw [htb] at htx
    have HT := Lib.hid htx
    clear htx htp htb hfold
    go_enter Tryd.func8, Tryd.ntmps8
    go_wp2_with fail
    refine (HT.out _).mono ?_
    rintro e w1 ⟨rfl, pos, rfl⟩
    go_wp2_with (go_at_call 14; refine (works_any _).mono ?_; rintro e w1 ⟨rfl, hf⟩)
    go_ret
    exact ⟨rfl, ((Fr.refl _ _).alloc _).trans hf (by simp)⟩
  · rw [htb] at htx htp
    have HT := Lib.hid htx
    clear htx
    cases hdb : dol (bl s)
    · have hx : ∀ x, (bl s)[0]? = some x → x.toNat ≠ 36 := by
        intro x hx h36
        rw [dol, List.head?_eq_getElem?, hx, show x = 36 from UInt8.toNat_inj.1 h36] at hdb
        simp at hdb
      rw [hdb] at hdl
      have hvp : ∀ w', Fr [] w w' → Calls Tryd.prog 28 #[.string s, .bool true] w' fun e w'' => e = .returned (.bool (noSign (bl s))) ∧ Fr [] w' w'' := fun w' hf =>
        validPub_any s (by omega) hx w' (hf.cell hfold (by simp))
      simp only [Bool.and_true] at htp
      have HD := Lib.hid hdl
      have HP := Lib.hid htp
      have HV := Lib.hid hvp
      clear hdl htp hvp hfold htb hdb hx
      generalize noSign (bl s) = q at *
      have hq : (q == q) = true := by simp
      go_enter Tryd.func8, Tryd.ntmps8
      go_wp2_with fail
      refine (HT.out _).mono ?_
      rintro e w1 ⟨rfl, pos, rfl⟩
      go_wp2_with fail
      refine (HD.out _).mono ?_
      rintro e w2 ⟨rfl, rfl⟩
      have hfi : Fr [] w (w.iter s pos) := (Fr.refl _ _).alloc _
      go_wp2_with fail
      refine (HV.out _ hfi).mono ?_
      rintro e w2 ⟨rfl, hf2⟩
      go_wp2_with fail
      refine (HP.out _).mono ?_
      rintro e w3 ⟨rfl, hf3⟩
      go_wp2_with (go_at_call 14; refine (works_any _).mono ?_; rintro e w4 ⟨rfl, hf4⟩)
      go_ret
      exact ⟨rfl, ((hfi.trans hf2 (by simp)).trans hf3 (by simp)).trans hf4 (by simp)⟩
    · rw [hdb] at hdl
      have HD := Lib.hid hdl
      clear hdl htp htb hdb hfold
      go_enter Tryd.func8, Tryd.ntmps8
      go_wp2_with fail
      refine (HT.out _).mono ?_
      rintro e w1 ⟨rfl, pos, rfl⟩
      go_wp2_with fail
      refine (HD.out _).mono ?_
      rintro e w2 ⟨rfl, rfl⟩
      go_wp2_with (go_at_call 14; refine (works_any _).mono ?_; rintro e w1 ⟨rfl, hf⟩)
      go_ret
      exact ⟨rfl, ((Fr.refl _ _).alloc _).trans hf (by simp)⟩
end Go.Proofs.YtkglmacaecmhdaaDoor
