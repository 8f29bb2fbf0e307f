/- laws.FnFilter: the walk of the law. -/
import Derived.Test.YtkglmacaecmhdaaDoorSub
namespace Go.Proofs.YtkglmacaecmhdaaDoor
open Go.RowKit
set_option linter.unusedVariables false

set_option maxRecDepth 20000 in
set_option maxHeartbeats 800000 in
theorem alone_nil (w : World) : Calls Tryd.prog 27 #[.string ByteArray.empty] w fun e w' => e = .returned (.bool false) ∧ Fr [] w w' := by
  have hlv := levels_any ByteArray.empty (by decide)
  have HL := Lib.hid hlv
  clear hlv
  go_enter Tryd.func27, Tryd.ntmps27
  go_wp2_with fail
  refine (HL.out _).mono ?_
  rintro e w1 ⟨v, rfl, ho, hfre, hf⟩
  obtain ⟨g, cap, rfl, hc1, hc2, hcells⟩ := ho.cells (by decide)
  have hcell : w1.cell? ⟨g, 0, none⟩ = some (.string ⟨#[]⟩) := hcells 0 [] rfl
  have HF := Lib.hid hf
  have e1 : (lvs (bl ByteArray.empty)).length = 1 := rfl
  rw [e1] at *
  have hc9 : cap ≤ 9223372036854775807 := hc2
  clear ho hfre hf hcells e1
  go_wp2_with fail
  refine wp_loop_rounds 2 ?_
  rw [rounds_succ]
  go_wp2_with fail
  refine wp_loop_rounds 1 ?_
  rw [rounds_succ]
  go_wp2_with fail
  rw [rounds_succ]
  go_wp2_with fail
  go_ret
  exact ⟨rfl, HF.out⟩

set_option maxRecDepth 20000 in
set_option maxHeartbeats 800000 in
theorem fnFilter_walk (s : ByteArray) (w : World) (hs : s.size ≤ maxLen) (hfold : w.cell? ⟨22, 36, none⟩ = some (.int .u16 36)) : Calls Tryd.prog 7 #[.string s] w (Yes w) := by
  have hs' : s.size ≤ 9223372036854775807 := hs
  by_cases hbig : 2147483647 < s.size
  · go_enter Tryd.func7, Tryd.ntmps7
    go_wp2_with fail
    go_ret
    exact ⟨rfl, Fr.refl _ _⟩
  by_cases h200 : 200 < s.size
  · go_enter Tryd.func7, Tryd.ntmps7
    go_wp2_with (go_at_call 14; refine (works_any _).mono ?_; rintro e w1 ⟨rfl, hf⟩)
    go_ret
    exact ⟨rfl, hf⟩
  have hs2 : s.size ≤ 200 := by omega
  have htx := fun w => text_any s (by omega) w
  have hdl := fun w => dollar_any s (by omega) w
  cases htb : textB s
  · rw [htb] at htx
    have HT := Lib.hid htx
    clear htx hdl htb hfold
    go_enter Tryd.func7, Tryd.ntmps7
    go_wp2_with fail
    refine (HT.out _).mono ?_
    rintro e w1 ⟨rfl, pos, rfl⟩
    go_wp2_with (go_at_call 14; refine (works_any _).mono ?_; rintro e w1 ⟨rfl, hf⟩)
    go_ret
    exact ⟨rfl, ((Fr.refl _ _).alloc _).trans hf (by simp)⟩
  rw [htb] at htx
  have HT := Lib.hid htx
  clear htx
  cases hdb : dol (bl s)
  case true =>
    rw [hdb] at hdl
    have HD := Lib.hid hdl
    clear hdl htb hdb hfold
    go_enter Tryd.func7, Tryd.ntmps7
    go_wp2_with fail
    refine (HT.out _).mono ?_
    rintro e w1 ⟨rfl, pos, rfl⟩
    go_wp2_with fail
    refine (HD.out _).mono ?_
    rintro e w2 ⟨rfl, rfl⟩
    go_wp2_with (go_at_call 14; refine (works_any _).mono ?_; rintro e w1 ⟨rfl, hf⟩)
    go_ret
    exact ⟨rfl, ((Fr.refl _ _).alloc _).trans hf (by simp)⟩
  case false =>
    have hx : ∀ x, (bl s)[0]? = some x → x.toNat ≠ 36 := by
      intro x hx h36
      rw [dol, List.head?_eq_getElem?, hx, show x = 36 from UInt8.toNat_inj.1 h36] at hdb
      simp at hdb
    rw [hdb] at hdl
    have HD := Lib.hid hdl
    clear hdl hdb
    obtain ⟨al, hal1, hal2⟩ : ∃ al, (∀ w, Calls Tryd.prog 27 #[.string s] w fun e w' => e = .returned (.bool al) ∧ Fr [] w w') ∧ (al = true → 0 < s.size ∧ alone (lvs (bl s)) = true) := by
      by_cases h00 : s.size = 0
      · obtain rfl := bl_nil s h00
        exact ⟨false, alone_nil, fun h => by cases h⟩
      · exact ⟨alone (lvs (bl s)), fun w => alone_any s (by omega) (by omega) w, fun h => ⟨by omega, h⟩⟩
    have HAL := Lib.hid hal1
    clear hal1
    cases al
    case false =>
      clear htb hx hal2 hfold
      go_enter Tryd.func7, Tryd.ntmps7
      go_wp2_with fail
      refine (HT.out _).mono ?_
      rintro e w1 ⟨rfl, pos, rfl⟩
      go_wp2_with fail
      refine (HD.out _).mono ?_
      rintro e w2 ⟨rfl, rfl⟩
      go_wp2_with fail
      refine (HAL.out _).mono ?_
      rintro e w2 ⟨rfl, hf2⟩
      go_wp2_with (go_at_call 14; refine (works_any _).mono ?_; rintro e w1 ⟨rfl, hf⟩)
      go_ret
      exact ⟨rfl, ((Fr.alloc (Fr.refl _ _) _).trans hf2 (by simp)).trans hf (by simp)⟩
    case true =>
      obtain ⟨h0, ha⟩ := hal2 rfl
      have hvs := fun w => validSpec_any s h0 (by omega) ha w
      have hvf : ∀ w', Fr [] w w' → Calls Tryd.prog 28 #[.string s, .bool false] w' fun e w'' => e = .returned (.bool (lastH (bl s))) ∧ Fr [] w' w'' := fun w' hf =>
        validSub_any s h0 (by omega) hx w' (hf.cell hfold (by simp))
      rw [htb] at hvs
      simp only [Bool.and_true] at hvs
      rw [filter_law _ ha] at hvf
      have HVS := Lib.hid hvs
      have HVF := Lib.hid hvf
      clear htb hx hal2 hfold hvs hvf ha
      generalize hok (lvs (bl s)) = q at *
      have hq : (q == q) = true := by simp
      go_enter Tryd.func7, Tryd.ntmps7
      go_wp2_with fail
      refine (HT.out _).mono ?_
      rintro e w1 ⟨rfl, pos, rfl⟩
      have hfi : Fr [] w (w.iter s pos) := (Fr.refl _ _).alloc _
      go_wp2_with fail
      refine (HD.out _).mono ?_
      rintro e w2 ⟨rfl, rfl⟩
      go_wp2_with fail
      refine (HAL.out _).mono ?_
      rintro e w2 ⟨rfl, hf2⟩
      have hfj : Fr [] w w2 := hfi.trans hf2 (by simp)
      go_wp2_with fail
      refine (HVF.out _ hfj).mono ?_
      rintro e w3 ⟨rfl, hf3⟩
      go_wp2_with fail
      refine (HVS.out _).mono ?_
      rintro e w4 ⟨rfl, hf4⟩
      go_wp2_with (go_at_call 14; refine (works_any _).mono ?_; rintro e w5 ⟨rfl, hf5⟩)
      go_ret
      exact ⟨rfl, ((hfj.trans hf3 (by simp)).trans hf4 (by simp)).trans hf5 (by simp)⟩
end Go.Proofs.YtkglmacaecmhdaaDoor
