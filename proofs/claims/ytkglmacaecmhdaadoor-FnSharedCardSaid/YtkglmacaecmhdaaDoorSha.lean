/- laws.FnShared: the walk of the law. -/
import Derived.Test.YtkglmacaecmhdaaDoorNear
import Derived.Test.YtkglmacaecmhdaaDoorFold
import Derived.Test.YtkglmacaecmhdaaDoorLa
namespace Go.Proofs.YtkglmacaecmhdaaDoor
open Go.RowKit
set_option linter.unusedVariables false

def shareU : List UInt8 := [36, 83, 72, 65, 82, 69]
set_option maxRecDepth 20000 in
theorem impShared_any (s : ByteArray) (hs : s.size ≤ 1073741824) (ha : asc (bl s) = true) (w : World) : Calls Tryd.prog 23 #[.string s] w fun e w' => e = .returned (.bool (lowL (lev0 (bl s)) == lowL shareU)) ∧ w = w' := by
  have hs' : s.size ≤ 9223372036854775807 := by omega
  have hlev : (lev0 (bl s)).length ≤ 1073741824 := Nat.le_trans (lev0_len _) hs
  have hasc : asc (lev0 (bl s)) = true := by
    rw [asc, List.all_eq_true]
    intro x hx
    exact List.all_eq_true.1 ha x ((List.takeWhile_sublist _).mem hx)
  have heq := equalFold_any ⟨(lev0 (bl s)).toArray⟩ ⟨shareU.toArray⟩ (by show (lev0 (bl s)).length ≤ _; omega) (by decide) hasc (by decide) w
  have hiso := isolate_any s hs' w
  rw [show bl ⟨(lev0 (bl s)).toArray⟩ = lev0 (bl s) from rfl, show bl ⟨shareU.toArray⟩ = shareU from rfl] at heq
  have HE := Lib.hid heq
  have HI := Lib.hid hiso
  clear heq hiso ha hasc
  generalize lev0 (bl s) = l at *
  obtain ⟨r, hr⟩ : ∃ r, (lowL l == lowL shareU) = r := ⟨_, rfl⟩
  rw [hr] at HE ⊢
  clear hr
  go_enter Tryd.func23, Tryd.ntmps23
  go_wp2_with (go_at_call 62; go_in)
  refine HI.out.mono ?_
  rintro e w1 ⟨⟨h, rfl⟩, rfl⟩
  unfold strc
  go_wp2_with fail
  refine HE.out.mono ?_
  rintro e w1 ⟨rfl, rfl⟩
  go_wp2_with fail
  go_ret
  exact ⟨rfl, rfl⟩

theorem lowU_nat (x : UInt8) (hx : x.toNat < 128) : (lowU x).toNat = lowN x.toNat := by
  unfold lowU lowN
  split
  · rw [ofNat_toNat _ (by omega)]
  · rfl
theorem lowL_map : ∀ l : List UInt8, asc l = true → lowL l = (l.map lowU).map UInt8.toNat
  | [], _ => rfl
  | x :: l, h => by
    simp only [asc, List.all_cons, Bool.and_eq_true, decide_eq_true_eq] at h
    have ih := lowL_map l h.2
    simp only [lowL, List.map_cons] at ih ⊢
    rw [ih, lowU_nat x h.1]
theorem low_eq (l : List UInt8) (h : asc l = true) : (lowL l == lowL shareU) = (l.map lowU == shareL) := by
  have e : lowL shareU = shareL.map UInt8.toNat := by decide
  rw [lowL_map l h, e]
  by_cases hl : l.map lowU = shareL
  · rw [hl]; simp
  · have h1 : (l.map lowU == shareL) = false := by rw [beq_eq_false_iff_ne]; exact hl
    rw [h1, beq_eq_false_iff_ne]
    intro h2
    exact hl ((List.map_inj_right (fun a b hab => UInt8.toNat_inj.1 hab)).1 h2)
/-- The law: where the first level is not $share in other letters, the two agree. -/
theorem share_law (l : List UInt8) (ha : asc l = true) (hn : nearSh l = false) : (lowL (lev0 l) == lowL shareU) = isSh l := by
  have hasc : asc (lev0 l) = true := by
    rw [asc, List.all_eq_true]
    intro x hx
    exact List.all_eq_true.1 ha x ((List.takeWhile_sublist _).mem hx)
  rw [low_eq _ hasc]
  rw [nearSh] at hn
  cases hs : isSh l with
  | false => rw [hs] at hn; simpa using hn
  | true =>
    rw [isSh, beq_iff_eq] at hs
    have hl : l = shareB ++ l.drop 7 := by rw [← hs, List.take_append_drop]
    rw [hl, beq_iff_eq]
    rfl

set_option maxRecDepth 20000 in
set_option maxHeartbeats 800000 in
theorem fnShared_walk (s : ByteArray) (w : World) (hs : s.size ≤ maxLen) : Calls Tryd.prog 6 #[.string s] w (Yes w) := by
  have hs' : s.size ≤ 9223372036854775807 := hs
  by_cases hbig : 2147483647 < s.size
  · go_enter Tryd.func6, Tryd.ntmps6
    go_wp2_with fail
    go_ret
    exact ⟨rfl, Fr.refl _ _⟩
  by_cases h200 : 200 < s.size
  · go_enter Tryd.func6, Tryd.ntmps6
    go_wp2_with (go_at_call 14; refine (works_any _).mono ?_; rintro e w1 ⟨rfl, hf⟩)
    go_ret
    exact ⟨rfl, hf⟩
  have hs2 : s.size ≤ 200 := by omega
  obtain ⟨nr, hnr⟩ : ∃ b, nearSh (bl s) = b := ⟨_, rfl⟩
  have hnear := near_any s (by omega) w
  rw [hnr] at hnear
  have HN := Lib.hid hnear
  clear hnear
  cases nr
  case true =>
    clear hnr
    go_enter Tryd.func6, Tryd.ntmps6
    go_wp2_with fail
    refine HN.out.mono ?_
    rintro e w1 ⟨rfl, hf⟩
    go_wp2_with (go_at_call 14; refine (works_any _).mono ?_; rintro e w2 ⟨rfl, hf2⟩)
    go_ret
    exact ⟨rfl, hf.trans hf2 (by simp)⟩
  case false =>
    obtain ⟨ac, hac⟩ : ∃ b, asc (bl s) = b := ⟨_, rfl⟩
    have hascii := ascii_any s hs'
    rw [hac] at hascii
    have HA := Lib.hid hascii
    clear hascii
    cases ac
    case false =>
      clear hnr hac
      go_enter Tryd.func6, Tryd.ntmps6
      go_wp2_with fail
      refine HN.out.mono ?_
      rintro e w1 ⟨rfl, hf⟩
      go_wp2_with fail
      refine (HA.out _).mono ?_
      rintro e w2 ⟨rfl, rfl⟩
      go_wp2_with (go_at_call 14; refine (works_any _).mono ?_; rintro e w2 ⟨rfl, hf2⟩)
      go_ret
      exact ⟨rfl, hf.trans hf2 (by simp)⟩
    case true =>
      have hlaw := share_law (bl s) hac hnr
      have himp := fun w => impShared_any s (by omega) hac w
      have hish := fun w => isShared_any s hs' w
      simp only [hlaw] at himp
      have HI := Lib.hid himp
      have HJ := Lib.hid hish
      clear himp hish hlaw hac hnr
      generalize isSh (bl s) = q at *
      have hq : (q == q) = true := by simp
      go_enter Tryd.func6, Tryd.ntmps6
      go_wp2_with fail
      refine HN.out.mono ?_
      rintro e w1 ⟨rfl, hf⟩
      go_wp2_with fail
      refine (HA.out _).mono ?_
      rintro e w2 ⟨rfl, rfl⟩
      go_wp2_with fail
      refine (HI.out _).mono ?_
      rintro e w2 ⟨rfl, rfl⟩
      go_wp2_with fail
      refine (HJ.out _).mono ?_
      rintro e w2 ⟨rfl, rfl⟩
      go_wp2_with (go_at_call 14; refine (works_any _).mono ?_; rintro e w2 ⟨rfl, hf2⟩)
      go_ret
      exact ⟨rfl, hf.trans hf2 (by simp)⟩
end Go.Proofs.YtkglmacaecmhdaaDoor
