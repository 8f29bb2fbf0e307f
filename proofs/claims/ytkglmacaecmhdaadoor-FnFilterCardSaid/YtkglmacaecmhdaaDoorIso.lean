/- Strings: IndexByte, isolateParticle's first particle, spec.IsShared. -/
import Derived.Test.YtkglmacaecmhdaaDoorStr
import Derived.Test.YtkglmacaecmhdaaDoorNum
namespace Go.Proofs.YtkglmacaecmhdaaDoor
open Go.RowKit
set_option linter.unusedVariables false

/-- The first level. -/
def lev0 (l : List UInt8) : List UInt8 := l.takeWhile (· != 47)

theorem lev0_idx : ∀ l : List UInt8, (Lib.indexByte l 47 = -1 ∧ lev0 l = l) ∨ ∃ j : Nat, j < l.length ∧ Lib.indexByte l 47 = j ∧ lev0 l = l.take j
  | [] => .inl ⟨rfl, rfl⟩
  | x :: l => by
    by_cases hx : x = 47
    · subst hx
      exact .inr ⟨0, by simp, by simp [Lib.indexByte], rfl⟩
    · have hb : (x == 47) = false := by simp [hx]
      have hl : lev0 (x :: l) = x :: lev0 l := by simp [lev0, hx]
      rcases lev0_idx l with ⟨h1, h2⟩ | ⟨j, hj, h1, h2⟩
      · exact .inl ⟨by simp [Lib.indexByte, hb, h1], by rw [hl, h2]⟩
      · refine .inr ⟨j + 1, by simp; omega, ?_, by rw [hl, h2]; rfl⟩
        simp only [Lib.indexByte, hb, h1]
        have : ((j : Int) == -1) = false := by rw [beq_eq_false_iff_ne]; omega
        rw [this]
        rfl

set_option maxRecDepth 20000 in
theorem indexByte_any (s : ByteArray) (w : World) : Calls Tryd.prog 103 #[.string s, .int .u8 47] w fun e w' => e = .returned (.int .i64 (Lib.indexByte (bl s) 47)) ∧ w = w' := by
  go_enter Tryd.func103, Tryd.ntmps103
  go_wp2_with (go_at_call 147; go_in)
  rw [run_callFunc_extern Tryd.func170 (by kernel_rfl) (by kernel_rfl) (by kernel_rfl) (e := Extern.BytealgIndexByte.indexByte) (by kernel_rfl), Lib.run_indexByteString]
  simp only [Result.andThen]
  rw [Oper.upon_value]
  go_wp2
  go_ret
  exact ⟨rfl, rfl⟩

set_option maxRecDepth 20000 in
set_option maxHeartbeats 400000 in
theorem isolate_any (s : ByteArray) (hs : s.size ≤ 9223372036854775807) (w : World) : Calls Tryd.prog 101 #[.string s, .int .i64 0] w fun e w' => (∃ h, e = .returned (.tuple #[strc (lev0 (bl s)), .bool h])) ∧ w = w' := by
  rcases lev0_idx (bl s) with ⟨h1, h2⟩ | ⟨j, hj, h1, h2⟩
  · rw [h2, strc_bl]
    have H1 := Lib.hid h1
    clear h1 h2
    go_enter Tryd.func101, Tryd.ntmps101
    go_wp2_with fail
    refine wp_loop_rounds 3 ?_
    rw [rounds_succ]
    go_wp2_with fail
    refine (indexByte_any s w).mono ?_
    rintro e w1 ⟨rfl, rfl⟩
    rw [H1.out]
    go_wp2_with fail
    rw [rounds_succ]
    go_wp2_with fail
    go_ret2
    exact ⟨⟨_, rfl⟩, rfl⟩
  · have hj' : j < s.size := by rw [← bl_len]; exact hj
    have H1 := Lib.hid h1
    have H2 := Lib.hid h2
    clear h1 h2 hj
    go_enter Tryd.func101, Tryd.ntmps101
    go_wp2_with fail
    refine wp_loop_rounds 3 ?_
    rw [rounds_succ]
    go_wp2_with fail
    refine (indexByte_any s w).mono ?_
    rintro e w1 ⟨rfl, rfl⟩
    rw [H1.out]
    go_wp2_with fail
    rw [rounds_succ]
    go_wp2_with fail
    go_ret2
    refine ⟨⟨true, ?_⟩, rfl⟩
    rw [H2.out, strc, Lib.extract_eq, List.drop_zero, Nat.sub_zero]
    rfl

/-- $share/ -/
def shareB : List UInt8 := [36, 115, 104, 97, 114, 101, 47]
def isSh (l : List UInt8) : Bool := l.take 7 == shareB

set_option maxRecDepth 20000 in
set_option maxHeartbeats 400000 in
theorem isShared_any (s : ByteArray) (hs : s.size ≤ 9223372036854775807) (w : World) : Calls Tryd.prog 24 #[.string s] w fun e w' => e = .returned (.bool (isSh (bl s))) ∧ w = w' := by
  by_cases h7 : 7 ≤ s.size
  · go_enter Tryd.func24, Tryd.ntmps24
    go_wp2_with fail
    go_ret
    exact ⟨ret_bool (by rw [Lib.extract_toList]; rfl), rfl⟩
  · have h : isSh (bl s) = false := by
      rw [isSh, beq_eq_false_iff_ne]
      intro h
      have := congrArg List.length h
      rw [List.length_take, bl_len] at this
      simp [shareB] at this
      omega
    rw [h]
    go_enter Tryd.func24, Tryd.ntmps24
    go_wp2_with fail
    go_ret
    exact ⟨rfl, rfl⟩
end Go.Proofs.YtkglmacaecmhdaaDoor
