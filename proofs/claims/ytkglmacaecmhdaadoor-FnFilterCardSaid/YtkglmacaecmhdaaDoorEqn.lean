/- strings.EqualFold where the second text begins with a dollar sign, and the first does not: false. -/
import Derived.Test.YtkglmacaecmhdaaDoorFold
import Derived.Test.YtkglmacaecmhdaaDoorTxt
import Derived.ScopeJumps
namespace Go.Proofs.YtkglmacaecmhdaaDoor
open Go.RowKit
set_option linter.unusedVariables false

/-- A scope in which the run jumps once, at most. -/
theorem wp_scope_once {P : Program} {a : Act} {w : World} {Q : Exit → Act → World → Prop} {c rest : Code} (l : Nat) (A : Act) (W : World) (hf : findLabel c l = some rest)
    (first : c.wp P (Exit.jump l (fun a' w' => w' = W ∧ a' = A) Q) a w) (pass : rest.wp P (Exit.jump l (fun _ _ => False) Q) A W) : (Code.scope c).wp P Q a w :=
  wp_scope_jumps l (fun a' w' => w' = W ∧ a' = A) (fun _ _ => 0) hf first fun a' w' ⟨hw, ha⟩ => by
    subst hw; subst ha
    intro b k cs
    obtain ⟨e, a1, w1, hq, harr⟩ := pass b k cs
    refine ⟨e, a1, w1, ?_, harr⟩
    cases e with
    | goto l' => exact absurd hq.2 id
    | _ => exact hq

theorem or_ge128 (a b : Nat) (ha : 128 ≤ a) (ha2 : a < 256) (hb : b < 256) : ∃ z : Nat, 128 ≤ z ∧ bits .or .u8 (a : Int) (b : Int) = (z : Int) :=
  ⟨a ||| b, Nat.le_trans ha Nat.left_le_or, u8_or_nat a b (by omega) (by omega)⟩

set_option maxRecDepth 20000 in
set_option maxHeartbeats 800000 in
theorem eqf_no (s t : ByteArray) (hs : s.size ≤ 1073741824) (ht : t.size ≤ 1073741824) (ht0 : 0 < t.size) (tn : (bl t)[0]? = some 36) (hx : ∀ x, (bl s)[0]? = some x → x.toNat ≠ 36) (w : World) (hfold : w.cell? ⟨22, 36, none⟩ = some (.int .u16 36)) :
    Calls Tryd.prog 102 #[.string s, .string t] w fun e w' => e = .returned (.bool false) ∧ Fr [] w w' := by
  have hs' : s.size ≤ 9223372036854775807 := by omega
  have ht' : t.size ≤ 9223372036854775807 := by omega
  have htk := bl_at t 0 36 tn ht0
  have TN := Lib.hid tn
  clear tn
  by_cases h0 : s.size = 0
  · have hlt : ¬ t.size < 0 := by omega
    have hne : ((0 : Int) == (t.size : Int)) = false := by rw [beq_eq_false_iff_ne]; omega
    have hne2 : ¬ (0 : Int) = (t.size : Int) := by omega
    have hne3 : ¬ t.size = 0 := by omega
    clear hx
    go_enter Tryd.func102, Tryd.ntmps102
    go_wp2_with fail
    go_step3
    go_wp2_with fail
    refine wp_loop_rounds 1 ?_
    rw [rounds_succ]
    go_wp2_with fail
    rw [Exit.noGoto_ret]
    go_ret
    exact ⟨rfl, Fr.refl _ _⟩
  have h0' : 0 < s.size := by omega
  obtain ⟨x, hx0⟩ := bl_some s 0 h0'
  have hsk := bl_at s 0 x hx0 h0'
  have hx36 := hx x hx0
  have hx256 : x.toNat < 256 := x.toNat_lt
  clear hx hx0
  by_cases hx128 : x.toNat < 128
  · obtain ⟨z, hz, ho⟩ := or_lt128 x.toNat 36 hx128 (by omega)
    have ho' : bits .or .u8 (x.toNat : Int) 36 = z := ho
    have h36 : ((36 : Int) == (x.toNat : Int)) = false := by rw [beq_eq_false_iff_ne]; omega
    by_cases hts : t.size < s.size
    all_goals
      go_enter Tryd.func102, Tryd.ntmps102
      go_wp2_with fail
      go_step3
      go_wp2_with fail
      refine wp_loop_rounds 1 ?_
      rw [rounds_succ]
      go_wp2_with fail
      all_goals try rw [Exit.noGoto_ret]
      all_goals go_ret
      all_goals exact ⟨rfl, Fr.refl _ _⟩
  · obtain ⟨z, hz, ho⟩ := or_ge128 x.toNat 36 (by omega) hx256 (by omega)
    have ho' : bits .or .u8 (x.toNat : Int) 36 = z := ho
    have hz' : ¬ (z : Int) < 128 := by omega
    have hnext := fun ty => run_next_any (P := Tryd.prog) w s 0 ty h0'
    have hdec := (decode_high s 0 h0' (by rw [hsk]; omega)).1
    have hdle := decode_le s 0
    obtain ⟨m, hm⟩ : ∃ m, (Utf8.decode s 0).1 = m := ⟨_, rfl⟩
    obtain ⟨m2, hm2⟩ : ∃ m, 0 + (Utf8.decode s 0).2 = m := ⟨_, rfl⟩
    rw [hm, hm2] at hnext
    rw [hm] at hdec hdle
    have hfd : (w.iter s m2).cell? ⟨22, 36, none⟩ = some (.int .u16 36) := ((Fr.refl [] w).alloc _).cell hfold (by simp)
    clear hm hm2
    have hm1 : ((36 : Int) == (m : Int)) = false := by rw [beq_eq_false_iff_ne]; omega
    have hm3 : ((m : Int) == 36) = false := by rw [beq_eq_false_iff_ne]; omega
    have htne : ¬ t.size = 0 := by omega
    have hte : t.toList.isEmpty = false := by
      rw [Lib.toList_data]
      cases hh : t.data.toList with
      | nil => exact absurd (by rw [Lib.size_eq, hh]; rfl : t.size = 0) htne
      | cons => rfl
    by_cases hts : t.size < s.size
    all_goals
      go_enter Tryd.func102, Tryd.ntmps102
      go_wp2_with fail
      apply wp_scope_once 0 _ w rfl
      · go_wp2_with fail
        refine wp_loop_rounds 1 ?_
        rw [rounds_succ]
        go_wp2_with fail
        go_step3
        exact ⟨rfl, rfl, rfl⟩
      · go_wp2_with fail
        refine wp_loop_rounds 1 ?_
        rw [rounds_succ]
        go_wp2_with (first | (go_at_call 145; go_in) | (go_at_call 146; go_in))
        refine wp_loop_rounds 1 ?_
        rw [rounds_succ]
        go_wp2_with fail
        simp only [Exit.jump]
        go_ret
        exact ⟨rfl, (Fr.refl _ _).alloc _⟩
end Go.Proofs.YtkglmacaecmhdaaDoor
