/- IsValidFilter for publishing (f63), and laws.FnTopicName. -/
import Derived.Test.YtkglmacaecmhdaaDoorTop
namespace Go.Proofs.YtkglmacaecmhdaaDoor
open Go.RowKit
set_option linter.unusedVariables false

set_option maxRecDepth 20000 in
theorem indexByte_gen (s : ByteArray) (c : Int) (w : World) : Calls Tryd.prog 103 #[.string s, .int .u8 c] w fun e w' => e = .returned (.int .i64 (Lib.indexByte (bl s) c.toNat.toUInt8)) ∧ w = w' := by
  go_enter Tryd.func103, Tryd.ntmps103
  go_wp2_with (go_at_call 147; go_in)
  rw [run_callFunc_extern Tryd.func170 (by kernel_rfl) (by kernel_rfl) (by kernel_rfl) (e := Extern.BytealgIndexByte.indexByte) (by kernel_rfl), Lib.run_indexByteString]
  simp only [Result.andThen]
  rw [Oper.upon_value]
  go_wp2
  go_ret
  exact ⟨rfl, rfl⟩

theorem idx_none (c : UInt8) : ∀ l : List UInt8, c ∉ l → Lib.indexByte l c = -1
  | [], _ => rfl
  | x :: l, h => by
    simp only [List.mem_cons, not_or] at h
    have hb : (x == c) = false := by simp; exact fun e => h.1 e.symm
    simp [Lib.indexByte, hb, idx_none c l h.2]
theorem idx_some (c : UInt8) : ∀ l : List UInt8, c ∈ l → 0 ≤ Lib.indexByte l c
  | [], h => by simp at h
  | x :: l, h => by
    by_cases hb : x = c
    · simp [Lib.indexByte, hb]
    · have hm : c ∈ l := by
        rcases List.mem_cons.1 h with h | h
        · exact absurd h.symm hb
        · exact h
      have ih := idx_some c l hm
      have hb' : (x == c) = false := by simp [hb]
      have h2 : (Lib.indexByte l c == -1) = false := by rw [beq_eq_false_iff_ne]; omega
      simp only [Lib.indexByte, hb', h2]
      simp
      omega
theorem noSign_iff (l : List UInt8) : noSign l = true ↔ (43 : UInt8) ∉ l ∧ (35 : UInt8) ∉ l := by
  rw [noSign, List.all_eq_true]
  constructor
  · intro h
    exact ⟨fun hm => by have := h _ hm; simp at this, fun hm => by have := h _ hm; simp at this⟩
  · rintro ⟨h1, h2⟩ x hx
    have e1 : ¬ x = 43 := fun e => h1 (e ▸ hx)
    have e2 : ¬ x = 35 := fun e => h2 (e ▸ hx)
    simp [e1, e2]
theorem lev0_head {l : List UInt8} {x : UInt8} (h : (lev0 l)[0]? = some x) : l[0]? = some x := by
  cases l with
  | nil => simp [lev0] at h
  | cons y l =>
    by_cases hy : y = 47
    · subst hy; simp [lev0] at h
    · simp [lev0, hy] at h
      simp [h]

/-- EqualFold at the texts of this law. -/
theorem eqf_dol (s t : ByteArray) (hs : s.size ≤ 1073741824) (hx : ∀ x, (bl s)[0]? = some x → x.toNat ≠ 36) (ht : t.size ≤ 1073741824) (ht0 : 0 < t.size) (tn : (bl t)[0]? = some 36) (w0 w : World) (hf : Fr [] w0 w) (hfold : w0.cell? ⟨22, 36, none⟩ = some (.int .u16 36)) :
    Calls Tryd.prog 102 #[.string s, .string t] w fun e w' => e = .returned (.bool false) ∧ Fr [] w0 w' :=
  (eqf_no s t hs ht ht0 tn hx w (hf.cell hfold (by simp))).mono fun e w' ⟨he, h⟩ => ⟨he, hf.trans h (by simp)⟩

set_option maxRecDepth 20000 in
set_option maxHeartbeats 800000 in
theorem validPub_any (s : ByteArray) (hs : s.size ≤ 1073741824) (hx : ∀ x, (bl s)[0]? = some x → x.toNat ≠ 36) (w : World) (hfold : w.cell? ⟨22, 36, none⟩ = some (.int .u16 36)) :
    Calls Tryd.prog 28 #[.string s, .bool true] w fun e w' => e = .returned (.bool (noSign (bl s))) ∧ Fr [] w w' := by
  have hs' : s.size ≤ 9223372036854775807 := by omega
  have h1 : ∀ w', Fr [] w w' → Calls Tryd.prog 102 #[.string (s.extract 0 4), .string ⟨#[36, 83, 89, 83]⟩] w' fun e w'' => e = .returned (.bool false) ∧ Fr [] w w'' := fun w' hf =>
    eqf_dol _ _ (by rw [Lib.size_eq, Lib.extract_data]; simp; omega) (fun x h => hx x (by
      have e : bl (s.extract 0 4) = ((bl s).drop 0).take (4 - 0) := Lib.extract_data s 0 4
      rw [e, List.getElem?_take_of_lt (by omega), List.drop_zero] at h
      exact h)) (by decide) (by decide) rfl w w' hf hfold
  have h2 : ∀ w', Fr [] w w' → Calls Tryd.prog 102 #[strc (lev0 (bl s)), .string ⟨#[36, 83, 72, 65, 82, 69]⟩] w' fun e w'' => e = .returned (.bool false) ∧ Fr [] w w'' := fun w' hf =>
    eqf_dol ⟨(lev0 (bl s)).toArray⟩ _ (by show (lev0 (bl s)).length ≤ _; exact Nat.le_trans (List.takeWhile_sublist _).length_le hs) (fun x h => hx x (lev0_head h)) (by decide) (by decide) rfl w w' hf hfold
  have hi1 : ∀ w', Calls Tryd.prog 103 #[.string s, .int .u8 43] w' fun e w'' => e = .returned (.int .i64 (Lib.indexByte (bl s) 43)) ∧ w' = w'' := fun w' => indexByte_gen s 43 w'
  have hi2 : ∀ w', Calls Tryd.prog 103 #[.string s, .int .u8 35] w' fun e w'' => e = .returned (.int .i64 (Lib.indexByte (bl s) 35)) ∧ w' = w'' := fun w' => indexByte_gen s 35 w'
  have hiso := fun w => isolate_any s hs' w
  have H1 := Lib.hid h1
  have H2 := Lib.hid h2
  have HJ := Lib.hid hiso
  clear h1 h2 hiso hx hfold
  obtain ⟨l0, hl0⟩ : ∃ l0, lev0 (bl s) = l0 := ⟨_, rfl⟩
  rw [hl0] at H2 HJ
  clear hl0
  by_cases m43 : (43 : UInt8) ∈ bl s
  · have hr : noSign (bl s) = false := by
      cases h : noSign (bl s) with
      | false => rfl
      | true => exact absurd m43 ((noSign_iff _).1 h).1
    have hp := idx_some 43 _ m43
    rw [hr]
    obtain ⟨i1, hi⟩ : ∃ i, Lib.indexByte (bl s) 43 = i := ⟨_, rfl⟩
    rw [hi] at hi1 hp
    have I1 := Lib.hid hi1
    have I2 := Lib.hid hi2
    clear hi hi1 hi2 hr m43
    by_cases h4 : 4 ≤ s.size
    · go_enter Tryd.func28, Tryd.ntmps28
      go_wp2_with (go_at_call 63; go_in)
      refine (H1.out _ (Fr.refl _ _)).mono ?_
      rintro e w1 ⟨rfl, hf1⟩
      go_wp2_with fail
      refine (I1.out _).mono ?_
      rintro e w2 ⟨rfl, rfl⟩
      go_wp2_with fail
      go_ret
      exact ⟨rfl, hf1⟩
    · go_enter Tryd.func28, Tryd.ntmps28
      go_wp2_with (go_at_call 63; go_in)
      have hf1 : Fr [] w w := Fr.refl _ _
      refine (I1.out _).mono ?_
      rintro e w2 ⟨rfl, rfl⟩
      go_wp2_with fail
      go_ret
      exact ⟨rfl, hf1⟩
  by_cases m35 : (35 : UInt8) ∈ bl s
  · have hr : noSign (bl s) = false := by
      cases h : noSign (bl s) with
      | false => rfl
      | true => exact absurd m35 ((noSign_iff _).1 h).2
    have hp := idx_some 35 _ m35
    rw [hr]
    rw [idx_none 43 _ m43] at hi1
    obtain ⟨i1, hi⟩ : ∃ i, Lib.indexByte (bl s) 35 = i := ⟨_, rfl⟩
    rw [hi] at hi2 hp
    have I1 := Lib.hid hi1
    have I2 := Lib.hid hi2
    clear hi hi1 hi2 hr m43 m35
    by_cases h4 : 4 ≤ s.size
    · go_enter Tryd.func28, Tryd.ntmps28
      go_wp2_with (go_at_call 63; go_in)
      refine (H1.out _ (Fr.refl _ _)).mono ?_
      rintro e w1 ⟨rfl, hf1⟩
      go_wp2_with fail
      refine (I1.out _).mono ?_
      rintro e w2 ⟨rfl, rfl⟩
      go_wp2_with fail
      refine (I2.out _).mono ?_
      rintro e w2 ⟨rfl, rfl⟩
      go_wp2_with fail
      go_ret
      exact ⟨rfl, hf1⟩
    · go_enter Tryd.func28, Tryd.ntmps28
      go_wp2_with (go_at_call 63; go_in)
      have hf1 : Fr [] w w := Fr.refl _ _
      refine (I1.out _).mono ?_
      rintro e w2 ⟨rfl, rfl⟩
      go_wp2_with fail
      refine (I2.out _).mono ?_
      rintro e w2 ⟨rfl, rfl⟩
      go_wp2_with fail
      go_ret
      exact ⟨rfl, hf1⟩
  · have hr : noSign (bl s) = true := (noSign_iff _).2 ⟨m43, m35⟩
    rw [hr]
    rw [idx_none 43 _ m43] at hi1
    rw [idx_none 35 _ m35] at hi2
    have I1 := Lib.hid hi1
    have I2 := Lib.hid hi2
    clear hi1 hi2 hr m43 m35
    by_cases h4 : 4 ≤ s.size
    · go_enter Tryd.func28, Tryd.ntmps28
      go_wp2_with (go_at_call 63; go_in)
      refine (H1.out _ (Fr.refl _ _)).mono ?_
      rintro e w1 ⟨rfl, hf1⟩
      go_wp2_with fail
      refine (I1.out _).mono ?_
      rintro e w2 ⟨rfl, rfl⟩
      go_wp2_with fail
      refine (I2.out _).mono ?_
      rintro e w2 ⟨rfl, rfl⟩
      go_wp2_with fail
      refine (I2.out _).mono ?_
      rintro e w2 ⟨rfl, rfl⟩
      go_wp2_with fail
      refine (HJ.out _).mono ?_
      rintro e w2 ⟨⟨h, rfl⟩, rfl⟩
      unfold strc
      cases h
      · go_wp2_with fail
        refine (H2.out _ hf1).mono ?_
        rintro e w3 ⟨rfl, hf3⟩
        go_wp2_with fail
        go_ret
        exact ⟨rfl, hf3⟩
      · go_wp2_with fail
        refine (H2.out _ hf1).mono ?_
        rintro e w3 ⟨rfl, hf3⟩
        go_wp2_with fail
        go_ret
        exact ⟨rfl, hf3⟩
    · go_enter Tryd.func28, Tryd.ntmps28
      go_wp2_with (go_at_call 63; go_in)
      have hf1 : Fr [] w w := Fr.refl _ _
      refine (I1.out _).mono ?_
      rintro e w2 ⟨rfl, rfl⟩
      go_wp2_with fail
      refine (I2.out _).mono ?_
      rintro e w2 ⟨rfl, rfl⟩
      go_wp2_with fail
      refine (I2.out _).mono ?_
      rintro e w2 ⟨rfl, rfl⟩
      go_wp2_with fail
      refine (HJ.out _).mono ?_
      rintro e w2 ⟨⟨h, rfl⟩, rfl⟩
      unfold strc
      cases h
      · go_wp2_with fail
        refine (H2.out _ hf1).mono ?_
        rintro e w3 ⟨rfl, hf3⟩
        go_wp2_with fail
        go_ret
        exact ⟨rfl, hf3⟩
      · go_wp2_with fail
        refine (H2.out _ hf1).mono ?_
        rintro e w3 ⟨rfl, hf3⟩
        go_wp2_with fail
        go_ret
        exact ⟨rfl, hf3⟩
end Go.Proofs.YtkglmacaecmhdaaDoor
