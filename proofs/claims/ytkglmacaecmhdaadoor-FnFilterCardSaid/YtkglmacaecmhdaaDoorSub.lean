/- IsValidFilter for subscribing (f63), and laws.FnFilter. -/
import Derived.Test.YtkglmacaecmhdaaDoorPub
import Derived.Test.YtkglmacaecmhdaaDoorVfs
namespace Go.Proofs.YtkglmacaecmhdaaDoor
open Go.RowKit
set_option linter.unusedVariables false

theorem idx_first (c : UInt8) : ∀ l : List UInt8, c ∈ l → ∃ j : Nat, j < l.length ∧ Lib.indexByte l c = j ∧ l[j]? = some c ∧ c ∉ l.take j
  | [], h => by simp at h
  | x :: l, h => by
    by_cases hb : x = c
    · subst hb
      exact ⟨0, by simp, by simp [Lib.indexByte], rfl, by simp⟩
    · have hm : c ∈ l := by
        rcases List.mem_cons.1 h with h | h
        · exact absurd h.symm hb
        · exact h
      obtain ⟨j, h1, h2, h3, h4⟩ := idx_first c l hm
      refine ⟨j + 1, by simp; omega, ?_, by simpa using h3, ?_⟩
      · have hb' : (x == c) = false := by simp [hb]
        have h5 : (Lib.indexByte l c == -1) = false := by rw [beq_eq_false_iff_ne]; omega
        simp only [Lib.indexByte, hb', h5]
        simp
        omega
      · rw [List.take_succ_cons, List.mem_cons, not_or]
        exact ⟨fun e => hb e.symm, h4⟩

/-- No number sign ahead of the last place. -/
def lastH (l : List UInt8) : Bool := l.dropLast.all fun c => !(c == 35)
theorem lastH_iff (l : List UInt8) : lastH l = true ↔ (35 : UInt8) ∉ l.dropLast := by
  rw [lastH, List.all_eq_true]
  constructor
  · intro h hm
    have := h _ hm
    simp at this
  · intro h x hx
    have : ¬ x = 35 := fun e => h (e ▸ hx)
    simp [this]

theorem dropLast_cons_ne {α : Type} (x : α) {l : List α} (h : l ≠ []) : (x :: l).dropLast = x :: l.dropLast := by
  cases l with
  | nil => exact absurd rfl h
  | cons y l => rfl
theorem dropLast_append_cons {α : Type} (a : List α) (x : α) (l : List α) : (a ++ x :: l).dropLast = a ++ (x :: l).dropLast := by
  rw [List.dropLast_append_of_ne_nil (by simp)]

theorem hok_mem (L : List (List UInt8)) : hok L = true ↔ ∀ x ∈ L.dropLast, (35 : UInt8) ∉ x := by
  rw [hok, List.all_eq_true]
  constructor
  · intro h x hx hm
    have := List.all_eq_true.1 (h x hx) _ hm
    simp at this
  · intro h x hx
    rw [List.all_eq_true]
    intro c hc
    have : ¬ c = 35 := fun e => h x hx (e ▸ hc)
    simp [this]

theorem filter_law' : ∀ (l cur : List UInt8), alone (lvR cur l) = true → ((∀ x ∈ (lvR cur l).dropLast, (35 : UInt8) ∉ x) ↔ (35 : UInt8) ∉ (cur ++ l).dropLast)
  | [], cur, ha => by
    simp only [lvR, List.dropLast_singleton, List.append_nil]
    have h1 : lev1 cur = true := List.all_eq_true.1 ha cur (by simp [lvR])
    constructor
    · intro _ hm
      have hmem : (35 : UInt8) ∈ cur := (List.dropLast_sublist _).mem hm
      have := List.all_eq_true.1 h1 35 hmem
      have h2 : 0 < cur.dropLast.length := List.length_pos_of_mem hm
      rw [List.length_dropLast] at h2
      have h3 : 1 < cur.length := by omega
      simp [h3] at this
    · intro _ x hx
      simp at hx
  | y :: l, cur, ha => by
    rw [lvR] at ha ⊢
    split
    · rename_i hy
      rw [if_pos hy] at ha
      have ha' : alone (lvR [] l) = true := by
        rw [alone, List.all_cons, Bool.and_eq_true] at ha
        exact ha.2
      have ih := filter_law' l [] ha'
      rw [List.nil_append] at ih
      rw [dropLast_cons_ne _ (lvR_ne _ _), dropLast_append_cons]
      subst hy
      cases l with
      | nil =>
        simp [lvR]
      | cons z l =>
        rw [dropLast_cons_ne (47 : UInt8) (by simp)]
        constructor
        · intro h hm
          rcases List.mem_append.1 hm with hm | hm
          · exact h cur (by simp) hm
          · rcases List.mem_cons.1 hm with hm | hm
            · exact absurd hm (by decide)
            · exact (ih.1 fun x hx => h x (by simp [hx])) hm
        · intro h x hx
          rcases List.mem_cons.1 hx with rfl | hx
          · exact fun hm => h (by simp [hm])
          · exact ih.2 (fun hm => h (by simp [hm])) x hx
    · rename_i hy
      rw [if_neg hy] at ha
      have ih := filter_law' l (cur ++ [y]) ha
      rw [ih]
      simp
theorem filter_law (l : List UInt8) (ha : alone (lvs l) = true) : lastH l = hok (lvs l) := by
  have h := filter_law' l [] ha
  rw [List.nil_append] at h
  have h2 : (lastH l = true) ↔ (hok (lvs l) = true) := by rw [lastH_iff, hok_mem]; exact h.symm
  exact Bool.eq_iff_iff.2 h2

set_option maxRecDepth 20000 in
set_option maxHeartbeats 800000 in
theorem validSub_any (s : ByteArray) (h0 : 0 < s.size) (hs : s.size ≤ 1073741824) (hx : ∀ x, (bl s)[0]? = some x → x.toNat ≠ 36) (w : World) (hfold : w.cell? ⟨22, 36, none⟩ = some (.int .u16 36)) :
    Calls Tryd.prog 28 #[.string s, .bool false] w fun e w' => e = .returned (.bool (lastH (bl s))) ∧ Fr [] w w' := by
  have hs' : s.size ≤ 9223372036854775807 := by omega
  have h2 : ∀ w', Fr [] w w' → Calls Tryd.prog 102 #[strc (lev0 (bl s)), .string ⟨#[36, 83, 72, 65, 82, 69]⟩] w' fun e w'' => e = .returned (.bool false) ∧ Fr [] w w'' := fun w' hf =>
    eqf_dol ⟨(lev0 (bl s)).toArray⟩ _ (by show (lev0 (bl s)).length ≤ _; exact Nat.le_trans (List.takeWhile_sublist _).length_le hs) (fun x h => hx x (lev0_head h)) (by decide) (by decide) rfl w w' hf hfold
  have hi2 : ∀ w', Calls Tryd.prog 103 #[.string s, .int .u8 35] w' fun e w'' => e = .returned (.int .i64 (Lib.indexByte (bl s) 35)) ∧ w' = w'' := fun w' => indexByte_gen s 35 w'
  have hiso := fun w => isolate_any s hs' w
  have H2 := Lib.hid h2
  have HJ := Lib.hid hiso
  have hf1 : Fr [] w w := Fr.refl _ _
  clear h2 hiso hx hfold
  obtain ⟨l0, hl0⟩ : ∃ l0, lev0 (bl s) = l0 := ⟨_, rfl⟩
  rw [hl0] at H2 HJ
  clear hl0
  by_cases m35 : (35 : UInt8) ∈ bl s
  · obtain ⟨j, hj, hij, hjc, hjn⟩ := idx_first 35 _ m35
    rw [hij] at hi2
    rw [bl_len] at hj
    by_cases hlast : j + 1 = s.size
    · have hr : lastH (bl s) = true := by
        rw [lastH_iff, List.dropLast_eq_take, bl_len, show s.size - 1 = j by omega]
        exact hjn
      have hne : ((j : Int) == (s.size : Int) - 1) = true := by rw [beq_iff_eq]; omega
      rw [hr]
      clear m35 hij hjc hjn hr
      have I2 := Lib.hid hi2
      clear hi2
      go_enter Tryd.func28, Tryd.ntmps28
      go_wp2_with (go_at_call 63; go_in)
      refine (I2.out _).mono ?_
      rintro e w2 ⟨rfl, rfl⟩
      go_wp2_with fail
      refine (HJ.out _).mono ?_
      rintro e w2 ⟨⟨h, rfl⟩, rfl⟩
      unfold strc
      cases h
      · go_wp2_with fail
        refine (H2.out _ hf1).mono ?_
        rintro e w3 ⟨rfl, hf3⟩
        go_wp2_with fail
        go_ret
        exact ⟨rfl, hf3⟩
      · go_wp2_with fail
        refine (H2.out _ hf1).mono ?_
        rintro e w3 ⟨rfl, hf3⟩
        go_wp2_with fail
        go_ret
        exact ⟨rfl, hf3⟩
    · have hr : lastH (bl s) = false := by
        cases h : lastH (bl s) with
        | false => rfl
        | true =>
          refine absurd ?_ ((lastH_iff _).1 h)
          refine List.mem_of_getElem? (i := j) ?_
          rw [List.dropLast_eq_take, bl_len, List.getElem?_take_of_lt (by omega)]
          exact hjc
      have hne : ((j : Int) == (s.size : Int) - 1) = false := by rw [beq_eq_false_iff_ne]; omega
      rw [hr]
      clear m35 hij hjc hjn hr
      have I2 := Lib.hid hi2
      clear hi2
      go_enter Tryd.func28, Tryd.ntmps28
      go_wp2_with (go_at_call 63; go_in)
      refine (I2.out _).mono ?_
      rintro e w2 ⟨rfl, rfl⟩
      go_wp2_with fail
      go_ret
      exact ⟨rfl, hf1⟩
  · have hr : lastH (bl s) = true := (lastH_iff _).2 fun h => m35 ((List.dropLast_sublist _).mem h)
    rw [hr]
    rw [idx_none 35 _ m35] at hi2
    clear hr m35
    have I2 := Lib.hid hi2
    clear hi2
    go_enter Tryd.func28, Tryd.ntmps28
    go_wp2_with (go_at_call 63; go_in)
    refine (I2.out _).mono ?_
    rintro e w2 ⟨rfl, rfl⟩
    go_wp2_with fail
    refine (HJ.out _).mono ?_
    rintro e w2 ⟨⟨h, rfl⟩, rfl⟩
    unfold strc
    cases h
    · go_wp2_with fail
      refine (H2.out _ hf1).mono ?_
      rintro e w3 ⟨rfl, hf3⟩
      go_wp2_with fail
      go_ret
      exact ⟨rfl, hf3⟩
    · go_wp2_with fail
      refine (H2.out _ hf1).mono ?_
      rintro e w3 ⟨rfl, hf3⟩
      go_wp2_with fail
      go_ret
      exact ⟨rfl, hf3⟩
end Go.Proofs.YtkglmacaecmhdaaDoor
