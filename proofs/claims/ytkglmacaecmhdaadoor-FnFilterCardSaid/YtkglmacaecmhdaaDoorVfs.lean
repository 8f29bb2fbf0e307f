/- spec.ValidFilter, where all signs stand alone. -/
import Derived.Test.YtkglmacaecmhdaaDoorAlo
namespace Go.Proofs.YtkglmacaecmhdaaDoor
open Go.RowKit
set_option linter.unusedVariables false

/-- No number sign ahead of the last level. -/
def hok (L : List (List UInt8)) : Bool := L.dropLast.all fun x => x.all fun c => !(c == 35)
theorem hok_no {L : List (List UInt8)} {k : Nat} {x : List UInt8} (hx : L[k]? = some x) (hk : k + 1 < L.length) (hm : (35 : UInt8) ∈ x) : hok L = false := by
  rw [hok, List.all_eq_false]
  refine ⟨x, ?_, ?_⟩
  · refine List.mem_of_getElem? (i := k) ?_
    rw [List.dropLast_eq_take, List.getElem?_take_of_lt (by omega)]
    exact hx
  · rw [Bool.not_eq_true, List.all_eq_false]
    exact ⟨35, hm, by simp⟩
theorem hok_yes {L : List (List UInt8)} (h : ∀ i x, i < L.length → i + 1 < L.length → L[i]? = some x → (35 : UInt8) ∉ x) : hok L = true := by
  rw [hok, List.all_eq_true]
  intro x hx
  obtain ⟨i, hi⟩ := List.getElem?_of_mem hx
  have hi2 := (List.getElem?_eq_some_iff.1 hi).1
  rw [List.length_dropLast] at hi2
  rw [List.dropLast_eq_take, List.getElem?_take_of_lt (by omega)] at hi
  have := h i x (by omega) (by omega) hi
  rw [List.all_eq_true]
  intro c hc
  have : ¬ c = 35 := fun e => this (e ▸ hc)
  simp [this]

set_option maxRecDepth 20000 in
set_option maxHeartbeats 800000 in
theorem validSpec_any (s : ByteArray) (h0 : 0 < s.size) (hs : s.size ≤ 1073741824) (ha : alone (lvs (bl s)) = true) (w : World) : Calls Tryd.prog 29 #[.string s] w fun e w' => e = .returned (.bool (hok (lvs (bl s)) && textB s)) ∧ Fr [] w w' := by
  have hs' : s.size ≤ 9223372036854775807 := by omega
  have hte := toList_ne s h0
  have hlv := levels_any s hs
  have hLn : lvs (bl s) ≠ [] := lvR_ne _ _
  have hLl : ∀ x ∈ lvs (bl s), x.length ≤ s.size := fun x hx => by have := lvR_len _ _ _ hx; simp at this; exact this
  have hLp : 0 < (lvs (bl s)).length := List.length_pos_iff.2 hLn
  have htx := fun w => text_any s (by omega) w
  obtain ⟨tb, htb⟩ : ∃ b, textB s = b := ⟨_, rfl⟩
  rw [htb] at htx ⊢
  generalize lvs (bl s) = L at *
  obtain ⟨r, hr⟩ : ∃ r, hok L = r := ⟨_, rfl⟩
  rw [hr]
  have HR := Lib.hid hr
  have HL := Lib.hid hlv
  have HLL := Lib.hid hLl
  have HA := Lib.hid ha
  have HT := Lib.hid htx
  clear hr hlv hLl ha htx htb
  go_enter Tryd.func29, Tryd.ntmps29
  go_wp2_with fail
  refine (HL.out _).mono ?_
  rintro e w1 ⟨v, rfl, ho, hfre, hf⟩
  obtain ⟨g, cap, rfl, hc1, hc2, hcells⟩ := ho.cells hLn
  have HC := Lib.hid hcells
  have HF := Lib.hid hf
  have hL9 : L.length ≤ 9223372036854775807 := Nat.le_trans hc1 hc2
  clear ho hfre hf hcells hLn
  go_wp2_with fail
  go_loop [4, 5, 6, 11] (fun _ _ _ i => ∃ k : Nat, k ≤ L.length ∧ i = .int .i64 k ∧ Hid (∀ i x, i < k → i + 1 < L.length → L[i]? = some x → (35 : UInt8) ∉ x)) (fun _ _ _ i => L.length - (intOf i).toNat)
  case atStart => exact ⟨0, by omega, rfl, (fun i x h => absurd h (by omega) : ∀ i x, i < 0 → i + 1 < L.length → L[i]? = some x → (35 : UInt8) ∉ x)⟩
  case round =>
    obtain ⟨k, hk, rfl, hw⟩ := hrel
    by_cases hlt : k < L.length
    · obtain ⟨x, hx⟩ : ∃ x, L[k]? = some x := ⟨_, List.getElem?_eq_getElem hlt⟩
      have hcell := HC.out k x hx
      have HX := Lib.hid hx
      clear hx
      have hl1 : lev1 x = true := List.all_eq_true.1 HA.out x (List.mem_of_getElem? HX.out)
      have HL1 := Lib.hid hl1
      clear hl1
      obtain ⟨xs, hxs⟩ : ∃ xs : ByteArray, xs = ⟨x.toArray⟩ := ⟨_, rfl⟩
      rw [← hxs] at hcell
      have hxl : xs.size = x.length := by rw [hxs]; rfl
      have hxb : bl xs = x := by rw [hxs]; rfl
      have hx30 : x.length ≤ s.size := HLL.out x (List.mem_of_getElem? HX.out)
      have hx9 : xs.size ≤ 9223372036854775807 := by omega
      have HXL := Lib.hid hxl
      have HXB := Lib.hid hxb
      clear hxl hxb hxs
      go_wp2_with fail
      go_loop [6, 18] (fun _ j => ∃ m : Nat, m ≤ xs.size ∧ j = .int .i64 m ∧ Hid (k + 1 < L.length → (35 : UInt8) ∉ x.take m)) (fun _ j => xs.size - (intOf j).toNat)
      case atStart => exact ⟨0, by omega, rfl, (fun _ => by simp : k + 1 < L.length → (35 : UInt8) ∉ x.take 0)⟩
      case round =>
        obtain ⟨m, hm, rfl, hp⟩ := hrel
        by_cases hlt2 : m < xs.size
        · obtain ⟨c, hc⟩ := bl_some xs m hlt2
          have hsk := bl_at xs m c hc hlt2
          rw [HXB.out] at hc
          have HCC := Lib.hid hc
          clear hc
          have hc256 : c.toNat < 256 := c.toNat_lt
          have hone : (c == 43 || c == 35) = true → ¬ 1 < xs.size := fun h1 h2 => by
            have := HL1.out
            rw [lev1_no HCC.out (by rw [h1, ← HXL.out]; simp [h2])] at this
            cases this
          have hstep : c ≠ 35 → (k + 1 < L.length → (35 : UInt8) ∉ x.take (m + 1)) := fun hne hk1 => by
            rw [take_snoc' _ _ _ HCC.out, List.mem_append]
            rintro (h | h)
            · exact hp.out hk1 h
            · simp at h; exact hne h.symm
          have HST := Lib.hid hstep
          have HON := Lib.hid hone
          clear hstep hone
          by_cases hs1 : c.toNat = 43
          · have hce : c = 43 := UInt8.toNat_inj.1 hs1
            have h1 := HON.out (by rw [hce]; rfl)
            have HO := Lib.hid (HST.out (by rw [hce]; decide))
            go_wp2_with fail
            go_round
            case rel => exact ⟨m + 1, by omega, by go_num, HO.out⟩
            case measure => simp [intOf]; omega
          · have n1 : ((c.toNat : Int) == 43) = false := by rw [beq_eq_false_iff_ne]; omega
            by_cases hs2 : c.toNat = 35
            · have hce : c = 35 := UInt8.toNat_inj.1 hs2
              have h1 := HON.out (by rw [hce]; rfl)
              by_cases hk1 : k + 1 < L.length
              · have hno : hok L = false := hok_no HX.out hk1 (by rw [← hce]; exact List.mem_of_getElem? HCC.out)
                have HN := Lib.hid (hno.symm.trans HR.out)
                clear hno
                go_wp2_with fail
                go_ret
                exact ⟨ret_bool (by rw [← HN.out]; rfl), HF.out⟩
              · have HO := Lib.hid (fun h => absurd h hk1 : k + 1 < L.length → (35 : UInt8) ∉ x.take (m + 1))
                go_wp2_with fail
                go_round
                case rel => exact ⟨m + 1, by omega, by go_num, HO.out⟩
                case measure => simp [intOf]; omega
            · have n2 : ((c.toNat : Int) == 35) = false := by rw [beq_eq_false_iff_ne]; omega
              have HO := Lib.hid (HST.out (fun h => hs2 (by rw [h]; rfl)))
              go_wp2_with fail
              go_round
              case rel => exact ⟨m + 1, by omega, by go_num, HO.out⟩
              case measure => simp [intOf]; omega
        · have hok' : ∀ i y, i < k + 1 → i + 1 < L.length → L[i]? = some y → (35 : UInt8) ∉ y := by
            intro i y hi hi1 hy
            by_cases he : i = k
            · subst he
              rw [HX.out] at hy
              cases hy
              have := hp.out hi1
              rwa [List.take_of_length_le (by rw [← HXL.out]; omega)] at this
            · exact hw.out i y (by omega) hi1 hy
          have HO := Lib.hid hok'
          clear hok'
          go_wp2_with fail
          go_round
          case rel => exact ⟨k + 1, by omega, by go_num, HO.out⟩
          case measure => simp [intOf]; omega
    · have hyes : hok L = true := hok_yes fun i x hi => hw.out i x (by omega)
      have HN := Lib.hid (hyes.symm.trans HR.out)
      clear hyes
      go_wp2_with fail
      refine (HT.out _).mono ?_
      rintro e w2 ⟨rfl, pos, rfl⟩
      go_wp2_with fail
      go_ret
      exact ⟨ret_bool (by rw [← HN.out]; simp), HF.out.alloc _⟩
end Go.Proofs.YtkglmacaecmhdaaDoor
