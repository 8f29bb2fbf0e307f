/- spec.Alone, spec.ValidFilter. -/
import Derived.Test.YtkglmacaecmhdaaDoorLev
import Derived.Test.YtkglmacaecmhdaaDoorTop
namespace Go.Proofs.YtkglmacaecmhdaaDoor
open Go.RowKit
set_option linter.unusedVariables false

/-- The strings of an owned row. -/
theorem OwnS.cells {w : World} {base : Nat} {v : Value} {L : List (List UInt8)} (h : OwnS w base v L) (hL : L ≠ []) :
    ∃ g cap, v = .slice (some ⟨g, 0, none⟩) L.length cap ∧ L.length ≤ cap ∧ cap ≤ maxLen ∧ ∀ k x, L[k]? = some x → w.cell? ⟨g, k, none⟩ = some (.string ⟨x.toArray⟩) := by
  obtain ⟨h1, h2⟩ := h
  rcases h2 with ⟨_, h2⟩ | ⟨g, cap, cs, rfl, hg, hh, h3, h4, h5, h6⟩
  · simp at h2; exact absurd h2 hL
  refine ⟨g, cap, rfl, h3, h4, fun k x hk => ?_⟩
  have hk1 := (List.getElem?_eq_some_iff.1 hk).1
  rw [cell_of_block hh, ← Array.getElem?_toList]
  have : (cs.toList.take (L.length * 1))[k]? = some (strc x) := by rw [h6, List.getElem?_map, hk]; rfl
  rwa [List.getElem?_take_of_lt (by omega)] at this

theorem lvR_ne (cur l : List UInt8) : lvR cur l ≠ [] := by
  obtain ⟨rest, h⟩ := lvR_head l cur
  rw [h]; simp

theorem lvR_len : ∀ (l cur x : List UInt8), x ∈ lvR cur l → x.length ≤ cur.length + l.length
  | [], cur, x, h => by simp [lvR] at h; subst h; simp
  | y :: l, cur, x, h => by
    rw [lvR] at h
    split at h
    · rcases List.mem_cons.1 h with rfl | h
      · simp
      · have := lvR_len l [] x h
        simp at this ⊢
        omega
    · have := lvR_len l _ x h
      simp at this ⊢
      omega

/-- Do the signs of a level stand alone? -/
def lev1 (x : List UInt8) : Bool := x.all fun c => !((c == 43 || c == 35) && decide (1 < x.length))
def sgn (c : UInt8) : Bool := c == 43 || c == 35
def part1 (x : List UInt8) (m : Nat) : Bool := (x.take m).all fun c => !((c == 43 || c == 35) && decide (1 < x.length))
theorem part1_succ {x : List UInt8} {m : Nat} {c : UInt8} (h : x[m]? = some c) (hp : part1 x m = true) (hc : ((c == 43 || c == 35) && decide (1 < x.length)) = false) : part1 x (m + 1) = true := by
  rw [part1, take_snoc' _ _ _ h, List.all_append]
  rw [part1] at hp
  rw [hp]
  simp only [List.all_cons, List.all_nil, hc]
  rfl
theorem lev1_no {x : List UInt8} {m : Nat} {c : UInt8} (h : x[m]? = some c) (hc : ((c == 43 || c == 35) && decide (1 < x.length)) = true) : lev1 x = false := by
  rw [lev1, List.all_eq_false]
  exact ⟨c, List.mem_of_getElem? h, by rw [hc]; simp⟩
def alone (L : List (List UInt8)) : Bool := L.all lev1

set_option maxRecDepth 20000 in
set_option maxHeartbeats 800000 in
theorem alone_any (s : ByteArray) (h0 : 0 < s.size) (hs : s.size ≤ 1073741824) (w : World) : Calls Tryd.prog 27 #[.string s] w fun e w' => e = .returned (.bool (alone (lvs (bl s)))) ∧ Fr [] w w' := by
  have hs' : s.size ≤ 9223372036854775807 := by omega
  have hte := toList_ne s h0
  have hlv := levels_any s hs
  have hLn : lvs (bl s) ≠ [] := lvR_ne _ _
  have hLl : ∀ x ∈ lvs (bl s), x.length ≤ s.size := fun x hx => by have := lvR_len _ _ _ hx; simp at this; exact this
  generalize lvs (bl s) = L at *
  obtain ⟨r, hr⟩ : ∃ r, alone L = r := ⟨_, rfl⟩
  rw [hr]
  have HR := Lib.hid hr
  have HL := Lib.hid hlv
  have HLL := Lib.hid hLl
  clear hr hlv hLl
  go_enter Tryd.func27, Tryd.ntmps27
  go_wp2_with fail
  refine (HL.out _).mono ?_
  rintro e w1 ⟨v, rfl, ho, hfre, hf⟩
  obtain ⟨g, cap, rfl, hc1, hc2, hcells⟩ := ho.cells hLn
  have HC := Lib.hid hcells
  have HF := Lib.hid hf
  have hL9 : L.length ≤ 9223372036854775807 := Nat.le_trans hc1 hc2
  clear ho hfre hf hcells hLn
  go_wp2_with fail
  go_loop [4, 5, 9] (fun _ _ i => ∃ k : Nat, k ≤ L.length ∧ i = .int .i64 k ∧ Hid (alone (L.take k) = true)) (fun _ _ i => L.length - (intOf i).toNat)
  case atStart => exact ⟨0, by omega, rfl, (show alone (L.take 0) = true from rfl)⟩
  case round =>
    obtain ⟨k, hk, rfl, hw⟩ := hrel
    by_cases hlt : k < L.length
    · obtain ⟨x, hx⟩ : ∃ x, L[k]? = some x := ⟨_, List.getElem?_eq_getElem hlt⟩
      have hcell := HC.out k x hx
      have HX := Lib.hid hx
      clear hx
      obtain ⟨xs, hxs⟩ : ∃ xs : ByteArray, xs = ⟨x.toArray⟩ := ⟨_, rfl⟩
      rw [← hxs] at hcell
      have hxl : xs.size = x.length := by rw [hxs]; rfl
      have hxb : bl xs = x := by rw [hxs]; rfl
      have hx30 : x.length ≤ s.size := HLL.out x (List.mem_of_getElem? HX.out)
      have hx9 : xs.size ≤ 9223372036854775807 := by omega
      have HXL := Lib.hid hxl
      have HXB := Lib.hid hxb
      clear hxl hxb hxs
      go_wp2_with fail
      go_loop [5, 15] (fun _ j => ∃ m : Nat, m ≤ xs.size ∧ j = .int .i64 m ∧ Hid (part1 x m = true)) (fun _ j => xs.size - (intOf j).toNat)
      case atStart => exact ⟨0, by omega, rfl, (show part1 x 0 = true from rfl)⟩
      case round =>
        obtain ⟨m, hm, rfl, hp⟩ := hrel
        by_cases hlt2 : m < xs.size
        · obtain ⟨c, hc⟩ := bl_some xs m hlt2
          have hsk := bl_at xs m c hc hlt2
          rw [HXB.out] at hc
          have HCC := Lib.hid hc
          clear hc
          have hc256 : c.toNat < 256 := c.toNat_lt
          by_cases hs1 : c.toNat = 43
          · have hce : c = 43 := UInt8.toNat_inj.1 hs1
            by_cases h1 : 1 < xs.size
            · have hno : alone L = false := by
                rw [alone, List.all_eq_false]
                exact ⟨x, List.mem_of_getElem? HX.out, by rw [lev1_no HCC.out (by rw [hce, ← HXL.out]; simp [h1])]; simp⟩
              have HN := Lib.hid (hno.symm.trans HR.out)
              clear hno
              go_wp2_with fail
              go_ret
              exact ⟨ret_bool HN.out, HF.out⟩
            · have hok := part1_succ HCC.out hp.out (by rw [← HXL.out]; simp [h1])
              have HO := Lib.hid hok
              clear hok
              go_wp2_with fail
              go_round
              case rel => exact ⟨m + 1, by omega, by go_num, HO.out⟩
              case measure => simp [intOf]; omega
          · by_cases hs2 : c.toNat = 35
            · have n1 : ((c.toNat : Int) == 43) = false := by rw [beq_eq_false_iff_ne]; omega
              have hce : c = 35 := UInt8.toNat_inj.1 hs2
              by_cases h1 : 1 < xs.size
              · have hno : alone L = false := by
                  rw [alone, List.all_eq_false]
                  exact ⟨x, List.mem_of_getElem? HX.out, by rw [lev1_no HCC.out (by rw [hce, ← HXL.out]; simp [h1])]; simp⟩
                have HN := Lib.hid (hno.symm.trans HR.out)
                clear hno
                go_wp2_with fail
                go_ret
                exact ⟨ret_bool HN.out, HF.out⟩
              · have hok := part1_succ HCC.out hp.out (by rw [← HXL.out]; simp [h1])
                have HO := Lib.hid hok
                clear hok
                go_wp2_with fail
                go_round
                case rel => exact ⟨m + 1, by omega, by go_num, HO.out⟩
                case measure => simp [intOf]; omega
            · have n1 : ((c.toNat : Int) == 43) = false := by rw [beq_eq_false_iff_ne]; omega
              have n2 : ((c.toNat : Int) == 35) = false := by rw [beq_eq_false_iff_ne]; omega
              have hok := part1_succ HCC.out hp.out (by
                have e1 : ¬ c = 43 := fun h => hs1 (by rw [h]; rfl)
                have e2 : ¬ c = 35 := fun h => hs2 (by rw [h]; rfl)
                simp [e1, e2])
              have HO := Lib.hid hok
              clear hok
              go_wp2_with fail
              go_round
              case rel => exact ⟨m + 1, by omega, by go_num, HO.out⟩
              case measure => simp [intOf]; omega
        · have hok : alone (L.take (k + 1)) = true := by
            have h1 : lev1 x = true := by
              have := hp.out
              rwa [part1, List.take_of_length_le (by rw [← HXL.out]; omega)] at this
            have h2 := hw.out
            rw [alone] at h2 ⊢
            rw [List.take_add_one, HX.out, Option.toList_some, List.all_append, h2]
            simp [h1]
          have HO := Lib.hid hok
          clear hok
          go_wp2_with fail
          go_round
          case rel => exact ⟨k + 1, by omega, by go_num, HO.out⟩
          case measure => simp [intOf]; omega
    · have hyes : alone L = true := by
        have := hw.out
        rwa [List.take_of_length_le (by omega)] at this
      have HN := Lib.hid (hyes.symm.trans HR.out)
      clear hyes
      go_wp2_with fail
      go_ret
      exact ⟨ret_bool (by rw [← HN.out]), HF.out⟩
end Go.Proofs.YtkglmacaecmhdaaDoor
