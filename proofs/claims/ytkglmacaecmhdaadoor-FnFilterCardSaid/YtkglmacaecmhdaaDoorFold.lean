/- strings.EqualFold over ASCII. -/
import Derived.Test.YtkglmacaecmhdaaDoorIso
import Derived.Test.YtkglmacaecmhdaaDoorNum
import Derived.WalkMore
namespace Go.Proofs.YtkglmacaecmhdaaDoor
open Go.RowKit
set_option linter.unusedVariables false

/-- A letter made small. -/
def lowN (n : Nat) : Nat := if 65 ≤ n ∧ n ≤ 90 then n + 32 else n
def lowL (l : List UInt8) : List Nat := l.map fun x => lowN x.toNat

theorem or_lt128 (a b : Nat) (ha : a < 128) (hb : b < 128) : ∃ z : Nat, z < 128 ∧ bits .or .u8 (a : Int) (b : Int) = (z : Int) :=
  ⟨a ||| b, Nat.or_lt_two_pow (n := 7) ha hb, u8_or_nat a b (by omega) (by omega)⟩

theorem lowL_take (l : List UInt8) (k : Nat) (x : UInt8) (h : l[k]? = some x) : lowL (l.take (k + 1)) = lowL (l.take k) ++ [lowN x.toNat] := by
  rw [take_snoc' _ _ _ h, lowL, List.map_append]
  rfl
theorem fold_step {s t : List UInt8} {k : Nat} {x y : UInt8} (hx : s[k]? = some x) (hy : t[k]? = some y) (h : lowL (s.take k) = lowL (t.take k)) (hl : lowN x.toNat = lowN y.toNat) : lowL (s.take (k + 1)) = lowL (t.take (k + 1)) := by
  rw [lowL_take _ _ _ hx, lowL_take _ _ _ hy, h, hl]
theorem fold_no {s t : List UInt8} {k : Nat} {x y : UInt8} {r : Bool} (hr : (lowL s == lowL t) = r) (hx : s[k]? = some x) (hy : t[k]? = some y) (hl : lowN x.toNat ≠ lowN y.toNat) : false = r := by
  rw [← hr, eq_comm, beq_eq_false_iff_ne]
  intro h
  have := congrArg (·[k]?) h
  simp only [lowL, List.getElem?_map, hx, hy, Option.map_some, Option.some.injEq] at this
  exact hl this

theorem fold_end {s t : List UInt8} {k : Nat} {r : Bool} (hr : (lowL s == lowL t) = r) (h : lowL (s.take k) = lowL (t.take k)) (hs : k ≤ s.length) (ht : k ≤ t.length) (he : ¬ (k < s.length ∧ k < t.length)) : ((s.length : Int) == (t.length : Int)) = r := by
  rw [← hr]
  by_cases hl : s.length = t.length
  · rw [List.take_of_length_le (by omega), List.take_of_length_le (by omega)] at h
    rw [h, hl]
    simp
  · have h1 : ((s.length : Int) == (t.length : Int)) = false := by rw [beq_eq_false_iff_ne]; omega
    have h2 : (lowL s == lowL t) = false := by
      rw [beq_eq_false_iff_ne]
      intro h
      have := congrArg List.length h
      simp [lowL] at this
      exact hl this
    rw [h1, h2]

set_option maxRecDepth 20000 in
set_option maxHeartbeats 800000 in
/-- EqualFold over ASCII: alike, once the letters are small. -/
theorem equalFold_any (s t : ByteArray) (hs : s.size ≤ 1099511627776) (ht : t.size ≤ 1099511627776) (hsa : asc (bl s) = true) (hta : asc (bl t) = true) (w : World) :
    Calls Tryd.prog 102 #[.string s, .string t] w fun e w' => e = .returned (.bool (lowL (bl s) == lowL (bl t))) ∧ w = w' := by
  obtain ⟨r, hr⟩ : ∃ r, (lowL (bl s) == lowL (bl t)) = r := ⟨_, rfl⟩
  rw [hr]
  have HR := Lib.hid hr
  have AS := Lib.hid hsa
  have AT := Lib.hid hta
  clear hr hsa hta
  have hs' : s.size ≤ 9223372036854775807 := by omega
  have ht' : t.size ≤ 9223372036854775807 := by omega
  by_cases hts : t.size < s.size
  · go_enter Tryd.func102, Tryd.ntmps102
    go_wp2_with fail
    go_step3
    go_wp2_with fail
    go_loop [5, 7, 8] (fun i _ _ => ∃ k : Nat, k ≤ s.size ∧ k ≤ t.size ∧ i = .int .i64 k ∧ Hid (lowL ((bl s).take k) = lowL ((bl t).take k))) (fun i _ _ => s.size - (intOf i).toNat)
    case atStart => exact ⟨0, by omega, by omega, rfl, rfl⟩
    case round =>
      obtain ⟨k, hk, hk2, rfl, hw⟩ := hrel
      by_cases h1 : k < s.size
      · by_cases h2 : k < t.size
        · obtain ⟨x, hx⟩ := bl_some s k h1
          obtain ⟨y, hy⟩ := bl_some t k h2
          have hsk := bl_at s k x hx h1
          have htk := bl_at t k y hy h2
          have hxa : x.toNat < 128 := by have := List.all_eq_true.1 AS.out x (List.mem_of_getElem? hx); simpa using this
          have hya : y.toNat < 128 := by have := List.all_eq_true.1 AT.out y (List.mem_of_getElem? hy); simpa using this
          obtain ⟨z, hz, ho⟩ := or_lt128 x.toNat y.toNat hxa hya
          have HX := Lib.hid hx
          have HY := Lib.hid hy
          clear hx hy
          go_wp2_with fail
          all_goals simp only [beq_iff_eq, beq_eq_false_iff_ne, ne_eq] at *
          all_goals first
            | (refine ⟨⟨k + 1, by omega, by omega, by go_num, fold_step HX.out HY.out hw.out (by unfold lowN; split <;> split <;> omega)⟩, by simp [intOf]; omega⟩)
            | (go_ret; exact ⟨ret_bool (fold_no HR.out HX.out HY.out (by unfold lowN; split <;> split <;> omega)), rfl⟩)
        · have he := fold_end HR.out hw.out (by rw [bl_len]; omega) (by rw [bl_len]; omega) (by rw [bl_len, bl_len]; omega)
          rw [bl_len, bl_len] at he
          have HE := Lib.hid he
          clear he
          go_wp2_with fail
          go_ret
          exact ⟨ret_bool HE.out, rfl⟩
      · exfalso; omega
  · go_enter Tryd.func102, Tryd.ntmps102
    go_wp2_with fail
    go_step3
    go_wp2_with fail
    go_loop [5, 7, 8] (fun i _ _ => ∃ k : Nat, k ≤ s.size ∧ k ≤ t.size ∧ i = .int .i64 k ∧ Hid (lowL ((bl s).take k) = lowL ((bl t).take k))) (fun i _ _ => s.size - (intOf i).toNat)
    case atStart => exact ⟨0, by omega, by omega, rfl, rfl⟩
    case round =>
      obtain ⟨k, hk, hk2, rfl, hw⟩ := hrel
      by_cases h1 : k < s.size
      · by_cases h2 : k < t.size
        · obtain ⟨x, hx⟩ := bl_some s k h1
          obtain ⟨y, hy⟩ := bl_some t k h2
          have hsk := bl_at s k x hx h1
          have htk := bl_at t k y hy h2
          have hxa : x.toNat < 128 := by have := List.all_eq_true.1 AS.out x (List.mem_of_getElem? hx); simpa using this
          have hya : y.toNat < 128 := by have := List.all_eq_true.1 AT.out y (List.mem_of_getElem? hy); simpa using this
          obtain ⟨z, hz, ho⟩ := or_lt128 x.toNat y.toNat hxa hya
          have HX := Lib.hid hx
          have HY := Lib.hid hy
          clear hx hy
          go_wp2_with fail
          all_goals simp only [beq_iff_eq, beq_eq_false_iff_ne, ne_eq] at *
          all_goals first
            | (refine ⟨⟨k + 1, by omega, by omega, by go_num, fold_step HX.out HY.out hw.out (by unfold lowN; split <;> split <;> omega)⟩, by simp [intOf]; omega⟩)
            | (go_ret; exact ⟨ret_bool (fold_no HR.out HX.out HY.out (by unfold lowN; split <;> split <;> omega)), rfl⟩)
        · exfalso; omega
      · have he := fold_end HR.out hw.out (by rw [bl_len]; omega) (by rw [bl_len]; omega) (by rw [bl_len, bl_len]; omega)
        rw [bl_len, bl_len] at he
        have HE := Lib.hid he
        clear he
        go_wp2_with fail
        go_ret
        exact ⟨ret_bool HE.out, rfl⟩
end Go.Proofs.YtkglmacaecmhdaaDoor
