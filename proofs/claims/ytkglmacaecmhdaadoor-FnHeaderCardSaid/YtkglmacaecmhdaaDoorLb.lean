/- laws.FnLength: the walk of the law, for every input. -/
import Derived.Test.YtkglmacaecmhdaaDoorBuf
import Derived.Test.YtkglmacaecmhdaaDoorLa
import Derived.Test.YtkglmacaecmhdaaDoorSeg
namespace Go.Proofs.YtkglmacaecmhdaaDoor
open Go.RowKit
set_option linter.unusedVariables false

theorem lenGo_ne (k n : Nat) : lenGo k n ≠ [] := by
  cases k with
  | zero => simp [lenGo]
  | succ k => rw [lenGo]; split <;> simp
/-- What is written is read: the value, and how many bytes it has. -/
theorem vbiP_lenGo : ∀ (k j i m n : Nat) (behind : List UInt8), n < 128 ^ (j + 1) → j ≤ k → vbiP (j + 1) i m (lenGo k n ++ behind) = some (m + n * 128 ^ i, i + (lenGo k n).length)
  | 0, j, i, m, n, behind, hn, hj => by
    obtain rfl : j = 0 := by omega
    have hn' : n < 128 := by simpa using hn
    simp only [lenGo, List.cons_append, List.nil_append, vbiP]
    rw [ofNat_toNat _ (by omega), if_pos hn', Nat.mod_eq_of_lt hn']
    simp
  | k + 1, j, i, m, n, behind, hn, hj => by
    rw [lenGo]
    split
    · rename_i h
      simp only [List.cons_append, List.nil_append, vbiP]
      rw [ofNat_toNat _ (by omega), if_pos h, Nat.mod_eq_of_lt h]
      simp
    · rename_i h
      cases j with
      | zero => simp at hn; omega
      | succ j =>
        rw [List.cons_append, vbiP, ofNat_toNat _ (by omega), if_neg (by omega)]
        rw [vbiP_lenGo k j (i + 1) _ (n / 128) behind (by rw [Nat.pow_succ] at hn; omega) (by omega)]
        have e : (n % 128 + 128) % 128 * 128 ^ i + n / 128 * 128 ^ (i + 1) = n * 128 ^ i := by
          have h1 : (n % 128 + 128) % 128 = n % 128 := by omega
          rw [h1, Nat.pow_succ, Nat.mul_comm (128 ^ i) 128, ← Nat.mul_assoc, ← Nat.add_mul]
          congr 1
          omega
        simp only [List.length_cons, Option.some.injEq, Prod.mk.injEq]
        omega
theorem vbiP_lenB (n : Nat) (hn : n < 268435456) (behind : List UInt8) : vbiP 4 0 0 (lenB n ++ behind) = some (n, (lenB n).length) := by
  have := vbiP_lenGo 9 3 0 0 n behind (by have : (128 : Nat) ^ 4 = 268435456 := rfl; omega) (by omega)
  simpa [lenB] using this
theorem endl_vbi : ∀ (k i m : Nat) (l : List UInt8) (n s : Nat), vbiP k i m l = some (n, s) → endl k l = false
  | 0, _, _, _, _, _, h => by simp [vbiP] at h
  | k + 1, _, _, [], _, _, h => by simp [vbiP] at h
  | k + 1, i, m, x :: l, n, s, h => by
    rw [vbiP] at h
    rw [endl]
    split
    · rfl
    · rename_i hx
      rw [if_neg hx] at h
      exact endl_vbi k _ _ l n s h

set_option maxRecDepth 20000 in
set_option maxHeartbeats 800000 in
theorem fnLength_walk (n : Int) (v : Value) (l : List UInt8) (w : World) (hn : -9223372036854775808 ≤ n ∧ n ≤ 9223372036854775807) (h : BS w v l) : Calls Tryd.prog 4 #[.int .i64 n, v] w (Yes w) := by
  obtain ⟨a, c, rfl, h1, h2⟩ := h.len
  have hm : l.length ≤ 9223372036854775807 := Nat.le_trans h1 h2
  have H := Lib.hid h
  clear h
  by_cases hbig : 2147483647 < l.length
  · go_enter Tryd.func4, Tryd.ntmps4
    go_wp2_with fail
    go_ret
    exact ⟨rfl, Fr.refl _ _⟩
  by_cases h0 : n < 0
  · go_enter Tryd.func4, Tryd.ntmps4
    go_wp2_with (go_at_call 14; refine (works_any _).mono ?_; rintro e w1 ⟨rfl, hf⟩)
    go_ret
    exact ⟨rfl, hf⟩
  by_cases h28 : 268435456 ≤ n
  · go_enter Tryd.func4, Tryd.ntmps4
    go_wp2_with (go_at_call 14; refine (works_any _).mono ?_; rintro e w1 ⟨rfl, hf⟩)
    go_ret
    exact ⟨rfl, hf⟩
  by_cases h100 : 100 < l.length
  · go_enter Tryd.func4, Tryd.ntmps4
    go_wp2_with (go_at_call 14; refine (works_any _).mono ?_; rintro e w1 ⟨rfl, hf⟩)
    go_ret
    exact ⟨rfl, hf⟩
  obtain ⟨m, rfl⟩ : ∃ m : Nat, n = m := ⟨n.toNat, by omega⟩
  have hm28 : m < 268435456 := by omega
  have hll : (lenB m).length ≤ 10 := lenGo_length 9 m
  go_enter Tryd.func4, Tryd.ntmps4
  go_wp2_with fail
  refine (length_made m (by omega) _).mono ?_
  rintro e w1 ⟨vb, rfl, hob, hfb, hf1⟩
  have HOB := Lib.hid hob
  have HBB := Lib.hid hob.bs
  obtain ⟨ba, bc, rfl, _, _⟩ := hob.bs.len
  clear hob
  go_wp2_with (first | (at_builtin; refine app_b rfl (.tmp 27) (.tmp 28) 22 rfl 0 _ [] rfl (OwnB.made (cs := #[]) (heap_alloc_new _ _) (Nat.zero_le _) rfl (by decide)) _ (lenB m) rfl (Src.bytes Tryd.underlying22 (HBB.out.fr0 ((Fr.refl _ _).alloc _))) (by simp; omega) (Nat.zero_le _) ?_))
  intro v1 w2 ho1 hg1 hk1
  have hf2 : Fr [] w1 w2 := ((Fr.refl _ _).alloc _).fresh hg1 (fun k hk => by simp [Value.ownBlock] at hk; omega)
  have F2 := Lib.hid (hf1.trans hf2 (by simp))
  have O1 := Lib.hid ho1
  have K1 : Fresh w1 v1 := fun k hk => by
    rcases hk1 k hk with h | h
    · simp [Value.ownBlock] at h; omega
    · exact Nat.le_trans (by simp) h
  have HB2 := Lib.hid (HBB.out.fr0 hf2)
  have W12 : w1.heap.size ≤ w2.heap.size := hf2.size
  clear ho1 hg1 hk1 hf2
  go_wp2_with (first | (at_builtin; refine app_b rfl (.tmp 29) (.tmp 30) 22 rfl 0 _ (lenB m) rfl O1.out _ l rfl (Src.bytes Tryd.underlying22 (H.out.fr0 F2.out)) (by omega) (Nat.zero_le _) ?_))
  intro v2 w3 ho2 hg2 hk2
  have hf3 : Fr [] w w3 := F2.out.fresh hg2 (fun k hk => Nat.le_trans hf1.size (K1 k hk))
  have F3 := Lib.hid hf3
  have hb3 : BS w3 (.slice ba (lenB m).length bc) (lenB m) := by
    refine HB2.out.keep fun k hk => ?_
    have hk1 := (HOB.out.lt k hk).2
    exact hg2.block k (Nat.lt_of_lt_of_le hk1 W12) (fun e => by have := K1 k e.symm; omega)
  have hs2 := ho2.bs
  have S2 := Lib.hid hs2
  clear ho2 hg2 hk2 hf3 hs2
  have hv : vbiP 4 0 0 (lenB m ++ l) = some (m, (lenB m).length) := vbiP_lenB m hm28 l
  have HV := Lib.hid hv
  clear hv
  go_wp2_with fail
  refine (parseLength_any v2 _ _ S2.out (endl_vbi _ _ _ _ _ _ HV.out) (by simp; omega)).mono ?_
  rintro e w4 ⟨hf4, ⟨n2, s2, hv2, rfl⟩ | ⟨hv2, rfl⟩⟩
  · rw [HV.out] at hv2
    simp only [Option.some.injEq, Prod.mk.injEq] at hv2
    obtain ⟨rfl, rfl⟩ := hv2
    have HB4 := Lib.hid (hb3.fr0 hf4)
    have F4 := Lib.hid (F3.out.trans hf4 (by simp))
    have hfl : ∀ w, Calls Tryd.prog 18 #[.int .i64 m] w (ClonePost w (lenB m)) := fun w => formatLength_any m (by omega) w
    have HFL := Lib.hid hfl
    clear HV HBB HOB HB2 O1 S2 hfl
    generalize lenB m = q at *
    have HD4 := Lib.hid (HB4.out.fr0 ((Fr.refl [] w4).drew))
    have s1 := str_of_bs HD4.out
    have hc0 : ((m : Int) == (m : Int)) = true := by simp
    have hc1 : ((q.length : Int) == (q.length : Int)) = true := by simp
    clear hb3 hf4
    go_wp2_with fail
    refine region_seg (by kernel_rfl) (by kernel_rfl) (fun _ _ _ _ _ h => h) [0, 3] (by kernel_rfl) ?_
    simp only [picks_cons, picks_nil, pick1_some, List.getElem?_toArray, List.getElem?_cons_zero, List.getElem?_cons_succ]
    go_wp2_with fail
    show wpAny _ _ _ _ _ _ _ _
    refine wpAny_two 21 1 4 (by kernel_rfl) (by kernel_rfl) ?_ ?_
    · refine choice_seg (by kernel_rfl) (fun _ _ _ _ _ h => h) 1 [] (by kernel_rfl) ?_
      simp only [picks_cons, picks_nil, pick1_some, List.getElem?_toArray, List.getElem?_cons_zero, List.getElem?_cons_succ]
      go_wp2_with fail
      refine (HFL.out _).mono ?_
      rintro e w5 ⟨v5, rfl, hb5, hfr5, hf5⟩
      have s2 := str_of_bs hb5
      have s3 := str_of_bs (HD4.out.fr0 hf5)
      obtain ⟨a5, c5, rfl, _, _⟩ := hb5.len
      clear hb5
      go_wp2_with fail
      show wpAny _ _ _ _ _ _ _ _
      refine wpAny_two 20 2 4 (by kernel_rfl) (by kernel_rfl) ?_ ?_
      · refine choice_seg (by kernel_rfl) (fun _ _ _ _ _ h => h) 2 [4, 5, 6, 7, 8, 9, 10, 11, 12, 13, 14, 15, 16, 17, 18, 19, 20, 21, 22, 23] (by kernel_rfl) ?_
        simp only [picks_cons, picks_nil, pick1_some, List.getElem?_toArray, List.getElem?_cons_zero, List.getElem?_cons_succ]
        go_wp2_with (go_at_call 14; refine (works_any _).mono ?_; rintro e w6 ⟨rfl, hf6⟩)
        show wpAny _ _ _ _ _ _ _ _
        refine wpAny_done (by kernel_rfl) ?_ _
        go_wp2_with fail
        go_ret
        exact ⟨rfl, (F4.out.drew.trans hf5 (by simp)).trans hf6 (by simp)⟩
      · refine choice_seg (by kernel_rfl) (fun _ _ _ _ _ h => h) 4 [2, 5, 6, 7, 8, 9, 10, 11, 12, 13, 14, 15, 16, 17, 18, 19, 20, 21, 22, 23] (by kernel_rfl) ?_
        simp only [picks_cons, picks_nil, pick1_some, List.getElem?_toArray, List.getElem?_cons_zero, List.getElem?_cons_succ]
        go_wp2_with (go_at_call 14; refine (works_any _).mono ?_; rintro e w6 ⟨rfl, hf6⟩)
        show wpAny _ _ _ _ _ _ _ _
        refine wpAny_done (by kernel_rfl) ?_ _
        go_wp2_with fail
        go_ret
        exact ⟨rfl, (F4.out.drew.trans hf5 (by simp)).trans hf6 (by simp)⟩
    · refine choice_seg (by kernel_rfl) (fun _ _ _ _ _ h => h) 4 [1, 2, 5, 6, 7, 8, 9, 10, 11, 12, 13, 14, 15, 16, 17, 18, 19, 20, 21, 22, 23] (by kernel_rfl) ?_
      simp only [picks_cons, picks_nil, pick1_some, List.getElem?_toArray, List.getElem?_cons_zero, List.getElem?_cons_succ]
      go_wp2_with fail
      refine (HFL.out _).mono ?_
      rintro e w5 ⟨v5, rfl, hb5, hfr5, hf5⟩
      have s2 := str_of_bs hb5
      have s3 := str_of_bs (HD4.out.fr0 hf5)
      obtain ⟨a5, c5, rfl, _, _⟩ := hb5.len
      clear hb5
      go_wp2_with (go_at_call 14; refine (works_any _).mono ?_; rintro e w6 ⟨rfl, hf6⟩)
      show wpAny _ _ _ _ _ _ _ _
      refine wpAny_done (by kernel_rfl) ?_ _
      go_wp2_with fail
      go_ret
      exact ⟨rfl, (F4.out.drew.trans hf5 (by simp)).trans hf6 (by simp)⟩
  · rw [HV.out] at hv2
    cases hv2
end Go.Proofs.YtkglmacaecmhdaaDoor
