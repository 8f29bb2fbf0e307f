/- laws.FnHeader: the walk of the law. -/
import Derived.Test.YtkglmacaecmhdaaDoorHde
import Derived.Test.YtkglmacaecmhdaaDoorLa
namespace Go.Proofs.YtkglmacaecmhdaaDoor
open Go.RowKit
set_option linter.unusedVariables false

set_option maxRecDepth 20000 in
set_option maxHeartbeats 8000000 in
theorem fnHeader_walk (q : Int) (d r : Bool) (n : Int) (w : World) (hq0 : -9223372036854775808 ≤ q ∧ q ≤ 9223372036854775807) (hn0 : -9223372036854775808 ≤ n ∧ n ≤ 9223372036854775807) : Calls Tryd.prog 5 #[.int .i64 q, .bool d, .bool r, .int .i64 n] w (Yes w) := by
  by_cases h1 : q < 0
  · go_enter Tryd.func5, Tryd.ntmps5
    go_wp2_with (go_at_call 14; refine (works_any _).mono ?_; rintro e w1 ⟨rfl, hf⟩)
    go_ret
    exact ⟨rfl, hf⟩
  by_cases h2 : 2 < q
  · go_enter Tryd.func5, Tryd.ntmps5
    go_wp2_with (go_at_call 14; refine (works_any _).mono ?_; rintro e w1 ⟨rfl, hf⟩)
    go_ret
    exact ⟨rfl, hf⟩
  by_cases h3 : q = 0 ∧ d = true
  · obtain ⟨rfl, rfl⟩ := h3
    go_enter Tryd.func5, Tryd.ntmps5
    go_wp2_with (go_at_call 14; refine (works_any _).mono ?_; rintro e w1 ⟨rfl, hf⟩)
    go_ret
    exact ⟨rfl, hf⟩
  obtain ⟨p, rfl⟩ : ∃ p : Nat, q = p := ⟨q.toNat, by omega⟩
  have hp : p < 3 := by omega
  have hpd : p = 0 → d = false := fun h => by cases d <;> simp_all
  have HPD := Lib.hid hpd
  clear hpd
  by_cases h4 : n < 0
  · by_cases h0 : p = 0
    · obtain rfl := h0
      obtain rfl := HPD.out rfl
      go_enter Tryd.func5, Tryd.ntmps5
      go_wp2_with (go_at_call 14; refine (works_any _).mono ?_; rintro e w1 ⟨rfl, hf⟩)
      go_ret
      exact ⟨rfl, hf⟩
    · have h0' : ((p : Int) == 0) = false := by simp; omega
      go_enter Tryd.func5, Tryd.ntmps5
      go_wp2_with (go_at_call 14; refine (works_any _).mono ?_; rintro e w1 ⟨rfl, hf⟩)
      go_ret
      exact ⟨rfl, hf⟩
  by_cases h5 : 268435456 ≤ n
  · by_cases h0 : p = 0
    · obtain rfl := h0
      obtain rfl := HPD.out rfl
      go_enter Tryd.func5, Tryd.ntmps5
      go_wp2_with (go_at_call 14; refine (works_any _).mono ?_; rintro e w1 ⟨rfl, hf⟩)
      go_ret
      exact ⟨rfl, hf⟩
    · have h0' : ((p : Int) == 0) = false := by simp; omega
      go_enter Tryd.func5, Tryd.ntmps5
      go_wp2_with (go_at_call 14; refine (works_any _).mono ?_; rintro e w1 ⟨rfl, hf⟩)
      go_ret
      exact ⟨rfl, hf⟩
  obtain ⟨m, rfl⟩ : ∃ m : Nat, n = m := ⟨n.toNat, by omega⟩
  have hm : m < 268435456 := by omega
  clear hn0 hq0 h1 h2 h3 h4 h5
  have hll : (lenB m).length ≤ 10 := lenGo_length 9 m
  have hfh : ∀ w, Calls Tryd.prog 19 #[.int .i64 3, .int .i64 p, .bool d, .bool r, .int .i64 m] w (FhPost w (UInt8.ofNat (hb0 3 p d r) :: lenB m)) := fun w => formatHeader_any _ 3 p m d r (by omega) (by omega) (by omega) rfl w
  have hhd : ∀ v w, BS w v (UInt8.ofNat (hb0 3 p d r) :: lenB m) → Calls Tryd.prog 20 #[v] w fun e w' => e = .returned (.tuple #[.int .i64 3, .int .i64 p, .bool d, .bool r, .int .i64 m, .int .i64 (1 + (lenB m).length : Nat), .bool true]) ∧ Fr [] w w' :=
    fun v w h => header_any p m _ d r v (lenB m) hp HPD.out w h (by omega) (by have := vbiP_lenB m hm []; rwa [List.append_nil] at this)
  obtain ⟨z, hz⟩ : ∃ z, UInt8.ofNat (hb0 3 p d r) = z := ⟨_, rfl⟩
  have hzc : Value.int .u8 (hb0 3 p d r : Nat) = u8c z := by rw [← hz, u8c, ofNat_toNat _ (hb0_lt 3 p d r (by omega) (by omega))]
  rw [hz] at hfh hhd
  clear hz
  have HZ := Lib.hid hzc
  clear hzc
  have HFH := Lib.hid hfh
  have HHD := Lib.hid hhd
  clear hfh hhd
  have e1 : bits .or .u8 48 8 = 56 := by decide +kernel
  have e2 : bits .or .u8 48 4 = 52 := by decide +kernel
  have e3 : bits .or .u8 56 4 = 60 := by decide +kernel
  have e4 : bits .or .u8 48 2 = 50 := by decide +kernel
  have e5 : bits .or .u8 56 2 = 58 := by decide +kernel
  have e6 : bits .or .u8 48 1 = 49 := by decide +kernel
  have e7 : bits .or .u8 56 1 = 57 := by decide +kernel
  have e8 : bits .or .u8 52 1 = 53 := by decide +kernel
  have e9 : bits .or .u8 60 1 = 61 := by decide +kernel
  have e10 : bits .or .u8 50 1 = 51 := by decide +kernel
  have e11 : bits .or .u8 58 1 = 59 := by decide +kernel
  obtain rfl | rfl | rfl : p = 0 ∨ p = 1 ∨ p = 2 := by omega
  · obtain rfl := HPD.out rfl
    cases r
    all_goals
      go_enter Tryd.func5, Tryd.ntmps5
      go_wp2_with fail
      refine wp_loop_rounds 5 ?_
      rw [rounds_succ]
      go_wp2_with fail
      rw [rounds_succ]
      go_wp2_with fail
      rw [rounds_succ]
      go_wp2_with fail
      rw [rounds_succ]
      go_wp2_with fail
      rw [rounds_succ]
      go_wp2_with fail
      generalize hw5 : World.alloc _ _ = w5
      have hb5 : w5.heap[w.heap.size + 1 + 1 + 1 + 1 + 1]? = some (.cells #[u8c z] 5 (0, 0)) := by rw [← HZ.out, ← hw5]; exact alloc_at _ _ _ (by simp)
      have hf5 : Fr [] w w5 := by rw [← hw5]; exact ((((((Fr.refl _ _).alloc _).alloc _).alloc _).alloc _).alloc _).alloc _
      have B5 := Lib.hid hb5
      have F5 := Lib.hid hf5
      clear hw5 hb5 hf5 e1 e2 e3 e4 e5 e6 e7 e8 e9 e10 e11
      refine (length_made m (by omega) _).mono ?_
      rintro e w6 ⟨vb, rfl, hob, hfb, hf6⟩
      have B6 := Lib.hid (hf6.heap B5.out (by simp))
      have HBB := Lib.hid hob.bs
      have F6 := Lib.hid (F5.out.trans hf6 (by simp))
      obtain ⟨ba, bc, rfl, _, _⟩ := hob.bs.len
      clear hob hfb hf6
      go_wp2_with (first | (at_builtin; refine app_b rfl (.tmp 68) (.tmp 70) 22 rfl 0 _ [z] rfl (OwnB.made (cs := #[u8c z]) B6.out (Nat.zero_le _) rfl (by simp [maxLen])) _ (lenB m) rfl (Src.bytes Tryd.underlying22 HBB.out) (by simp; omega) (Nat.zero_le _) ?_))
      intro v1 w7 ho1 hg1 hk1
      have hf7 : Fr [] w w7 := F6.out.fresh hg1 (fun k hk => by simp [Value.ownBlock] at hk; omega)
      have hs7 := ho1.bs
      have S7 := Lib.hid hs7
      have F7 := Lib.hid hf7
      obtain ⟨a1, c1, rfl, _, _⟩ := hs7.len
      clear ho1 hg1 hk1 hf7 hs7
      generalize lenB m = t at *
      go_wp2_with fail
      refine (HFH.out _).mono ?_
      rintro e w8 ⟨v8, rfl, hb8, hfr8, hf8⟩
      obtain ⟨a8, c8, rfl, _, _⟩ := hb8.len
      have S8 := Lib.hid hb8
      have T8 := Lib.hid (S7.out.fr0 hf8)
      have F8 := Lib.hid (F7.out.trans hf8 (by simp))
      clear hb8 hfr8 hf8
      go_wp2_with fail
      refine (HHD.out _ _ T8.out).mono ?_
      rintro e w9 ⟨rfl, hf9⟩
      have F9 := Lib.hid (F8.out.trans hf9 (by simp))
      have s1 := str_of_bs (S8.out.fr0 hf9)
      have s2 := str_of_bs (show BS w9 _ (z :: t) from T8.out.fr0 hf9)
      clear hf9
      simp only [List.length_cons] at s1 s2
      go_wp2_with (go_at_call 14; refine (works_any _).mono ?_; rintro e w10 ⟨rfl, hf10⟩)
      go_ret
      exact ⟨rfl, F9.out.trans hf10 (by simp)⟩
  all_goals
    clear HPD
    cases d <;> cases r
    all_goals
      go_enter Tryd.func5, Tryd.ntmps5
      go_wp2_with fail
      refine wp_loop_rounds 5 ?_
      rw [rounds_succ]
      go_wp2_with fail
      rw [rounds_succ]
      go_wp2_with fail
      rw [rounds_succ]
      go_wp2_with fail
      rw [rounds_succ]
      go_wp2_with fail
      rw [rounds_succ]
      go_wp2_with fail
      generalize hw5 : World.alloc _ _ = w5
      have hb5 : w5.heap[w.heap.size + 1 + 1 + 1 + 1 + 1]? = some (.cells #[u8c z] 5 (0, 0)) := by rw [← HZ.out, ← hw5]; exact alloc_at _ _ _ (by simp)
      have hf5 : Fr [] w w5 := by rw [← hw5]; exact ((((((Fr.refl _ _).alloc _).alloc _).alloc _).alloc _).alloc _).alloc _
      have B5 := Lib.hid hb5
      have F5 := Lib.hid hf5
      clear hw5 hb5 hf5 e1 e2 e3 e4 e5 e6 e7 e8 e9 e10 e11
      refine (length_made m (by omega) _).mono ?_
      rintro e w6 ⟨vb, rfl, hob, hfb, hf6⟩
      have B6 := Lib.hid (hf6.heap B5.out (by simp))
      have HBB := Lib.hid hob.bs
      have F6 := Lib.hid (F5.out.trans hf6 (by simp))
      obtain ⟨ba, bc, rfl, _, _⟩ := hob.bs.len
      clear hob hfb hf6
      go_wp2_with (first | (at_builtin; refine app_b rfl (.tmp 68) (.tmp 70) 22 rfl 0 _ [z] rfl (OwnB.made (cs := #[u8c z]) B6.out (Nat.zero_le _) rfl (by simp [maxLen])) _ (lenB m) rfl (Src.bytes Tryd.underlying22 HBB.out) (by simp; omega) (Nat.zero_le _) ?_))
      intro v1 w7 ho1 hg1 hk1
      have hf7 : Fr [] w w7 := F6.out.fresh hg1 (fun k hk => by simp [Value.ownBlock] at hk; omega)
      have hs7 := ho1.bs
      have S7 := Lib.hid hs7
      have F7 := Lib.hid hf7
      obtain ⟨a1, c1, rfl, _, _⟩ := hs7.len
      clear ho1 hg1 hk1 hf7 hs7
      generalize lenB m = t at *
      go_wp2_with fail
      refine (HFH.out _).mono ?_
      rintro e w8 ⟨v8, rfl, hb8, hfr8, hf8⟩
      obtain ⟨a8, c8, rfl, _, _⟩ := hb8.len
      have S8 := Lib.hid hb8
      have T8 := Lib.hid (S7.out.fr0 hf8)
      have F8 := Lib.hid (F7.out.trans hf8 (by simp))
      clear hb8 hfr8 hf8
      go_wp2_with fail
      refine (HHD.out _ _ T8.out).mono ?_
      rintro e w9 ⟨rfl, hf9⟩
      have F9 := Lib.hid (F8.out.trans hf9 (by simp))
      have s1 := str_of_bs (S8.out.fr0 hf9)
      have s2 := str_of_bs (show BS w9 _ (z :: t) from T8.out.fr0 hf9)
      clear hf9
      simp only [List.length_cons] at s1 s2
      go_wp2_with (go_at_call 14; refine (works_any _).mono ?_; rintro e w10 ⟨rfl, hf10⟩)
      go_ret
      exact ⟨rfl, F9.out.trans hf10 (by simp)⟩
end Go.Proofs.YtkglmacaecmhdaaDoor
