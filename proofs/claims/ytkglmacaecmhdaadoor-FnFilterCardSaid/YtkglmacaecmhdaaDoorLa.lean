/- laws.works, laws.FnLengthAny: the walk of the law, for every input. -/
import Derived.Test.YtkglmacaecmhdaaDoorPl
import Derived.Test.YtkglmacaecmhdaaDoorRdr
import Derived.Deep.QuietTactic
import Derived.BigQuiet
namespace Go.Proofs.YtkglmacaecmhdaaDoor
open Go.RowKit
set_option linter.unusedVariables false

/-- The law says yes, and nothing that was there has turned. -/
def Yes (w : World) (e : Ending) (w' : World) : Prop := e = .returned (.bool true) ∧ Fr [] w w'

set_option maxRecDepth 20000 in
set_option maxHeartbeats 400000 in
theorem works_any (w : World) : Calls Tryd.prog 14 #[] w (Yes w) := by
  go_enter Tryd.func14, Tryd.ntmps14
  go_wp2_with fail
  have hbs : BS (w.alloc (.cells #[.int .u8 128, .int .u8 1] 5)) (.slice (some ⟨w.heap.size, 0, none⟩) 2 2) [128, 1] :=
    (OwnB.made (l := [128, 1]) (heap_alloc_new _ _) (Nat.le_refl _) rfl (by decide)).bs
  refine (parseLength_any _ _ _ hbs (by decide) (by decide)).mono ?_
  have hv : vbiP 4 0 0 [128, 1] = some (128, 2) := by decide
  rintro e w1 ⟨hf, ⟨n, s, h, rfl⟩ | ⟨h, rfl⟩⟩
  · rw [hv] at h
    cases h
    clear hv
    go_wp2_with fail
    go_ret
    exact ⟨rfl, ((Fr.refl _ _).alloc _).trans hf (by simp)⟩
  · rw [hv] at h
    cases h

theorem endl_short (l : List UInt8) (h : l.length < 4) : endl 4 l = false := by
  match l, h with
  | [], _ => rfl
  | [a], _ => simp only [endl]; split <;> rfl
  | [a, b], _ => simp only [endl]; (repeat' split) <;> rfl
  | [a, b, c], _ => simp only [endl]; (repeat' split) <;> rfl
  | a :: b :: c :: d :: l, h => simp at h; omega

set_option maxRecDepth 20000 in
set_option maxHeartbeats 400000 in
theorem endless_any (v : Value) (l : List UInt8) (w : World) (h : BS w v l) (hm : l.length ≤ 1073741824) : Calls Tryd.prog 13 #[v] w fun e w' => e = .returned (.bool (endl 4 l)) ∧ w = w' := by
  rcases Nat.lt_or_ge l.length 4 with h4 | h4
  · obtain ⟨a, c, rfl, _, _⟩ := h.len
    rw [endl_short l h4]
    clear h
    go_enter Tryd.func13, Tryd.ntmps13
    go_wp2
    go_ret
    exact ⟨rfl, rfl⟩
  · rcases h.cases with ⟨rfl, _⟩ | ⟨vb, o, c, rfl, hp, h1, h2, hlt, hcell⟩
    · simp at h4
    · match l, h4, hp, h1, hcell, hm with
      | a :: b :: d :: e :: l, _, _, h1, hcell, hm =>
        have c0 : w.cell? ⟨vb, o, none⟩ = some (.int .u8 (a.toNat : Int)) := hcell 0 a rfl
        have c1 : w.cell? ⟨vb, o + 1, none⟩ = some (.int .u8 (b.toNat : Int)) := hcell 1 b rfl
        have c2 : w.cell? ⟨vb, o + 2, none⟩ = some (.int .u8 (d.toNat : Int)) := hcell 2 d rfl
        have c3 : w.cell? ⟨vb, o + 3, none⟩ = some (.int .u8 (e.toNat : Int)) := hcell 3 e rfl
        clear hcell
        have hlen : (a :: b :: d :: e :: l).length = l.length + 4 := rfl
        have he : endl 4 (a :: b :: d :: e :: l) = !(decide (a.toNat < 128) || decide (b.toNat < 128) || decide (d.toNat < 128) || decide (e.toNat < 128)) := by
          simp only [endl]
          (repeat' split) <;> simp_all
        rw [hlen, he]
        clear hlen he
        by_cases ha : a.toNat < 128
        · rw [decide_eq_true ha]
          simp only [Bool.true_or, Bool.not_true]
          go_enter Tryd.func13, Tryd.ntmps13
          go_wp2
          go_ret
          exact ⟨rfl, rfl⟩
        rw [decide_eq_false ha]
        by_cases hb : b.toNat < 128
        · rw [decide_eq_true hb]
          simp only [Bool.true_or, Bool.false_or, Bool.not_true]
          go_enter Tryd.func13, Tryd.ntmps13
          go_wp2
          go_ret
          exact ⟨rfl, rfl⟩
        rw [decide_eq_false hb]
        by_cases hd : d.toNat < 128
        · rw [decide_eq_true hd]
          simp only [Bool.true_or, Bool.false_or, Bool.not_true]
          go_enter Tryd.func13, Tryd.ntmps13
          go_wp2
          go_ret
          exact ⟨rfl, rfl⟩
        rw [decide_eq_false hd]
        by_cases he : e.toNat < 128
        · rw [decide_eq_true he]
          simp only [Bool.or_true, Bool.not_true]
          go_enter Tryd.func13, Tryd.ntmps13
          go_wp2
          go_ret
          exact ⟨ret_bool (by simp; omega), rfl⟩
        · rw [decide_eq_false he]
          simp only [Bool.or_false, Bool.not_false]
          go_enter Tryd.func13, Tryd.ntmps13
          go_wp2
          go_ret
          exact ⟨ret_bool (by simp; omega), rfl⟩

theorem numOf_one (x : UInt8) (l : List UInt8) : numOf ((x :: l).take 1) = x.toNat := by simp [numOf]
theorem rdLen_cons (k i n : Nat) (x : UInt8) (l : List UInt8) : rdLen (k + 1) i n (x :: l) false = if x.toNat < 128 then (n + x.toNat % 128 * 128 ^ i, l, false) else rdLen k (i + 1) (n + x.toNat % 128 * 128 ^ i) l false := by
  rw [rdLen, numOf_one]
  simp
theorem rdLen_nil (k i n : Nat) : rdLen (k + 1) i n [] false = (n, [], true) := by
  rw [rdLen]
  simp [numOf]
theorem rdLen_le : ∀ (k i n : Nat) (l : List UInt8) (b : Bool), (rdLen k i n l b).2.1.length ≤ l.length
  | 0, i, n, l, b => Nat.le_refl _
  | k + 1, i, n, l, b => by
    rw [rdLen]
    split
    · simp
    · exact Nat.le_trans (rdLen_le k _ _ _ _) (by simp)
theorem rdLen_vbi : ∀ (k i n : Nat) (l : List UInt8), (∀ m s, vbiP k i n l = some (m, s) → rdLen k i n l false = (m, l.drop (s - i), false) ∧ i < s ∧ s - i ≤ l.length) ∧ (vbiP k i n l = none → endl k l = false → (rdLen k i n l false).2.2 = true)
  | 0, i, n, l => by simp [vbiP, endl]
  | k + 1, i, n, [] => by simp [vbiP, rdLen_nil]
  | k + 1, i, n, x :: l => by
    have ih := rdLen_vbi k (i + 1) (n + x.toNat % 128 * 128 ^ i) l
    rw [rdLen_cons, vbiP, endl]
    split
    · rename_i hx
      refine ⟨fun m s h => ?_, fun h => by cases h⟩
      simp only [Option.some.injEq, Prod.mk.injEq] at h
      obtain ⟨rfl, rfl⟩ := h
      refine ⟨by simp, by omega, by simp⟩
    · refine ⟨fun m s h => ?_, ih.2⟩
      obtain ⟨h1, h2, h3⟩ := ih.1 m s h
      refine ⟨?_, by omega, by simp; omega⟩
      rw [h1, show s - i = (s - (i + 1)) + 1 by omega, List.drop_succ_cons]

def RLPost (w : World) (l : List UInt8) (e : Ending) (w' : World) : Prop :=
  ∃ n s ok, rdLen 4 0 0 l false = (n, s, !ok) ∧ e = .returned (.tuple #[.int .i64 (n : Nat), .int .i64 ((l.length : Int) - s.length), .bool ok]) ∧ Fr [] w w'

set_option maxRecDepth 20000 in
set_option maxHeartbeats 400000 in
theorem readLength_any (v : Value) (l : List UInt8) (w : World) (h : BS w v l) (hm : l.length ≤ 1073741824) : Calls Tryd.prog 15 #[v] w (RLPost w l) := by
  obtain ⟨a, c, rfl, _, _⟩ := h.len
  have H := Lib.hid h
  clear h
  go_enter Tryd.func15, Tryd.ntmps15
  go_wp2_with fail
  obtain ⟨kb, hkb, hne⟩ := H.out.kb w.heap.size (Nat.le_refl _)
  have hrd : RD (w.alloc (.cells #[.slice a l.length c, .bool false] 76)) w.heap.size kb l false := ⟨_, heap_alloc_new _ _, H.out.fr0 ((Fr.refl _ _).alloc _), hkb, hne⟩
  refine (length_any w.heap.size kb l false _ hrd).mono ?_
  rintro e w1 ⟨rfl, ⟨v1, hb1, hs1, _, _⟩, hf1⟩
  obtain ⟨n, s, bad, hr⟩ : ∃ n s bad, rdLen 4 0 0 l false = (n, s, bad) := ⟨_, _, _, rfl⟩
  have hsl : s.length ≤ l.length := by have := rdLen_le 4 0 0 l false; rw [hr] at this; exact this
  rw [hr] at hb1 hs1
  obtain ⟨a1, c1, rfl, _, _⟩ := hs1.len
  have HR := Lib.hid hr
  have k0 : w1.cell? ⟨w.heap.size, 0, none⟩ = some (.slice a1 s.length c1) := cell_of_block hb1 0
  have k1 : w1.cell? ⟨w.heap.size, 1, none⟩ = some (.bool bad) := cell_of_block hb1 1
  have hF : Fr [] w w1 := ((Fr.refl _ _).alloc _).trans hf1 (fun x hx => .inr (by simp at hx; omega))
  have hn : (rdLen 4 0 0 l false).1 = n := by rw [hr]
  rw [hn]
  clear hb1 hs1 hr hn hrd hf1 hkb hne
  go_wp2_with fail
  go_quiet (fail)
  go_wp2_with fail
  go_ret3
  exact ⟨n, s, !bad, by rw [HR.out, Bool.not_not], rfl, hF.drewN nq⟩

set_option maxRecDepth 20000 in
set_option maxHeartbeats 400000 in
theorem fnLengthAny_walk (v : Value) (l : List UInt8) (w : World) (h : BS w v l) : Calls Tryd.prog 3 #[v] w (Yes w) := by
  obtain ⟨a, c, rfl, h1, h2⟩ := h.len
  have hm : l.length ≤ 9223372036854775807 := Nat.le_trans h1 h2
  have H := Lib.hid h
  clear h
  by_cases hbig : 2147483647 < l.length
  · go_enter Tryd.func3, Tryd.ntmps3
    go_wp2_with fail
    go_ret
    exact ⟨rfl, Fr.refl _ _⟩
  by_cases h100 : 100 < l.length
  · go_enter Tryd.func3, Tryd.ntmps3
    go_wp2_with (go_at_call 14; refine (works_any _).mono ?_; rintro e w1 ⟨rfl, hf⟩)
    go_ret
    exact ⟨rfl, hf⟩
  · go_enter Tryd.func3, Tryd.ntmps3
    go_wp2_with fail
    refine (endless_any _ l _ H.out (by omega)).mono ?_
    rintro e w1 ⟨rfl, rfl⟩
    cases he : endl 4 l with
    | true =>
      have HE := Lib.hid he
      clear he
      go_wp2_with (go_at_call 14; refine (works_any _).mono ?_; rintro e w1 ⟨rfl, hf⟩)
      go_ret
      exact ⟨rfl, hf⟩
    | false =>
      have HE := Lib.hid he
      clear he
      go_wp2_with fail
      refine (readLength_any _ l _ H.out (by omega)).mono ?_
      rintro e w1 ⟨n, s, ok, hr, rfl, hf⟩
      have HR := Lib.hid hr
      clear hr
      go_wp2_with fail
      refine (parseLength_any _ l _ (H.out.fr0 hf) HE.out (by omega)).mono ?_
      rintro e w2 ⟨hf2, ⟨n2, s2, hv, rfl⟩ | ⟨hv, rfl⟩⟩
      · obtain ⟨h3, h4, h5⟩ := (rdLen_vbi 4 0 0 l).1 n2 s2 hv
        rw [HR.out] at h3
        simp only [Prod.mk.injEq, Bool.not_eq_eq_eq_not, Bool.not_false] at h3
        obtain ⟨rfl, rfl, rfl⟩ := h3
        have hsl : (l.drop (s2 - 0)).length + s2 = l.length := by rw [List.length_drop]; omega
        generalize (l.drop (s2 - 0)).length = q at *
        have hq : q ≤ l.length := by omega
        have e1 : (((s2 : Int)) == (l.length : Int) - q) = true := by simp; omega
        have e2 : ((n : Int) == (n : Int)) = true := by simp
        clear hsl HR hv
        go_wp2_with fail
        refine (works_any _).mono ?_
        rintro e w3 ⟨rfl, hf3⟩
        go_wp2_with fail
        go_ret
        exact ⟨rfl, (hf.trans hf2 (by simp)).trans hf3 (by simp)⟩
      · have h3 := (rdLen_vbi 4 0 0 l).2 hv HE.out
        rw [HR.out] at h3
        simp only [Bool.not_eq_eq_eq_not, Bool.not_true] at h3
        subst h3
        clear HR hv
        go_wp2_with fail
        refine (works_any _).mono ?_
        rintro e w3 ⟨rfl, hf3⟩
        go_wp2_with fail
        go_ret
        exact ⟨rfl, (hf.trans hf2 (by simp)).trans hf3 (by simp)⟩
end Go.Proofs.YtkglmacaecmhdaaDoor
