/- Slices of one-cell elements that read as a list ('LS'); impl.within. -/
import Derived.Test.YtkglmacaecmhdaaDoorProg
import Derived.Test.YtkglmacaecmhdaaDoorNum
import Derived.Deep.LoopGhost
namespace Go.Proofs.YtkglmacaecmhdaaDoor
open Go.RowKit
set_option linter.unusedVariables false

/-- A slice of elements of one cell each that reads as the list l. -/
def LS {α : Type} (f : α → Value) (w : World) (v : Value) (l : List α) : Prop :=
  ∃ a c, v = .slice a l.length c ∧ l.length ≤ c ∧ c ≤ maxLen ∧ ∀ j x, l[j]? = some x → ∃ b o, a = some ⟨b, o, none⟩ ∧ w.cell? ⟨b, o + j, none⟩ = some (f x)

theorem LS.nil {α : Type} (f : α → Value) (w : World) : LS f w (.slice none 0 0) [] := ⟨none, 0, rfl, Nat.le_refl _, Nat.zero_le _, fun j x h => by simp at h⟩
theorem LS.len {α : Type} {f : α → Value} {w : World} {v : Value} {l : List α} (h : LS f w v l) : ∃ a c, v = .slice a l.length c ∧ l.length ≤ c ∧ c ≤ maxLen := by
  obtain ⟨a, c, rfl, h1, h2, h3⟩ := h
  exact ⟨a, c, rfl, h1, h2⟩
theorem LS.fr {α : Type} {f : α → Value} {S : List Nat} {w w' : World} {v : Value} {l : List α} (h : LS f w v l) (hf : Fr S w w') (hn : l ≠ [] → ∀ k, v.ownBlock = some k → k ∉ S) : LS f w' v l := by
  obtain ⟨a, c, rfl, h1, h2, h3⟩ := h
  refine ⟨a, c, rfl, h1, h2, fun j x hj => ?_⟩
  obtain ⟨b, o, rfl, hc⟩ := h3 j x hj
  exact ⟨b, o, rfl, hf.cell hc (hn (fun e => by rw [e] at hj; simp at hj) b (by simp [Value.ownBlock]))⟩
theorem LS.cases {α : Type} {f : α → Value} {w : World} {v : Value} {l : List α} (h : LS f w v l) : (l = [] ∧ ∃ a c, v = .slice a 0 c ∧ c ≤ maxLen) ∨
    ∃ b o c, v = .slice (some ⟨b, o, none⟩) l.length c ∧ 0 < l.length ∧ l.length ≤ c ∧ c ≤ maxLen ∧ b < w.heap.size ∧ ∀ j x, l[j]? = some x → w.cell? ⟨b, o + j, none⟩ = some (f x) := by
  obtain ⟨a, c, rfl, h1, h2, h3⟩ := h
  cases l with
  | nil => exact .inl ⟨rfl, a, c, rfl, h2⟩
  | cons y l =>
    refine .inr ?_
    obtain ⟨b, o, rfl, hc⟩ := h3 0 y rfl
    refine ⟨b, o, c, rfl, by simp, h1, h2, World.block_lt_of_cell? w _ hc, fun j x hj => ?_⟩
    obtain ⟨b', o', he, hc⟩ := h3 j x hj
    cases he
    exact hc
/-- A block whose first cells are the list's. -/
theorem LS.of_block {α : Type} {f : α → Value} {w : World} {g n : Nat} {l : List α} {cs : Array Value} {t : TypeId} {fr : Nat × Nat} (hh : w.heap[g]? = some (.cells cs t fr)) (hn : n = l.length) (hc : cs.toList = l.map f) (hm : l.length ≤ maxLen) : LS f w (.slice (some ⟨g, 0, none⟩) n n) l := by
  subst hn
  refine ⟨_, _, rfl, Nat.le_refl _, hm, fun j x hj => ⟨g, 0, rfl, ?_⟩⟩
  rw [cell_of_block hh, Nat.zero_add, ← Array.getElem?_toList, hc, List.getElem?_map, hj]
  rfl

/-- The cell of an int. -/
def intc (n : Int) : Value := .int .i64 n

/-- Do all numbers lie from 0 to m? -/
def within (m : Int) (l : List Int) : Bool := l.all fun n => decide (0 ≤ n ∧ n ≤ m)

set_option maxRecDepth 20000 in
set_option maxHeartbeats 400000 in
theorem within_any (m : Int) (v : Value) (l : List Int) (w : World) (h : LS intc w v l) : Calls Tryd.prog 55 #[.int .i64 m, v] w fun e w' => e = .returned (.bool (within m l)) ∧ w = w' := by
  rcases h.cases with ⟨rfl, a, c, rfl, hc⟩ | ⟨vb, o, c, rfl, hp, h1, h2, hlt, hcell⟩
  · go_enter Tryd.func55, Tryd.ntmps55
    go_wp2_with fail
    refine wp_loop_rounds 1 ?_
    rw [rounds_succ]
    go_wp2
    go_ret
    exact ⟨rfl, rfl⟩
  · have hm : l.length ≤ 9223372036854775807 := Nat.le_trans h1 h2
    have HC := Lib.hid hcell
    clear hcell h
    obtain ⟨r, hr⟩ : ∃ r, within m l = r := ⟨_, rfl⟩
    rw [hr]
    have HR := Lib.hid hr
    clear hr
    go_enter Tryd.func55, Tryd.ntmps55
    go_wp2_with fail
    go_loop [6, 9] (fun _ i => ∃ k : Nat, k ≤ l.length ∧ i = .int .i64 k ∧ Hid (within m (l.take k) = true)) (fun _ i => l.length - (intOf i).toNat)
    case atStart => exact ⟨0, by omega, rfl, (show within m (l.take 0) = true from rfl)⟩
    case round =>
      obtain ⟨k, hk, rfl, hw⟩ := hrel
      by_cases hlt : k < l.length
      · obtain ⟨x, hx⟩ : ∃ x, l[k]? = some x := ⟨_, List.getElem?_eq_getElem hlt⟩
        have hc : w.cell? ⟨vb, o + k, none⟩ = some (.int .i64 x) := HC.out k x hx
        have HX := Lib.hid hx
        clear hx
        have hmem : x ∈ l := List.mem_of_getElem? HX.out
        by_cases hx0 : x < 0
        · have hno : within m l = false := by
            rw [within, List.all_eq_false]
            exact ⟨x, hmem, by simp; omega⟩
          have HN := Lib.hid (hno.symm.trans HR.out)
          clear hno
          go_wp2_with fail
          go_ret
          exact ⟨ret_bool HN.out, rfl⟩
        by_cases hxm : m < x
        · have hno : within m l = false := by
            rw [within, List.all_eq_false]
            exact ⟨x, hmem, by simp; omega⟩
          have HN := Lib.hid (hno.symm.trans HR.out)
          clear hno
          go_wp2_with fail
          go_ret
          exact ⟨ret_bool HN.out, rfl⟩
        go_wp2_with fail
        go_round
        case rel =>
          refine ⟨k + 1, by omega, by go_num, (show within m (l.take (k + 1)) = true from ?_)⟩
          have := hw.out
          rw [List.take_add_one, HX.out, Option.toList_some, within, List.all_append]
          rw [within] at this
          rw [this]
          simp
          omega
        case measure => simp [intOf]; omega
      · have hyes : within m l = true := by
          have := hw.out
          rwa [List.take_of_length_le (by omega)] at this
        have HN := Lib.hid (hyes.symm.trans HR.out)
        clear hyes
        go_wp2_with fail
        go_ret
        exact ⟨ret_bool HN.out, rfl⟩
end Go.Proofs.YtkglmacaecmhdaaDoor
