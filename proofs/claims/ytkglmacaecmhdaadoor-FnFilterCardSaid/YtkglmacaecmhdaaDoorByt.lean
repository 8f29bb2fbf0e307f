/- Slices of bytes over this program: what the call owns ('OwnB'), the law for append at bytes, slices.Clone. -/
import Derived.Test.YtkglmacaecmhdaaDoorProg
import Derived.Test.YtkglmacaecmhdaaDoorNum
import Derived.Test.YtkglmacaecmhdaaDoorApp
import Derived.Laws.BytesArg
import Derived.Laws.IdiomStrings
namespace Go.Proofs.YtkglmacaecmhdaaDoor
open Go.RowKit
set_option linter.unusedVariables false

theorem Tryd.info5 : (Tryd.prog.info? 5).map (fun i => (i.zero, i.size, i.bytes)) = some (some (.int .u8 0), 1, 1) := by kernel_rfl

/-- The slice is in memory that the call itself made. -/
def Fresh (w : World) (v : Value) : Prop := ∀ k, v.ownBlock = some k → w.heap.size ≤ k

/-- The call owns the slice v (blocks from base on), and it holds the bytes l. -/
def OwnB (w : World) (base : Nat) (v : Value) (l : List UInt8) : Prop := w.ownsRow base 5 1 v l.length (l.map u8c)

theorem OwnB.nil (w : World) (base : Nat) : OwnB w base (.slice none 0 0) [] := World.ownsRow_nil _ _ _ _
theorem OwnB.bs {w : World} {base : Nat} {v : Value} {l : List UInt8} (h : OwnB w base v l) : BS w v l := BS.of_own h
theorem OwnB.lt {w : World} {base : Nat} {v : Value} {l : List UInt8} (h : OwnB w base v l) : ∀ k, v.ownBlock = some k → base ≤ k ∧ k < w.heap.size := World.ownsRow.lt h
theorem OwnB.keep {w w' : World} {base : Nat} {v : Value} {l : List UInt8} (h : OwnB w base v l) (hb : ∀ k, v.ownBlock = some k → w'.heap[k]? = w.heap[k]?) : OwnB w' base v l := by
  obtain ⟨h1, h2⟩ := h
  refine ⟨h1, ?_⟩
  rcases h2 with h2 | ⟨g, cap, cur, rfl, hg, hh, r⟩
  · exact .inl h2
  · exact .inr ⟨g, cap, cur, rfl, hg, (hb g rfl).trans hh, r⟩
theorem OwnB.fr {S : List Nat} {w w' : World} {base : Nat} {v : Value} {l : List UInt8} (h : OwnB w base v l) (hf : Fr S w w') (hn : ∀ k, v.ownBlock = some k → k ∉ S) : OwnB w' base v l :=
  h.keep fun k hk => hf.block k (h.lt k hk).2 (hn k hk)
theorem OwnB.base {w : World} {base base' : Nat} {v : Value} {l : List UInt8} (h : OwnB w base v l) (hb : base' ≤ base) : OwnB w base' v l := by
  obtain ⟨h1, h2⟩ := h
  refine ⟨h1, ?_⟩
  rcases h2 with h2 | ⟨g, cap, cur, rfl, hg, r⟩
  · exact .inl h2
  · exact .inr ⟨g, cap, cur, rfl, Nat.le_trans hb hg, r⟩
/-- A new block whose first cells are the bytes. -/
theorem OwnB.made {w : World} {base g : Nat} {l : List UInt8} {cs : Array Value} (hh : w.heap[g]? = some (.cells cs 5 (0, 0))) (hb : base ≤ g) (hc : cs.toList = l.map u8c) (hm : l.length ≤ maxLen) : OwnB w base (.slice (some ⟨g, 0, none⟩) l.length l.length) l := by
  have hsz : cs.size = l.length := by rw [← Array.length_toList, hc, List.length_map]
  refine ⟨by simp, .inr ⟨g, l.length, cs, rfl, hb, hh, Nat.le_refl _, hm, by omega, ?_⟩⟩
  rw [Nat.mul_one, List.take_of_length_le (by rw [Array.length_toList]; omega), hc]

/-- 'append' at bytes, from whatever source. -/
theorem app_b {w : World} {ops : Array Oper} {rest : List Oper} {o : Oper} {a : Act} {Q : Exit → Act → World → Prop} (hgd : o.guard = none) (s x : Operand) (u : TypeId)
    (ho : o.op = .call { callee := .builtin .append, args := #[s, x], argTypes := #[22, u] }) (base : Nat)
    (v : Value) (l : List UInt8) (hs : a.eval s = v) (hown : OwnB w base v l)
    (xv : Value) (l2 : List UInt8) (hx : a.eval x = xv) (hsrc : Src Tryd.prog w u 1 xv l2.length (l2.map u8c))
    (hlen : l.length + l2.length ≤ 1099511627776) (hbase : base ≤ w.heap.size)
    (h : ∀ v' w', OwnB w' base v' (l ++ l2) → w.grownBy w' v.ownBlock → (∀ k, v'.ownBlock = some k → v.ownBlock = some k ∨ w.heap.size ≤ k) → wpList Tryd.prog ops Q rest (a.put o.dst v') w') : wpList Tryd.prog ops Q (o :: rest) a w := by
  obtain ⟨i0, hi, hz0, hz1, hz2⟩ := info_parts Tryd.info5
  refine wpList_append_any hgd s x 22 u ho base 5 i0 (.int .u8 0) 1 1 Tryd.underlying22 hi hz0 hz1 hz2 rfl (by decide) v l.length _ hs hown xv l2.length _ hx hsrc (by unfold maxLen; omega) (by omega) hbase ?_
  intro v' w' h1 h2 h3
  refine h v' w' ?_ h2 h3
  unfold OwnB
  rw [List.length_append, List.map_append]
  exact h1

/-- 'string(b)'. -/
theorem str_of_bs {w : World} {v : Value} {l : List UInt8} (h : BS w v l) : (convert 22 9 v).run Tryd.prog w = .ok (.string ⟨l.toArray⟩) w := by
  obtain ⟨a, c, rfl, h1, h2, h3⟩ := h
  cases a with
  | none =>
    cases l with
    | nil => exact run_convert_bytes_nil w 22 5 Tryd.underlying22 Tryd.underlying5 _ _ 9 Tryd.underlying9
    | cons x l => obtain ⟨b, o, hh, _⟩ := h3 0 x rfl; cases hh
  | some ad =>
    refine run_convert_bytes_back w 22 9 5 ad c l Tryd.underlying22 Tryd.underlying5 Tryd.underlying9 fun j hj => ?_
    obtain ⟨b, o, hh, hc⟩ := h3 j _ (List.getElem?_eq_getElem hj)
    cases hh
    rw [Addr.add_lit]
    exact hc

def ClonePost (w : World) (l : List UInt8) (e : Ending) (w' : World) : Prop :=
  ∃ v', e = .returned v' ∧ BS w' v' l ∧ Fresh w v' ∧ Fr [] w w'

set_option maxRecDepth 20000 in
set_option maxHeartbeats 400000 in
theorem clone_any (v : Value) (l : List UInt8) (w : World) (h : BS w v l) (hl : l.length ≤ 1099511627776) : Calls Tryd.prog 53 #[v] w (ClonePost w l) := by
  obtain ⟨a, c, rfl, h1, h2⟩ := h.len
  have hnil := fun w => Lib.run_eql_slice_nil (P := Tryd.prog) w 22 5 a l.length c 0 0 Tryd.underlying22
  cases a with
  | none =>
    go_enter Tryd.func53, Tryd.ntmps53
    go_wp2
    go_ret
    have : l = [] := by
      cases l with
      | nil => rfl
      | cons x l => obtain ⟨a, c, he, _, _, h3⟩ := h; obtain ⟨b, o, hh, _⟩ := h3 0 x rfl; cases he; cases hh
    subst this
    exact ⟨_, rfl, BS.nil _, fun k hk => by simp [Value.ownBlock] at hk, Fr.refl _ _⟩
  | some ad =>
    have H := Lib.hid h
    clear h
    go_enter Tryd.func53, Tryd.ntmps53
    go_wp2_with (first | (at_builtin; refine app_b rfl (.tmp 5) (.tmp 6) 22 rfl w.heap.size _ [] rfl ?own _ l rfl ?src ?c3 ?c4 ?_))
    case own => exact OwnB.made (cs := #[]) (heap_alloc_new _ _) (Nat.le_refl _) rfl (Nat.zero_le _)
    case src => exact Src.bytes Tryd.underlying22 (H.out.fr0 ((Fr.refl _ _).alloc _))
    case c3 => simp; omega
    case c4 => simp
    · intro v' w1 hown hg _
      go_wp2
      go_ret
      exact ⟨v', rfl, hown.bs, fun k hk => (hown.lt k hk).1, ((Fr.refl _ _).alloc _).grown hg (fun k hk => .inr (by simp [Value.ownBlock] at hk; omega))⟩
end Go.Proofs.YtkglmacaecmhdaaDoor
