/- The common words of this seat's proofs: a frame that lists the blocks that may have turned ('Fr'), a slice of bytes that reads as a list ('BS'), and how both are carried along. No program in sight. -/
import Derived.WalkKit
import Derived.WalkSpells
import Derived.WalkLawsBesides
import Derived.Lib.Hide
namespace Go.Proofs.YtkglmacaecmhdaaDoor
open Go.RowKit

/-- The cell of a byte. -/
def u8c (x : UInt8) : Value := .int .u8 (x.toNat : Int)

/-- World w' is w but for the blocks in S and for new ones. -/
structure Fr (S : List Nat) (w w' : World) : Prop where
  os : w'.os = w.os
  tape : w'.tape = w.tape
  output : w'.output = w.output
  size : w.heap.size ≤ w'.heap.size
  block : ∀ k, k < w.heap.size → k ∉ S → w'.heap[k]? = w.heap[k]?

theorem Fr.refl (S : List Nat) (w : World) : Fr S w w := ⟨rfl, rfl, rfl, Nat.le_refl _, fun _ _ _ => rfl⟩

theorem Fr.trans {S T : List Nat} {a b c : World} (h : Fr S a b) (k : Fr T b c) (hT : ∀ x ∈ T, x ∈ S ∨ a.heap.size ≤ x) : Fr S a c :=
  ⟨k.os.trans h.os, k.tape.trans h.tape, k.output.trans h.output, Nat.le_trans h.size k.size, fun i hi hn =>
    (k.block i (Nat.lt_of_lt_of_le hi h.size) (fun hm => by rcases hT i hm with h' | h'; exact hn h'; omega)).trans (h.block i hi hn)⟩

theorem Fr.drew {S : List Nat} {a w : World} (h : Fr S a w) : Fr S a w.drew := ⟨h.os, h.tape, h.output, h.size, h.block⟩

theorem Fr.drewN {S : List Nat} {a w : World} (h : Fr S a w) (n : Nat) : Fr S a (w.drewN n) := ⟨h.os, h.tape, h.output, h.size, h.block⟩

theorem Fr.alloc {S : List Nat} {a w : World} (h : Fr S a w) (o : Obj) : Fr S a (w.alloc o) :=
  h.trans (T := []) ⟨rfl, rfl, rfl, by simp, fun k hk _ => Below.heap_alloc _ _ _ hk⟩ (fun _ h => by cases h)

theorem Fr.setCell {S : List Nat} {a w : World} (h : Fr S a w) {p : Addr} (hp : p.block ∈ S ∨ a.heap.size ≤ p.block) (u : Value) : Fr S a (w.setCell p u) :=
  h.trans (T := [p.block]) ⟨rfl, rfl, rfl, by simp [World.setCell], fun k hk hn => Below.heap_setCell _ _ _ _ (by simpa using hn)⟩ (fun x hx => by simp at hx; subst hx; exact hp)

theorem Fr.grown {S : List Nat} {a w w' : World} {row : Option Nat} (h : Fr S a w) (hg : w.grownBy w' row) (hr : ∀ k, row = some k → k ∈ S ∨ a.heap.size ≤ k) : Fr S a w' :=
  ⟨hg.os.trans h.os, hg.tape.trans h.tape, hg.output.trans h.output, Nat.le_trans h.size hg.size, fun k hk hn =>
    (hg.block k (Nat.lt_of_lt_of_le hk h.size) (fun e => by rcases hr k e.symm with h' | h'; exact hn h'; omega)).trans (h.block k hk hn)⟩

theorem Fr.mono {S T : List Nat} {a w : World} (h : Fr S a w) (hs : ∀ x ∈ S, x ∈ T ∨ a.heap.size ≤ x) : Fr T a w :=
  ⟨h.os, h.tape, h.output, h.size, fun k hk hn => h.block k hk (fun hm => by rcases hs k hm with h' | h'; exact hn h'; omega)⟩

theorem Fr.below {a w : World} (h : Fr [] a w) : Below a.heap.size a w := ⟨h.os, h.tape, h.output, h.size, fun k hk => h.block k hk (by simp)⟩
theorem Fr.of_below {a w : World} (h : Below a.heap.size a w) : Fr [] a w := ⟨h.os, h.tape, h.output, h.size, fun k hk _ => h.block k hk⟩

theorem Fr.heap {S : List Nat} {a w : World} (h : Fr S a w) {k : Nat} {o : Obj} (hk : a.heap[k]? = some o) (hn : k ∉ S) : w.heap[k]? = some o :=
  (h.block k (lt_of_block hk) hn).trans hk

theorem Fr.cell {S : List Nat} {a w : World} (h : Fr S a w) {p : Addr} {v : Value} (hk : a.cell? p = some v) (hn : p.block ∉ S) : w.cell? p = some v :=
  (World.cell?_of_block (h.block p.block (World.block_lt_of_cell? a p hk) hn)).trans hk

/-- A slice of bytes that reads as the list l. -/
def BS (w : World) (v : Value) (l : List UInt8) : Prop :=
  ∃ a c, v = .slice a l.length c ∧ l.length ≤ c ∧ c ≤ maxLen ∧ ∀ j x, l[j]? = some x → ∃ b o, a = some ⟨b, o, none⟩ ∧ w.cell? ⟨b, o + j, none⟩ = some (u8c x)

theorem BS.nil (w : World) : BS w (.slice none 0 0) [] := ⟨none, 0, rfl, Nat.le_refl _, Nat.zero_le _, fun j x h => by simp at h⟩

/-- The cell of a block that lies there whole. -/
theorem cell_of_block {w : World} {g : Nat} {cs : Array Value} {t : TypeId} {fr : Nat × Nat} (h : w.heap[g]? = some (.cells cs t fr)) (i : Nat) : w.cell? ⟨g, i, none⟩ = cs[i]? := by simp [World.cell?, h]
theorem free_of_block {w : World} {g : Nat} {cs : Array Value} {t : TypeId} (h : w.heap[g]? = some (.cells cs t (0, 0))) (i : Nat) : w.frozen? ⟨g, i, none⟩ = false := by simp [World.frozen?, h]
theorem block_setCell {w : World} {g : Nat} {cs : Array Value} {t : TypeId} {fr : Nat × Nat} (h : w.heap[g]? = some (.cells cs t fr)) (i : Nat) (v : Value) : (w.setCell ⟨g, i, none⟩ v).heap[g]? = some (.cells (cs.setIfInBounds i v) t fr) := by
  have hlt := lt_of_block h
  have h' : w.heap[g] = .cells cs t fr := by simpa [Array.getElem?_eq_getElem hlt] using h
  show (w.heap.modify g _)[g]? = _
  rw [Array.getElem?_eq_getElem (by simpa using hlt), Array.getElem_modify_self, h']
  rfl
theorem block_setCell_other {w : World} {g k : Nat} {o : Obj} (h : w.heap[g]? = some o) (i : Nat) (v : Value) (hne : g ≠ k) : (w.setCell ⟨k, i, none⟩ v).heap[g]? = some o := by
  rw [Below.heap_setCell _ _ _ _ hne]; exact h

theorem alloc_at (w : World) (o : Obj) (k : Nat) (h : k = w.heap.size) : (w.alloc o).heap[k]? = some o := by rw [h]; exact heap_alloc_new _ _
theorem alloc_past {w : World} (o : Obj) {k : Nat} {o' : Obj} (h : w.heap[k]? = some o') : (w.alloc o).heap[k]? = some o' := by rw [Below.heap_alloc _ _ _ (lt_of_block h)]; exact h
/-- A slice of bytes reads on in a world in which its block is as it was. -/
theorem BS.keep {w w' : World} {v : Value} {l : List UInt8} (h : BS w v l) (hb : ∀ k, v.ownBlock = some k → w'.heap[k]? = w.heap[k]?) : BS w' v l := by
  obtain ⟨a, c, rfl, h1, h2, h3⟩ := h
  refine ⟨a, c, rfl, h1, h2, fun j x hj => ?_⟩
  obtain ⟨b, o, rfl, hc⟩ := h3 j x hj
  exact ⟨b, o, rfl, by rw [World.cell?_of_block (w := w) (by exact hb b (by simp [Value.ownBlock]))]; exact hc⟩

theorem BS.fr {S : List Nat} {w w' : World} {v : Value} {l : List UInt8} (h : BS w v l) (hf : Fr S w w') (hn : ∀ k, v.ownBlock = some k → k ∉ S) : BS w' v l := by
  obtain ⟨a, c, rfl, h1, h2, h3⟩ := h
  refine ⟨a, c, rfl, h1, h2, fun j x hj => ?_⟩
  obtain ⟨b, o, rfl, hc⟩ := h3 j x hj
  exact ⟨b, o, rfl, hf.cell hc (hn b (by simp [Value.ownBlock]))⟩

/-- An empty slice reads in every world: only what is read must stay. -/
theorem BS.fr1 {S : List Nat} {w w' : World} {v : Value} {l : List UInt8} (h : BS w v l) (hf : Fr S w w') (hn : l ≠ [] → ∀ k, v.ownBlock = some k → k ∉ S) : BS w' v l := by
  cases l with
  | nil =>
    obtain ⟨a, c, rfl, h1, h2, h3⟩ := h
    exact ⟨a, c, rfl, h1, h2, fun j x hj => by simp at hj⟩
  | cons x l => exact h.fr hf (hn (by simp))
theorem BS.lt {w : World} {v : Value} {l : List UInt8} (h : BS w v l) (hl : l ≠ []) : ∀ k, v.ownBlock = some k → k < w.heap.size := by
  intro k hk
  obtain ⟨a, c, rfl, h1, h2, h3⟩ := h
  cases l with
  | nil => exact absurd rfl hl
  | cons x l =>
    obtain ⟨b, o, rfl, hc⟩ := h3 0 x rfl
    simp [Value.ownBlock] at hk
    subst hk
    exact World.block_lt_of_cell? w _ hc
theorem BS.kb {w : World} {v : Value} {l : List UInt8} (h : BS w v l) (b : Nat) (hb : w.heap.size ≤ b) : ∃ kb, (l ≠ [] → ∀ k, v.ownBlock = some k → k = kb) ∧ kb ≠ b := by
  cases l with
  | nil => exact ⟨b + 1, fun h => absurd rfl h, by omega⟩
  | cons x l =>
    have hlt := h.lt (by simp)
    cases hv : v.ownBlock with
    | none => exact ⟨b + 1, fun _ k hk => by simp at hk, by omega⟩
    | some k => exact ⟨k, fun _ k' hk => by simp at hk; omega, by have := hlt k hv; omega⟩
theorem BS.fr0 {w w' : World} {v : Value} {l : List UInt8} (h : BS w v l) (hf : Fr [] w w') : BS w' v l := h.fr hf (fun _ _ => by simp)

/-- What a slice of bytes looks like: empty at whatever address, or a row of cells. -/
theorem BS.cases {w : World} {v : Value} {l : List UInt8} (h : BS w v l) : (l = [] ∧ ∃ a c, v = .slice a 0 c ∧ c ≤ maxLen) ∨
    ∃ b o c, v = .slice (some ⟨b, o, none⟩) l.length c ∧ 0 < l.length ∧ l.length ≤ c ∧ c ≤ maxLen ∧ b < w.heap.size ∧ ∀ j x, l[j]? = some x → w.cell? ⟨b, o + j, none⟩ = some (u8c x) := by
  obtain ⟨a, c, rfl, h1, h2, h3⟩ := h
  cases l with
  | nil => exact .inl ⟨rfl, a, c, rfl, h2⟩
  | cons y l =>
    refine .inr ?_
    obtain ⟨b, o, rfl, hc⟩ := h3 0 y rfl
    refine ⟨b, o, c, rfl, by simp, h1, h2, World.block_lt_of_cell? w _ hc, fun j x hj => ?_⟩
    obtain ⟨b', o', he, hc⟩ := h3 j x hj
    cases he
    exact hc

theorem BS.len {w : World} {v : Value} {l : List UInt8} (h : BS w v l) : ∃ a c, v = .slice a l.length c ∧ l.length ≤ c ∧ c ≤ maxLen := by
  obtain ⟨a, c, rfl, h1, h2, h3⟩ := h
  exact ⟨a, c, rfl, h1, h2⟩

theorem BS.mk_row {w : World} {b o c : Nat} {l : List UInt8} (h1 : l.length ≤ c) (h2 : c ≤ maxLen) (h3 : ∀ j x, l[j]? = some x → w.cell? ⟨b, o + j, none⟩ = some (u8c x)) : BS w (.slice (some ⟨b, o, none⟩) l.length c) l :=
  ⟨_, c, rfl, h1, h2, fun j x hj => ⟨b, o, rfl, h3 j x hj⟩⟩

/-- What the call owns reads as a list. -/
theorem BS.of_own {w : World} {base : Nat} {v : Value} {n : Nat} {l : List UInt8} (h : w.ownsRow base 5 1 v n (l.map u8c)) : BS w v l := by
  obtain ⟨hl, h⟩ := h
  simp at hl
  subst hl
  rcases h with ⟨rfl, h0⟩ | ⟨g, cap, cur, rfl, _, hh, hn, hm, hs, ht⟩
  · have : l = [] := List.eq_nil_of_length_eq_zero h0
    subst this
    exact BS.nil w
  · refine BS.mk_row hn hm fun j x hj => ?_
    rw [cell_of_block hh]
    have hjl : j < l.length := by
      rcases Nat.lt_or_ge j l.length with h | h
      · exact h
      · rw [List.getElem?_eq_none h] at hj; cases hj
    have := congrArg (fun k => k[j]?) ht
    simp only [Nat.mul_one, List.getElem?_take, List.getElem?_map, hj, Option.map_some, if_pos hjl] at this
    simpa using this

/-- Where a slice's cells begin behind 's[n:]'. -/
def aft (a : Option Addr) (c n : Nat) : Option Addr := if c = n then a else a.map (·.add n)
theorem aft_def (a : Option Addr) (c n : Nat) : (if c = n then a else Option.map (fun x => x.add n) a) = aft a c n := rfl
theorem aft_some (b o c n : Nat) : aft (some ⟨b, o, none⟩) c n = if c = n then some ⟨b, o, none⟩ else some ⟨b, o + n, none⟩ := by
  unfold aft
  rw [Option.map_some, Addr.add_lit]
theorem aft_own (a : Option Addr) (c n m k : Nat) (l c' : Nat) : (Value.slice (aft a c n) m k).ownBlock = (Value.slice a l c').ownBlock := by
  unfold aft
  split
  · cases a <;> rfl
  · cases a with
    | none => rfl
    | some ad => simp only [Option.map_some, Value.ownBlock, Addr.add]; split <;> rfl

theorem BS.take {w : World} {a : Option Addr} {len c : Nat} {l : List UInt8} (h : BS w (.slice a len c) l) (n : Nat) (hn : n ≤ len) : BS w (.slice a n c) (l.take n) := by
  obtain ⟨a', c', he, h1, h2, h3⟩ := h
  cases he
  refine ⟨a, c, by rw [List.length_take, Nat.min_eq_left hn], by rw [List.length_take]; omega, h2, fun j x hj => ?_⟩
  rw [List.getElem?_take] at hj
  split at hj
  · exact h3 j x hj
  · cases hj

theorem BS.drop {w : World} {a : Option Addr} {len c : Nat} {l : List UInt8} (h : BS w (.slice a len c) l) (n : Nat) (hn : n ≤ len) : BS w (.slice (aft a c n) (len - n) (c - n)) (l.drop n) := by
  obtain ⟨a', c', he, h1, h2, h3⟩ := h
  cases he
  refine ⟨_, c - n, by rw [List.length_drop], by rw [List.length_drop]; omega, by omega, fun j x hj => ?_⟩
  rw [List.getElem?_drop] at hj
  obtain ⟨b, o, rfl, hc⟩ := h3 (n + j) x hj
  have hlt : n + j < l.length := by
    rcases Nat.lt_or_ge (n + j) l.length with h | h
    · exact h
    · rw [List.getElem?_eq_none h] at hj; cases hj
  refine ⟨b, o + n, by unfold aft; rw [if_neg (by omega), Option.map_some, Addr.add_lit], ?_⟩
  rw [Nat.add_assoc]; exact hc

theorem BS.eq_len {w : World} {a : Option Addr} {n c : Nat} {l : List UInt8} (h : BS w (.slice a n c) l) : n = l.length ∧ n ≤ c ∧ c ≤ maxLen := by
  obtain ⟨a', c', he, h1, h2, h3⟩ := h
  cases he
  exact ⟨rfl, h1, h2⟩
end Go.Proofs.YtkglmacaecmhdaaDoor
