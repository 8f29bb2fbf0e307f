/- 'append' from whatever source (a slice, nil, a string) onto a slice that the call owns: as a law of the walk. Plain: over any program. -/
import Derived.Test.YtkglmacaecmhdaaDoorBase
namespace Go.Proofs.YtkglmacaecmhdaaDoor
open Go Go.RowKit

/-- What is appended: m elements, the cells news, whatever it is. -/
structure Src (P : Program) (w : World) (u : TypeId) (size : Nat) (x : Value) (m : Nat) (news : List Value) : Prop where
  under : P.underlying u = some .string ∨ ∃ e, P.underlying u = some (.slice e)
  len : ∀ w', (Builtin.lenOf x).run P w' = .ok m w'
  first : ∀ w', w'.heap = w.heap → (Builtin.firstCells size m x).run P w' = .ok news.toArray w'
  length : news.length = m * size
  one : ∀ v ∈ news, v.oneCell' = true

theorem Src.string {P : Program} (w : World) {u : TypeId} (hu : P.underlying u = some .string) (s : ByteArray) : Src P w u 1 (.string s) s.size (s.data.toList.map u8c) := by
  refine ⟨.inl hu, fun w' => by simp [Builtin.lenOf], fun w' _ => ?_, by simp, fun v hv => ?_⟩
  · simp only [Builtin.firstCells, Sem.run_pure]
    congr 1
    apply Array.ext'
    have : s.extract 0 s.size = s := by simp
    rw [this]
    simp [u8c]
  · simp only [List.mem_map] at hv
    obtain ⟨x, _, rfl⟩ := hv
    rfl

theorem Src.cells {P : Program} {w : World} {u e : TypeId} (hu : P.underlying u = some (.slice e)) {size : Nat} {a : Option Addr} {m c : Nat} {news : List Value} (hl : news.length = m * size)
    (hc : ∀ j v, news[j]? = some v → ∃ b o, a = some ⟨b, o, none⟩ ∧ w.cell? ⟨b, o + j, none⟩ = some v) (h1 : ∀ v ∈ news, v.oneCell' = true) : Src P w u size (.slice a m c) m news := by
  refine ⟨.inr ⟨e, hu⟩, fun w' => by simp [Builtin.lenOf], fun w' hw => ?_, hl, h1⟩
  cases a with
  | none =>
    cases news with
    | nil => simp [Builtin.firstCells]
    | cons y l => obtain ⟨b, o, h, _⟩ := hc 0 y rfl; cases h
  | some ad =>
    refine run_firstCells_some w' size m ad m c news hl fun j v hj => ?_
    obtain ⟨b, o, h, hcell⟩ := hc j v hj
    cases h
    rw [Addr.add_lit]
    rw [World.cell?_of_block (w := w) (by rw [hw])]
    exact hcell

theorem Src.bytes {P : Program} {w : World} {u e : TypeId} (hu : P.underlying u = some (.slice e)) {v : Value} {l : List UInt8} (h : BS w v l) : Src P w u 1 v l.length (l.map u8c) := by
  obtain ⟨a, c, rfl, h1, h2, h3⟩ := h
  refine Src.cells hu (by simp) (fun j v hj => ?_) (fun v hv => ?_)
  · rw [List.getElem?_map] at hj
    cases hx : l[j]? with
    | none => simp [hx] at hj
    | some x =>
      obtain ⟨b, o, rfl, hc⟩ := h3 j x hx
      simp [hx] at hj
      subst hj
      exact ⟨b, o, rfl, hc⟩
  · simp only [List.mem_map] at hv
    obtain ⟨x, _, rfl⟩ := hv
    rfl

section
variable {P : Program} (w : World)

theorem run_append_any (base : Nat) (t u ty e : TypeId) (i : TypeInfo) (z : Value) (size bytes : Nat) (ht : P.underlying t = some (.slice e)) (hi : P.info? e = some i) (hz : i.zero = some z)
    (hsize : i.size = size) (hby : i.bytes = bytes) (hzs : z.cells.size = size) (hsz : 0 < size)
    (v : Value) (n : Nat) (xs : List Value) (hown : w.ownsRow base e size v n xs)
    (x : Value) (m : Nat) (news : List Value) (hs : Src P w u size x m news)
    (h63 : n + m ≤ maxLen) (hbytes : (n + m) * bytes ≤ 140737488355328) (hbase : base ≤ w.heap.size) :
    ∃ v' w', (Builtin.append_ #[t, u] ty #[v, x]).run P w = .ok v' w' ∧ w'.ownsRow base e size v' (n + m) (xs ++ news) ∧ w.grownBy w' v.ownBlock ∧ (∀ k, v'.ownBlock = some k → v.ownBlock = some k ∨ w.heap.size ≤ k) := by
  subst hsize
  subst hby
  obtain ⟨hu, hlenof, hfirst, hl, h1⟩ := hs
  have hsmall : n + m ≤ 9223372036854775807 := by simp only [maxLen] at h63; omega
  have hlen : (xs ++ news).length = (n + m) * i.size := by rw [List.length_append, hown.1, hl, Nat.add_mul]
  have hf0 := hfirst w rfl
  have hf := hfirst w.drew rfl
  have grown : ∀ (old : Nat), old < n + m → ∀ (row : Option Nat),
      (w.drew.alloc (.cells (xs.toArray ++ news.toArray ++ Builtin.zeroCells z.cells (grownCap w (n + m) old e - (n + m))) e)).ownsRow base e i.size
        (.slice (some ⟨w.heap.size, 0, none⟩) (n + m) (grownCap w (n + m) old e)) (n + m) (xs ++ news) ∧
      w.grownBy (w.drew.alloc (.cells (xs.toArray ++ news.toArray ++ Builtin.zeroCells z.cells (grownCap w (n + m) old e - (n + m))) e)) row := by
    intro old ho row
    have hge := grownCap_ge w (n + m) old e
    have hcm : grownCap w (n + m) old e ≤ maxLen := grownCap_le_maxLen w (n + m) old e h63
    refine ⟨⟨hlen, .inr ⟨w.heap.size, _, _, rfl, hbase, heap_alloc_new w.drew _, hge, hcm, ?_, ?_⟩⟩, ⟨rfl, rfl, rfl, by simp, fun k hk _ => Below.heap_alloc w.drew _ k hk⟩⟩
    · simp only [Array.size_append, List.size_toArray, size_zeroCells, hzs, hown.1, hl, ← Nat.add_mul]
      congr 1
      omega
    · simp only [Array.toList_append, List.append_assoc]
      rw [← List.append_assoc, ← hlen]
      exact List.take_left
  have hnotint : ∃ k, P.underlying u = some k ∧ (match k with | .int _ => true | _ => false) = false := by
    rcases hu with h | ⟨e', h⟩
    · exact ⟨_, h, rfl⟩
    · exact ⟨_, h, rfl⟩
  obtain ⟨ku, hku, hki⟩ := hnotint
  have hrun : ∀ (bs : Option Addr) (sCap : Nat) (olds : List Value), olds.length = n * i.size → (∀ w', w'.heap = w.heap → (Builtin.firstCells i.size n (.slice bs n sCap)).run P w' = .ok olds.toArray w') → sCap < n + m →
      (Builtin.append_ #[t, u] ty #[.slice bs n sCap, x]).run P w = .ok (.slice (some ⟨w.heap.size, 0, none⟩) (n + m) (grownCap w (n + m) sCap e))
        (w.drew.alloc (.cells (olds.toArray ++ news.toArray ++ Builtin.zeroCells z.cells (grownCap w (n + m) sCap e - (n + m))) e)) := by
    intro bs sCap olds hlo hfo hgt
    have hfo1 := hfo w.drew rfl
    have hn : ¬ (n + m ≤ sCap) := by omega
    have h63' : ¬ (9223372036854775807 < ((n : Int) + (m : Int))) := by omega
    have h48' : ¬ (281474976710656 < Builtin.nextslicecap (n + m) sCap * i.bytes) := by have := growslice_fits (old := sCap) (by omega) hbytes; omega
    rcases hu with hu | ⟨e', hu⟩
    · simp [Builtin.append_, run_underlying ht, run_underlying hu, sizeOf, typeInfo, zeroValue, hi, hz, hlenof, hn, h63', h48', Question.forced, hf, hfo1, newRow, grownCap]
      congr 2
      apply Array.ext'
      simp [List.append_assoc]
    · simp [Builtin.append_, run_underlying ht, run_underlying hu, sizeOf, typeInfo, zeroValue, hi, hz, hlenof, hn, h63', h48', Question.forced, hf, hfo1, newRow, grownCap]
      congr 2
      apply Array.ext'
      simp [List.append_assoc]
  rcases hown.2 with ⟨rfl, rfl⟩ | ⟨g, cap, cur, rfl, hbg, hg, hnc, hcm, hcs, htake⟩
  · have hx : xs = [] := List.eq_nil_of_length_eq_zero (by simpa using hown.1)
    subst hx
    by_cases hm : m = 0
    · subst hm
      have hn : news = [] := List.eq_nil_of_length_eq_zero (by simpa using hl)
      subst hn
      refine ⟨.slice none 0 0, w, ?_, World.ownsRow_nil w base e i.size, ⟨rfl, rfl, rfl, Nat.le_refl _, fun _ _ _ => rfl⟩, fun k hk => .inl hk⟩
      rcases hu with hu | ⟨e', hu⟩
      · simp [Builtin.append_, run_underlying ht, run_underlying hu, sizeOf, typeInfo, hi, hlenof, hf0]
      · simp [Builtin.append_, run_underlying ht, run_underlying hu, sizeOf, typeInfo, hi, hlenof, hf0]
    · have hr := hrun none 0 [] (by simp) (fun w' _ => run_firstCells_none w' _ _ _ _) (by omega)
      have hgr := grown 0 (by omega) (Value.ownBlock (.slice none 0 0))
      exact ⟨_, _, hr, hgr.1, hgr.2, fun k hk => .inr (by simp [Value.ownBlock] at hk; omega)⟩
  · by_cases hroom : n + m ≤ cap
    · have hfit : n * i.size + news.length ≤ cur.size := by rw [hl, hcs, ← Nat.add_mul]; exact Nat.mul_le_mul_right _ hroom
      have hst := run_storeCells_at P g (n * i.size) e news 0 cur w hg (by simpa using hfit) h1
      simp only [Nat.add_zero] at hst
      have hr : (Builtin.append_ #[t, u] ty #[.slice (some ⟨g, 0, none⟩) n cap, x]).run P w =
          .ok (.slice (some ⟨g, 0, none⟩) (n + m) cap) (w.setRow g (cur.toList.take (n * i.size) ++ news ++ cur.toList.drop (n * i.size + news.length)).toArray) := by
        rcases hu with hu | ⟨e', hu⟩
        · simp [Builtin.append_, run_underlying ht, run_underlying hu, sizeOf, typeInfo, hi, hlenof, hroom, hf0, Addr.add_lit, hst]
        · simp [Builtin.append_, run_underlying ht, run_underlying hu, sizeOf, typeInfo, hi, hlenof, hroom, hf0, Addr.add_lit, hst]
      refine ⟨_, _, hr, ⟨hlen, .inr ⟨g, cap, _, rfl, hbg, setRow_heap w g cur _ e _ hg, hroom, hcm, ?_, ?_⟩⟩, ⟨rfl, rfl, rfl, by simp, fun k _ hk => setRow_other w g k _ (fun e => hk (by simp [Value.ownBlock, e]))⟩, fun k hk => .inl hk⟩
      · simp only [List.size_toArray, List.length_append, List.length_take, List.length_drop, Array.length_toList]
        omega
      · rw [htake, ← hlen]
        exact List.take_left
    · have holds : ∀ j v, xs[j]? = some v → w.cell? ((⟨g, 0, none⟩ : Addr).add j) = some v := hown.cells (g := g) rfl
      have hr := hrun (some ⟨g, 0, none⟩) cap xs hown.1 (fun w' hw => run_firstCells_some w' i.size n ⟨g, 0, none⟩ n cap xs hown.1 fun j v hj => by rw [World.cell?_of_block (w := w) (by rw [hw])]; exact holds j v hj) (by omega)
      have hgr := grown cap (by omega) (Value.ownBlock (.slice (some ⟨g, 0, none⟩) n cap))
      exact ⟨_, _, hr, hgr.1, hgr.2, fun k hk => .inr (by simp [Value.ownBlock] at hk; omega)⟩

theorem wp_append_any {o : Oper} {a : Act} {K : Act → World → Prop} {Q : Exit → Act → World → Prop} (s x : Operand) (t u : TypeId)
    (ho : o.op = .call { callee := .builtin .append, args := #[s, x], argTypes := #[t, u] })
    (base : Nat) (e : TypeId) (i : TypeInfo) (z : Value) (size bytes : Nat) (ht : P.underlying t = some (.slice e)) (hi : P.info? e = some i) (hz : i.zero = some z)
    (hsize : i.size = size) (hby : i.bytes = bytes) (hzs : z.cells.size = size) (hsz : 0 < size)
    (v : Value) (n : Nat) (xs : List Value) (hs : a.eval s = v) (hown : w.ownsRow base e size v n xs)
    (xv : Value) (m : Nat) (news : List Value) (hx : a.eval x = xv) (hsrc : Src P w u size xv m news)
    (h63 : n + m ≤ maxLen) (hbytes : (n + m) * bytes ≤ 140737488355328) (hbase : base ≤ w.heap.size)
    (h : ∀ v' w', w'.ownsRow base e size v' (n + m) (xs ++ news) → w.grownBy w' v.ownBlock → (∀ k, v'.ownBlock = some k → v.ownBlock = some k ∨ w.heap.size ≤ k) → K (a.put o.dst v') w') : o.wp P a w K Q := by
  obtain ⟨v', w', hr, h2, h3, h4⟩ := run_append_any (P := P) w base t u o.type e i z size bytes ht hi hz hsize hby hzs hsz v n xs hown xv m news hsrc h63 hbytes hbase
  unfold Oper.wp execOp
  simp only [ho, resolve, invoke, builtin, Sem.run_bind, Sem.run_pure, Result.andThen_ok, List.map_toArray, List.map_cons, List.map_nil, hs, hx, hr]
  exact h v' w' h2 h3 h4
end

theorem wpList_append_any {P : Program} {w : World} {ops : Array Oper} {rest : List Oper} {o : Oper} {a : Act} {Q : Exit → Act → World → Prop} (hgd : o.guard = none) (s x : Operand) (t u : TypeId)
    (ho : o.op = .call { callee := .builtin .append, args := #[s, x], argTypes := #[t, u] })
    (base : Nat) (e : TypeId) (i : TypeInfo) (z : Value) (size bytes : Nat) (ht : P.underlying t = some (.slice e)) (hi : P.info? e = some i) (hz : i.zero = some z)
    (hsize : i.size = size) (hby : i.bytes = bytes) (hzs : z.cells.size = size) (hsz : 0 < size)
    (v : Value) (n : Nat) (xs : List Value) (hs : a.eval s = v) (hown : w.ownsRow base e size v n xs)
    (xv : Value) (m : Nat) (news : List Value) (hx : a.eval x = xv) (hsrc : Src P w u size xv m news)
    (h63 : n + m ≤ maxLen) (hbytes : (n + m) * bytes ≤ 140737488355328) (hbase : base ≤ w.heap.size)
    (h : ∀ v' w', w'.ownsRow base e size v' (n + m) (xs ++ news) → w.grownBy w' v.ownBlock → (∀ k, v'.ownBlock = some k → v.ownBlock = some k ∨ w.heap.size ≤ k) → wpList P ops Q rest (a.put o.dst v') w') : wpList P ops Q (o :: rest) a w :=
  wpList_plain hgd fun _ hK => wp_append_any w s x t u ho base e i z size bytes ht hi hz hsize hby hzs hsz v n xs hs hown xv m news hx hsrc h63 hbytes hbase fun v' w' h2 h3 h4 => hK _ _ (h v' w' h2 h3 h4)
end Go.Proofs.YtkglmacaecmhdaaDoor
