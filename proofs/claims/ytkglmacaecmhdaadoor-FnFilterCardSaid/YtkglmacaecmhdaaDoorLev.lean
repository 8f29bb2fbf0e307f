/- spec.levels: the levels of a text. -/
import Derived.Test.YtkglmacaecmhdaaDoorIso
import Derived.Test.YtkglmacaecmhdaaDoorNum
import Derived.Test.YtkglmacaecmhdaaDoorBuf
namespace Go.Proofs.YtkglmacaecmhdaaDoor
open Go.RowKit
set_option linter.unusedVariables false

theorem Tryd.info9 : (Tryd.prog.info? 9).map (fun i => (i.zero, i.size, i.bytes)) = some (some (.string ByteArray.empty), 1, 16) := by kernel_rfl

/-- The call owns the slice v of strings. -/
def OwnS (w : World) (base : Nat) (v : Value) (l : List (List UInt8)) : Prop := w.ownsRow base 9 1 v l.length (l.map strc)
theorem OwnS.lt {w : World} {base : Nat} {v : Value} {l : List (List UInt8)} (h : OwnS w base v l) : ∀ k, v.ownBlock = some k → base ≤ k ∧ k < w.heap.size := World.ownsRow.lt h
theorem OwnS.keep {w w' : World} {base : Nat} {v : Value} {l : List (List UInt8)} (h : OwnS w base v l) (hb : ∀ k, v.ownBlock = some k → w'.heap[k]? = w.heap[k]?) : OwnS w' base v l := by
  obtain ⟨h1, h2⟩ := h
  refine ⟨h1, ?_⟩
  rcases h2 with h2 | ⟨g, cap, cur, rfl, hg, hh, r⟩
  · exact .inl h2
  · exact .inr ⟨g, cap, cur, rfl, hg, (hb g rfl).trans hh, r⟩
theorem OwnS.fr {S : List Nat} {w w' : World} {base : Nat} {v : Value} {l : List (List UInt8)} (h : OwnS w base v l) (hf : Fr S w w') (hn : ∀ k, v.ownBlock = some k → k ∉ S) : OwnS w' base v l :=
  h.keep fun k hk => hf.block k (h.lt k hk).2 (hn k hk)
theorem OwnS.made {w : World} {base g : Nat} {l : List (List UInt8)} {cs : Array Value} (hh : w.heap[g]? = some (.cells cs 9 (0, 0))) (hb : base ≤ g) (hc : cs.toList = l.map strc) (hm : l.length ≤ maxLen) : OwnS w base (.slice (some ⟨g, 0, none⟩) l.length l.length) l := by
  have hsz : cs.size = l.length := by rw [← Array.length_toList, hc, List.length_map]
  refine ⟨by simp, .inr ⟨g, l.length, cs, rfl, hb, hh, Nat.le_refl _, hm, by omega, ?_⟩⟩
  rw [Nat.mul_one, List.take_of_length_le (by rw [Array.length_toList]; omega), hc]

/-- 'append' of one string. -/
theorem app_s {w : World} {ops : Array Oper} {rest : List Oper} {o : Oper} {a : Act} {Q : Exit → Act → World → Prop} (hgd : o.guard = none) (s x : Operand)
    (ho : o.op = .call { callee := .builtin .append, args := #[s, x], argTypes := #[95, 95] }) (base : Nat)
    (v : Value) (l : List (List UInt8)) (hs : a.eval s = v) (hown : OwnS w base v l)
    (g : Nat) (y : List UInt8) (hx : a.eval x = .slice (some ⟨g, 0, none⟩) 1 1) (hsrc : w.cell? ⟨g, 0, none⟩ = some (strc y))
    (hlen : l.length ≤ 1099511627776) (hbase : base ≤ w.heap.size)
    (h : ∀ v' w', OwnS w' base v' (l ++ [y]) → w.grownBy w' v.ownBlock → (∀ k, v'.ownBlock = some k → v.ownBlock = some k ∨ w.heap.size ≤ k) → wpList Tryd.prog ops Q rest (a.put o.dst v') w') : wpList Tryd.prog ops Q (o :: rest) a w := by
  obtain ⟨i0, hi, hz0, hz1, hz2⟩ := info_parts Tryd.info9
  refine wpList_append_any hgd s x 95 95 ho base 9 i0 (.string ByteArray.empty) 1 16 Tryd.underlying95 hi hz0 hz1 hz2 rfl (by decide) v l.length _ hs hown _ 1 [strc y] hx
    (Src.cells Tryd.underlying95 rfl (fun j v hj => ?_) (fun v hv => ?_)) (by unfold maxLen; omega) (by omega) hbase ?_
  · cases j with
    | zero => simp at hj; subst hj; exact ⟨g, 0, rfl, hsrc⟩
    | succ j => simp at hj
  · simp at hv
    subst hv
    rfl
  intro v' w' h1 h2 h3
  refine h v' w' ?_ h2 h3
  unfold OwnS
  rw [List.length_append, List.map_append]
  exact h1

/-- The row's parts, where it is not empty. -/
theorem OwnS.parts {w : World} {base : Nat} {v : Value} {pre : List (List UInt8)} {cur : List UInt8} (h : OwnS w base v (pre ++ [cur])) :
    ∃ g cap, v = .slice (some ⟨g, 0, none⟩) (pre.length + 1) cap ∧ base ≤ g ∧ w.cell? ⟨g, pre.length, none⟩ = some (strc cur) ∧ w.frozen? ⟨g, pre.length, none⟩ = false ∧ pre.length + 1 ≤ cap ∧ cap ≤ maxLen ∧
      ∀ y, OwnS (w.setCell ⟨g, pre.length, none⟩ (strc y)) base v (pre ++ [y]) := by
  obtain ⟨h1, h2⟩ := h
  rcases h2 with ⟨_, h2⟩ | ⟨g, cap, cs, rfl, hg, hh, h3, h4, h5, h6⟩
  · simp at h2
  simp only [List.length_append, List.length_singleton, Nat.mul_one] at h3 h5 h6 ⊢
  refine ⟨g, cap, rfl, hg, ?_, free_of_block hh _, h3, h4, fun y => ⟨by simp, .inr ⟨g, cap, cs.setIfInBounds pre.length (strc y), by simp, hg, block_setCell hh _ _, by simp; omega, h4, by simp; omega, ?_⟩⟩⟩
  · rw [cell_of_block hh, ← Array.getElem?_toList]
    have : (cs.toList.take (pre.length + 1))[pre.length]? = some (strc cur) := by rw [h6]; simp
    rwa [List.getElem?_take_of_lt (by omega)] at this
  · rw [Array.toList_setIfInBounds]
    simp only [List.length_append, List.length_singleton, Nat.mul_one, List.map_append, List.map_cons, List.map_nil] at h6 ⊢
    rw [List.take_set, h6, List.set_append_right _ _ (by simp)]
    simp

/-- The levels of a text, one being read. -/
def lvR : List UInt8 → List UInt8 → List (List UInt8)
  | cur, [] => [cur]
  | cur, x :: l => if x = 47 then cur :: lvR [] l else lvR (cur ++ [x]) l
def lvs (l : List UInt8) : List (List UInt8) := lvR [] l
theorem lvR_head : ∀ (l cur : List UInt8), ∃ rest, lvR cur l = (cur ++ lev0 l) :: rest
  | [], cur => ⟨[], by simp [lvR, lev0]⟩
  | x :: l, cur => by
    rw [lvR]
    by_cases hx : x = 47
    · rw [if_pos hx]
      exact ⟨_, by subst hx; simp [lev0]; rfl⟩
    · rw [if_neg hx]
      obtain ⟨rest, h⟩ := lvR_head l (cur ++ [x])
      exact ⟨rest, by rw [h]; simp [lev0, hx]⟩

theorem OwnS.alloc {w : World} {base : Nat} {v : Value} {l : List (List UInt8)} (h : OwnS w base v l) (o : Obj) : OwnS (w.alloc o) base v l :=
  h.keep fun k hk => Below.heap_alloc _ _ _ (h.lt k hk).2
theorem ext1 (s : ByteArray) (k : Nat) (x : UInt8) (h : (bl s)[k]? = some x) (cur : List UInt8) : Value.string ((⟨cur.toArray⟩ : ByteArray) ++ s.extract k (k + 1)) = strc (cur ++ [x]) := by
  have e : ((bl s).drop k).take (k + 1 - k) = [x] := by
    rw [show k + 1 - k = 1 by omega, List.drop_eq_getElem?_toList_append, h]
    rfl
  rw [strc, Lib.extract_eq]
  show Value.string ((⟨cur.toArray⟩ : ByteArray) ++ ⟨(((bl s).drop k).take (k + 1 - k)).toArray⟩) = _
  rw [e]
  congr 1

def LevPost (w : World) (L : List (List UInt8)) (e : Ending) (w' : World) : Prop :=
  ∃ v, e = .returned v ∧ OwnS w' 0 v L ∧ Fresh w v ∧ Fr [] w w'
/-- What the loop keeps. -/
def LevRel (w : World) (l : List UInt8) (k : Nat) (v : Value) (wr : World) : Prop :=
  ∃ pre cur, pre.length ≤ k ∧ cur.length ≤ k ∧ OwnS wr 0 v (pre ++ [cur]) ∧ Fresh w v ∧ Fr [] w wr ∧ pre ++ lvR cur (l.drop k) = lvs l

set_option maxRecDepth 20000 in
set_option maxHeartbeats 800000 in
theorem levels_any (s : ByteArray) (hs : s.size ≤ 1073741824) (w : World) : Calls Tryd.prog 61 #[.string s] w (LevPost w (lvs (bl s))) := by
  have hs' : s.size ≤ 9223372036854775807 := by omega
  go_enter Tryd.func61, Tryd.ntmps61
  go_wp2_with fail
  go_loopw [3, 4, 8] (fun v _ i wr => ∃ k : Nat, ∃ v0 : Value, v = v0 ∧ i = .int .i64 k ∧ k ≤ s.size ∧ LevRel w (bl s) k v0 wr) (fun _ _ i _ => s.size - (intOf i).toNat)
  case atStart =>
    refine ⟨0, _, rfl, rfl, Nat.zero_le _, [], [], by simp, by simp, OwnS.made (cs := #[strc []]) (heap_alloc_new _ _) (Nat.zero_le _) rfl (by decide), fun k hk => by simp [Value.ownBlock] at hk; omega, (Fr.refl _ _).alloc _, rfl⟩
  case round =>
    obtain ⟨k, v0, rfl, rfl, hk, hR⟩ := hrel
    have HR := Lib.hid hR
    clear hR
    obtain ⟨pre, cur, hp, hc, hown, hfre, hfr, hl⟩ := HR.out
    have HL := Lib.hid hl
    have HO := Lib.hid hown
    have HF := Lib.hid hfre
    obtain ⟨g, cap, rfl, hg, hcell, hfz, hcap, hcap2, hset⟩ := hown.parts
    have HS := Lib.hid hset
    clear hl hown hfre hset HR
    by_cases hlt : k < s.size
    · obtain ⟨x, hx⟩ := bl_some s k hlt
      have hsk := bl_at s k x hx hlt
      have hdrop : (bl s).drop k = x :: (bl s).drop (k + 1) := by
        rw [List.drop_eq_getElem?_toList_append, hx]; rfl
      have HD := Lib.hid hdrop
      have HX := Lib.hid hx
      clear hx hdrop
      by_cases h47 : x.toNat = 47
      · go_wp2_with (at_builtin; refine app_s rfl (.tmp 15) (.tmp 16) rfl 0 _ (pre ++ [cur]) rfl (HO.out.alloc _) wr.heap.size [] rfl (cell_of_block (heap_alloc_new _ _) 0) (by simp; omega) (Nat.zero_le _) ?_)
        intro v' w1 hown' hg' hk'
        have H1 := Lib.hid hown'
        have H2 := Lib.hid hg'
        have H3 := Lib.hid hk'
        clear hown' hg' hk'
        go_wp2_with fail
        go_roundw
        case rel =>
          refine ⟨k + 1, v', rfl, by go_num, by omega, pre ++ [cur], [], by simp; omega, by simp, by simpa using H1.out, ?_, ?_, ?_⟩
          · intro k hk
            rcases H3.out k hk with h | h
            · exact HF.out k h
            · have := hfr.size
              omega
          · exact (hfr.alloc _).grown H2.out (fun k hk => .inr (HF.out k hk))
          · rw [← HL.out, HD.out, lvR, if_pos (by rw [← UInt8.toNat_inj, h47]; rfl)]
            simp
        case measure => simp [intOf]; omega
      · have hcell' : wr.cell? ⟨g, pre.length, none⟩ = some (.string ⟨cur.toArray⟩) := hcell
        have HE := Lib.hid (ext1 s k x HX.out cur)
        clear hcell
        go_wp2_with fail
        go_region
        go_wp2_with fail
        go_roundw
        case rel =>
          refine ⟨k + 1, _, rfl, by go_num, by omega, pre, cur ++ [x], by omega, by simp; omega, ?_, HF.out, ?_, ?_⟩
          · rw [HE.out]
            exact HS.out (cur ++ [x])
          · exact (hfr.setCell (.inr (HF.out g rfl)) _).drew
          · rw [← HL.out, HD.out, lvR, if_neg (fun h => h47 (by rw [h]; rfl))]
        case measure => simp [intOf]; omega
    · have hd : (bl s).drop k = [] := List.drop_eq_nil_of_le (by rw [bl_len]; omega)
      go_wp2_with fail
      go_ret
      refine ⟨_, rfl, ?_, HF.out, hfr⟩
      have := HL.out
      rw [hd, lvR] at this
      rw [← this]
      exact HO.out
end Go.Proofs.YtkglmacaecmhdaaDoor
