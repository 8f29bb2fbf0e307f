/- spec.NearShared. -/
import Derived.Test.YtkglmacaecmhdaaDoorLev
import Derived.Laws.IdiomStrings
namespace Go.Proofs.YtkglmacaecmhdaaDoor
open Go.RowKit
set_option linter.unusedVariables false

/-- A row of bytes that may be written. -/
def RB (w : World) (b cap : Nat) (l : List UInt8) : Prop :=
  ∃ cs lo hi, w.heap[b]? = some (.cells cs 5 (lo, hi)) ∧ l.length ≤ lo ∧ cs.toList.take l.length = l.map u8c ∧ l.length ≤ cap ∧ cap ≤ maxLen
theorem RB.cell {w : World} {b cap : Nat} {l : List UInt8} (h : RB w b cap l) {k : Nat} {x : UInt8} (hx : l[k]? = some x) : w.cell? ⟨b, k, none⟩ = some (u8c x) := by
  obtain ⟨cs, lo, hi, hh, h1, h2, _⟩ := h
  have hk := (List.getElem?_eq_some_iff.1 hx).1
  rw [cell_of_block hh, ← Array.getElem?_toList]
  have : (cs.toList.take l.length)[k]? = some (u8c x) := by rw [h2, List.getElem?_map, hx]; rfl
  rwa [List.getElem?_take_of_lt hk] at this
theorem RB.free {w : World} {b cap : Nat} {l : List UInt8} (h : RB w b cap l) {k : Nat} (hk : k < l.length) : w.frozen? ⟨b, k, none⟩ = false := by
  obtain ⟨cs, lo, hi, hh, h1, h2, _⟩ := h
  simp only [World.frozen?, hh, Bool.and_eq_false_imp, decide_eq_true_eq, decide_eq_false_iff_not]
  omega
theorem RB.set {w : World} {b cap : Nat} {l : List UInt8} (h : RB w b cap l) {k : Nat} (y : UInt8) (hk : k < l.length) : RB (w.setCell ⟨b, k, none⟩ (u8c y)) b cap (l.set k y) := by
  obtain ⟨cs, lo, hi, hh, h1, h2, h3, h4⟩ := h
  refine ⟨cs.setIfInBounds k (u8c y), lo, hi, block_setCell hh _ _, by simpa using h1, ?_, by simpa using h3, h4⟩
  rw [Array.toList_setIfInBounds, List.length_set, List.take_set, h2, List.map_set]
theorem RB.bs {w : World} {b cap : Nat} {l : List UInt8} (h : RB w b cap l) : BS w (.slice (some ⟨b, 0, none⟩) l.length cap) l := by
  have h' := h
  obtain ⟨cs, lo, hi, hh, h1, h2, h3, h4⟩ := h
  exact BS.mk_row h3 h4 fun j x hj => by rw [Nat.zero_add]; exact h'.cell hj
theorem RB.keep {w w' : World} {b cap : Nat} {l : List UInt8} (h : RB w b cap l) (hb : w'.heap[b]? = w.heap[b]?) : RB w' b cap l := by
  obtain ⟨cs, lo, hi, hh, h⟩ := h
  exact ⟨cs, lo, hi, hb.trans hh, h⟩

/-- '[]byte(s)'. -/
theorem str_to_rb (w : World) (l : List UInt8) (hl : l.length ≤ 1073741824) : ∃ cap w', (convert 9 22 (.string ⟨l.toArray⟩)).run Tryd.prog w = .ok (.slice (some ⟨w.heap.size, 0, none⟩) l.length cap) w' ∧ RB w' w.heap.size cap l ∧ Fr [] w w' := by
  have h := run_bytes_of_string (P := Tryd.prog) w 9 22 5 ⟨l.toArray⟩ Tryd.underlying9 Tryd.underlying22 Tryd.underlying5
  refine ⟨_, _, h, ⟨_, _, _, heap_alloc_new w.drew _, ?_, ?_, grownCap_ge _ _ _ _, grownCap_le_maxLen _ _ _ _ (Nat.le_trans hl (by decide))⟩, (Fr.refl _ w).drew.alloc _⟩
  · simp [bytesRow, ByteArray.size]
  · simp only [bytesRow, Array.toList_append, Array.toList_map]
    rw [List.take_append_of_le_length (by simp), List.take_of_length_le (by simp)]
    rfl

/-- A letter made small. -/
def lowU (x : UInt8) : UInt8 := if 65 ≤ x.toNat ∧ x.toNat ≤ 90 then UInt8.ofNat (x.toNat + 32) else x
def mid (l : List UInt8) (k : Nat) : List UInt8 := (l.take k).map lowU ++ l.drop k
theorem mid_len (l : List UInt8) (k : Nat) : (mid l k).length = l.length := by simp [mid]; omega
theorem mid_at {l : List UInt8} {k : Nat} {x : UInt8} (h : l[k]? = some x) : (mid l k)[k]? = some x := by
  have hk := (List.getElem?_eq_some_iff.1 h).1
  rw [mid, List.getElem?_append_right (by simp; omega)]
  simp only [List.length_map, List.length_take, List.getElem?_drop]
  rw [← h]
  congr 1
  omega
theorem mid_succ {l : List UInt8} {k : Nat} {x : UInt8} (h : l[k]? = some x) : mid l (k + 1) = (mid l k).set k (lowU x) := by
  have hk := (List.getElem?_eq_some_iff.1 h).1
  have hd : l.drop k = x :: l.drop (k + 1) := by rw [List.drop_eq_getElem?_toList_append, h]; rfl
  rw [mid, mid, take_snoc' _ _ _ h, hd, List.set_append_right _ _ (by simp; omega), List.map_append]
  have e : k - (List.map lowU (List.take k l)).length = 0 := by simp; omega
  rw [e]
  simp
theorem mid_same {l : List UInt8} {k : Nat} {x : UInt8} (h : l[k]? = some x) (hx : lowU x = x) : mid l (k + 1) = mid l k := by
  rw [mid_succ h, hx]
  have := mid_at h
  apply List.ext_getElem?
  intro i
  rw [List.getElem?_set]
  split
  · rename_i e
    subst e
    rw [this]
    have hk := (List.getElem?_eq_some_iff.1 this).1
    simp [hk]
  · rfl

def shareL : List UInt8 := [36, 115, 104, 97, 114, 101]
def nearSh (l : List UInt8) : Bool := ((lev0 l).map lowU == shareL) && !isSh l

theorem lev0_len (l : List UInt8) : (lev0 l).length ≤ l.length := (List.takeWhile_sublist _).length_le

set_option maxRecDepth 20000 in
set_option maxHeartbeats 800000 in
theorem near_any (s : ByteArray) (hs : s.size ≤ 1073741824) (w : World) : Calls Tryd.prog 21 #[.string s] w fun e w' => e = .returned (.bool (nearSh (bl s))) ∧ Fr [] w w' := by
  have hs' : s.size ≤ 9223372036854775807 := by omega
  have hlev : (lev0 (bl s)).length ≤ 1073741824 := Nat.le_trans (lev0_len _) hs
  obtain ⟨l, hl⟩ : ∃ l, lev0 (bl s) = l := ⟨_, rfl⟩
  obtain ⟨q, hq⟩ : ∃ q, isSh (bl s) = q := ⟨_, rfl⟩
  have hish := isShared_any s hs'
  rw [hq] at hish
  obtain ⟨m, hmm⟩ : ∃ m, (l.map lowU == shareL) = m := ⟨_, rfl⟩
  rw [nearSh, hl, hq, hmm]
  have HMM := Lib.hid hmm
  clear hmm
  rw [hl] at hlev
  have HI := Lib.hid hish
  clear hish hq
  go_enter Tryd.func21, Tryd.ntmps21
  go_wp2_with fail
  refine (levels_any s hs _).mono ?_
  rintro e w1 ⟨v, rfl, ho, hfre, hf⟩
  obtain ⟨n, cap, g, rfl, hn, hc, h1, h2⟩ : ∃ n cap g, v = .slice (some ⟨g, 0, none⟩) n cap ∧ 0 < n ∧ w1.cell? ⟨g, 0, none⟩ = some (.string ⟨l.toArray⟩) ∧ n ≤ cap ∧ cap ≤ maxLen := by
    obtain ⟨rest, hr⟩ := lvR_head (bl s) []
    rw [lvs, hr, List.nil_append, hl] at ho
    obtain ⟨h1, h2⟩ := ho
    rcases h2 with ⟨_, h2⟩ | ⟨g, cap, cs, rfl, hg, hh, h3, h4, h5, h6⟩
    · simp at h2
    refine ⟨_, cap, g, rfl, by simp, ?_, h3, h4⟩
    rw [cell_of_block hh, ← Array.getElem?_toList]
    have : (cs.toList.take ((l :: rest).length * 1))[0]? = some (strc l) := by rw [h6]; rfl
    rwa [List.getElem?_take_of_lt (by simp)] at this
  have F1 := Lib.hid hf
  have hn2 : n ≤ 9223372036854775807 := Nat.le_trans h1 h2
  obtain ⟨cp, w2, hcv, hrb, hf2⟩ := str_to_rb w1 l hlev
  have R2 := Lib.hid hrb
  have F2 := Lib.hid (F1.out.trans hf2 (by simp))
  have hsz := hf.size
  obtain ⟨b, hb⟩ : ∃ b, w1.heap.size = b := ⟨_, rfl⟩
  rw [hb] at hcv R2 hsz
  have hl9 : l.length ≤ 9223372036854775807 := by omega
  clear ho hfre hf hrb hf2 hb hl
  go_wp2_with fail
  go_loopw [4, 5, 13] (fun _ _ i wr => ∃ k : Nat, i = .int .i64 k ∧ k ≤ l.length ∧ Hid (RB wr b cp (mid l k) ∧ Fr [] w wr)) (fun _ _ i _ => l.length - (intOf i).toNat)
  case atStart => exact ⟨0, rfl, Nat.zero_le _, R2.out, F2.out⟩
  case round =>
    obtain ⟨k, rfl, hk, hR⟩ := hrel
    by_cases hlt : k < l.length
    · obtain ⟨x, hx⟩ : ∃ x, l[k]? = some x := ⟨_, List.getElem?_eq_getElem hlt⟩
      have HX := Lib.hid hx
      have hcx : wr.cell? ⟨b, k, none⟩ = some (.int .u8 (x.toNat : Int)) := hR.out.1.cell (mid_at hx)
      have hfz : wr.frozen? ⟨b, k, none⟩ = false := hR.out.1.free (by rw [mid_len]; exact hlt)
      have hx256 : x.toNat < 256 := x.toNat_lt
      clear hx
      by_cases hA : 65 ≤ x.toNat ∧ x.toNat ≤ 90
      · have hv : Value.int .u8 ((x.toNat : Int) + 97 - 65) = u8c (lowU x) := by
          rw [lowU, if_pos hA, u8c, ofNat_toNat _ (by omega)]
          congr 1
          omega
        have HV := Lib.hid hv
        clear hv
        obtain ⟨hA1, hA2⟩ := hA
        go_wp2_with fail
        go_roundw
        case rel =>
          refine ⟨k + 1, by go_num, by omega, ?_, hR.out.2.setCell (.inr (by simp; omega)) _⟩
          rw [HV.out, mid_succ HX.out]
          exact hR.out.1.set _ (by rw [mid_len]; exact hlt)
        case measure => simp [intOf]; omega
      · have hsame : lowU x = x := by rw [lowU, if_neg hA]
        have HS := Lib.hid hsame
        clear hsame
        by_cases hA1 : 65 ≤ x.toNat
        · have hA2 : 90 < x.toNat := by omega
          go_wp2_with fail
          go_roundw
          case rel => exact ⟨k + 1, by go_num, by omega, by rw [mid_same HX.out HS.out]; exact hR.out.1, hR.out.2⟩
          case measure => simp [intOf]; omega
        · go_wp2_with fail
          go_roundw
          case rel => exact ⟨k + 1, by go_num, by omega, by rw [mid_same HX.out HS.out]; exact hR.out.1, hR.out.2⟩
          case measure => simp [intOf]; omega
    · obtain rfl : k = l.length := by omega
      have hbs := hR.out.1.bs
      have hm : mid l l.length = l.map lowU := by simp [mid]
      rw [hm, List.length_map] at hbs
      have hstr := str_of_bs hbs
      have hcmp : (l.map lowU == [36, 115, 104, 97, 114, 101]) = m := HMM.out
      clear hbs hm
      generalize l.map lowU = l2 at *
      cases m
      · go_wp2_with fail
        go_ret
        exact ⟨rfl, hR.out.2⟩
      · go_wp2_with fail
        refine (HI.out _).mono ?_
        rintro e w3 ⟨rfl, rfl⟩
        go_wp2_with fail
        go_ret
        exact ⟨by simp, hR.out.2⟩
end Go.Proofs.YtkglmacaecmhdaaDoor
