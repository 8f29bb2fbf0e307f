/- The fixed header read: Header. -/
import Derived.Test.YtkglmacaecmhdaaDoorHdd
namespace Go.Proofs.YtkglmacaecmhdaaDoor
open Go.RowKit
set_option linter.unusedVariables false

/-- A header's block behind Decode. -/
theorem hdW_block {w : World} {h : Nat} {ty q : Nat} {d r : Bool} {n : Nat} (hh : w.heap[h]? = some (.cells #[.int .i64 n, .int .u8 0, .int .u8 0, .bool false, .bool false] 91 (0, 0))) :
    (hdW w h 0 ty q d r).heap[h]? = some (.cells #[.int .i64 n, .int .u8 ty, .int .u8 q, .bool d, .bool r] 91 (0, 0)) := by
  unfold hdW
  rw [block_setCell (block_setCell (block_setCell (block_setCell hh _ _) _ _) _ _) _ _]
  rfl
theorem hdAt_of {w : World} {h : Nat} {n : Nat} (hh : w.heap[h]? = some (.cells #[.int .i64 n, .int .u8 0, .int .u8 0, .bool false, .bool false] 91 (0, 0))) : HdAt w h 0 n 0 0 false false :=
  ⟨cell_of_block hh 0, cell_of_block hh 1, cell_of_block hh 2, cell_of_block hh 3, cell_of_block hh 4, fun i => free_of_block hh i⟩
theorem hdW_fr {w : World} {h o ty q : Nat} {d r : Bool} : Fr [h] w (hdW w h o ty q d r) := by
  unfold hdW
  exact ((((Fr.refl _ _).setCell (.inl (by simp)) _).setCell (.inl (by simp)) _).setCell (.inl (by simp)) _).setCell (.inl (by simp)) _

theorem vbiP_le : ∀ (k i m : Nat) (l : List UInt8) (n s : Nat), vbiP k i m l = some (n, s) → s ≤ i + k
  | 0, _, _, _, _, _, h => by simp [vbiP] at h
  | k + 1, _, _, [], _, _, h => by simp [vbiP] at h
  | k + 1, i, m, x :: l, n, s, h => by
    rw [vbiP] at h
    split at h
    · simp at h; omega
    · have := vbiP_le k _ _ l n s h
      omega

/-- What Header's closure leaves. -/
def HdR (g b2 b3 : Nat) (q n s : Nat) (d r : Bool) (w : World) (ok : Bool) (w' : World) : Prop :=
  ok = true ∧ Fr [g, b2, b3] w w' ∧ w'.heap[g]? = some (.cells #[.int .i64 0, .int .u8 3, .int .u8 q, .bool d, .bool r] 91 (0, 0)) ∧
    w'.heap[b2]? = some (.cells #[.int .i64 n] 3 (0, 0)) ∧ w'.heap[b3]? = some (.cells #[.int .i64 (1 + s : Nat)] 3 (0, 0))

set_option maxRecDepth 20000 in
set_option maxHeartbeats 800000 in
theorem header1 (g b1 b2 b3 H q n s : Nat) (d r : Bool) (v : Value) (t : List UInt8) (hq : q < 3) (hqd : q = 0 → d = false) (w : World)
    (hg : w.heap[g]? = some (.cells #[.int .i64 0, .int .u8 0, .int .u8 0, .bool false, .bool false] 91 (0, 0)))
    (h1 : w.heap[b1]? = some (.cells #[v] 22 (0, 0))) (h2 : w.heap[b2]? = some (.cells #[.int .i64 0] 3 (0, 0))) (h3 : w.heap[b3]? = some (.cells #[.int .i64 0] 3 (0, 0)))
    (hH : w.heap[H]? = some (.cells #[.bool false] 4 (0, 0))) (n1 : g ≠ b1) (n2 : g ≠ b2) (n3 : g ≠ b3) (n4 : b2 ≠ b3) (n5 : H ≠ g) (n6 : H ≠ b2) (n7 : H ≠ b3) (hs : BS w v (UInt8.ofNat (hb0 3 q d r) :: t)) (hvg : ∀ k, v.ownBlock = some k → k ≠ g) (hl : t.length ≤ 1073741823) (hv : vbiP 4 0 0 t = some (n, s)) :
    Calls Tryd.prog 59 #[.pointer (some ⟨g, 0, none⟩), .pointer (some ⟨b1, 0, none⟩), .pointer (some ⟨b2, 0, none⟩), .pointer (some ⟨b3, 0, none⟩)] w (Tried H (HdR g b2 b3 q n s d r w)) := by
  have hx : (UInt8.ofNat (hb0 3 q d r)).toNat = hb0 3 q d r := ofNat_toNat _ (hb0_lt 3 q d r (by omega) (by omega))
  have HS := Lib.hid hs
  have B1 := Lib.hid h1
  have B2 := Lib.hid h2
  have B3 := Lib.hid h3
  have BG := Lib.hid hg
  have BH := Lib.hid hH
  have HV := Lib.hid hv
  have HVG := Lib.hid hvg
  rcases hs.cases with ⟨h0, _⟩ | ⟨vb, o, c, rfl, h10, h11, h12, hlt, hcell⟩
  · simp at h0
  have hm : (UInt8.ofNat (hb0 3 q d r) :: t).length = t.length + 1 := rfl
  rw [hm] at *
  have cb : w.cell? ⟨vb, o, none⟩ = some (.int .u8 (hb0 3 q d r)) := by
    have := hcell 0 _ rfl
    rw [Nat.add_zero] at this
    rw [this, u8c, hx]
  have c1 : w.cell? ⟨b1, 0, none⟩ = some (.slice (some ⟨vb, o, none⟩) (t.length + 1) c) := cell_of_block h1 0
  clear hs h1 h2 h3 hg hH hv hvg hcell
  have HX := Lib.hid hx
  clear hx hm
  have hdec := hdrDecode_pub g 0 q 0 d r hq hqd w (hdAt_of BG.out)
  have HD := Lib.hid hdec
  clear hdec
  go_enter Tryd.func59, Tryd.ntmps59
  go_wp2_with fail
  refine HD.out.mono ?_
  rintro e w1 ⟨rfl, hw1⟩
  have hf1 : Fr [g] w w1 := by rw [hw1]; exact hdW_fr
  have B1' : w1.heap[b1]? = some (.cells #[.slice (some ⟨vb, o, none⟩) (t.length + 1) c] 22 (0, 0)) := hf1.heap B1.out (by simp; exact n1.symm)
  have G1 : w1.heap[g]? = some (.cells #[.int .i64 0, .int .u8 3, .int .u8 q, .bool d, .bool r] 91 (0, 0)) := by rw [hw1]; exact hdW_block BG.out
  have G1' := Lib.hid G1
  have hs1 : BS w1 (.slice (some ⟨vb, o, none⟩) (t.length + 1) c) (UInt8.ofNat (hb0 3 q d r) :: t) := HS.out.fr hf1 (fun k hk => by simp; exact HVG.out k hk)
  have ht : 0 < t.length := by
    cases t with
    | nil => have := HV.out; simp [vbiP] at this
    | cons y t => simp
  have hc1 : ¬ c = 1 := by simp at h11; omega
  have hs2 := hs1.drop 1 (by omega)
  rw [aft_some, if_neg hc1] at hs2
  simp only [Nat.add_sub_cancel, List.drop_succ_cons, List.drop_zero] at hs2
  have c1' : w1.cell? ⟨b1, 0, none⟩ = some (.slice (some ⟨vb, o, none⟩) (t.length + 1) c) := cell_of_block B1' 0
  have F1 := Lib.hid hf1
  have HS2 := Lib.hid hs2
  clear hw1 hf1 B1' G1 hs1 hs2 c1
  go_wp2_with fail
  refine (clone_any _ t _ HS2.out (by omega)).mono ?_
  rintro e w2 ⟨v2, rfl, hb2, hfr2, hf2⟩
  go_wp2_with fail
  refine (zzDecodeLength_any v2 t _ hb2 (endl_vbi _ _ _ _ _ _ HV.out)).mono ?_
  rintro e w3 ⟨hf3, ⟨n2, s2, hv2, rfl⟩ | ⟨s2, hv2, rfl⟩⟩
  · rw [HV.out] at hv2
    simp only [Option.some.injEq, Prod.mk.injEq] at hv2
    obtain ⟨rfl, rfl⟩ := hv2
    have hf13 := hf2.trans hf3 (by simp)
    have hf : Fr [g] w w3 := F1.out.trans hf13 (by simp)
    have G3 := hf13.heap G1'.out (by simp)
    have E2 := hf.heap B2.out (by simp; exact n2.symm)
    have E3 := hf.heap B3.out (by simp; exact n3.symm)
    have EH := hf.heap BH.out (by simp; exact n5)
    have d2 := cell_of_block E2 0
    have d3 := cell_of_block E3 0
    have f2 := free_of_block E2 0
    have f3 := free_of_block E3 0
    simp at d2 d3
    have G3' := Lib.hid G3
    have E2' := Lib.hid E2
    have E3' := Lib.hid E3
    have EH' := Lib.hid EH
    have F3 := Lib.hid hf
    clear hf2 hf3 hf13 hf G3 E2 E3 EH hb2 hfr2
    have hss : s < 9223372036854775807 := by have := vbiP_le _ _ _ _ _ _ HV.out; omega
    go_wp2_with fail
    go_ret
    refine ⟨true, rfl, block_setCell_other (block_setCell_other EH'.out _ _ n6) _ _ n7, rfl, ((F3.out.mono (by simp)).setCell (.inl (by simp)) _).setCell (.inl (by simp)) _, block_setCell_other (block_setCell_other G3'.out _ _ n2) _ _ n3, ?_, ?_⟩
    · exact block_setCell_other (by rw [block_setCell E2'.out]; rfl) _ _ n4
    · rw [block_setCell (block_setCell_other E3'.out _ _ (Ne.symm n4))]; rfl
  · rw [HV.out] at hv2
    cases hv2

set_option maxRecDepth 20000 in
set_option maxHeartbeats 800000 in
theorem header_any (q n s : Nat) (d r : Bool) (v : Value) (t : List UInt8) (hq : q < 3) (hqd : q = 0 → d = false) (w : World)
    (hs : BS w v (UInt8.ofNat (hb0 3 q d r) :: t)) (hl : t.length ≤ 1073741823) (hv : vbiP 4 0 0 t = some (n, s)) :
    Calls Tryd.prog 20 #[v] w fun e w' => e = .returned (.tuple #[.int .i64 3, .int .i64 q, .bool d, .bool r, .int .i64 n, .int .i64 (1 + s : Nat), .bool true]) ∧ Fr [] w w' := by
  have hmf : ∀ (fn : Fn) (first cap : Array Value) (w : World), (Instr.makeFunc fn first cap).run Tryd.prog w = .ok (.func fn first cap) w := fun _ _ _ _ => rfl
  obtain ⟨a, c, rfl, h1, h2⟩ := hs.len
  have hlt := hs.lt (by simp)
  have HS := Lib.hid hs
  have HV := Lib.hid hv
  have HLT := Lib.hid hlt
  have hm : (UInt8.ofNat (hb0 3 q d r) :: t).length = t.length + 1 := rfl
  have ht : ((t.length : Int) + 1 == 0) = false := by simp; omega
  have ht2 : ¬ ((t.length : Int) + 1 = 0) := by omega
  clear hs hv hlt
  rw [hm] at *
  have hm' : t.length + 1 ≤ 9223372036854775807 := by omega
  go_enter Tryd.func20, Tryd.ntmps20
  go_wp2_with fail
  generalize hw8 : World.alloc _ _ = w8
  have B0 : w8.heap[w.heap.size]? = some (.cells #[.slice a (t.length + 1) c] 22 (0, 0)) := by rw [← hw8]; exact alloc_past _ (alloc_past _ (alloc_past _ (alloc_at _ _ _ (by simp))))
  have B1 : w8.heap[w.heap.size + 1]? = some (.cells #[.int .i64 0] 3 (0, 0)) := by rw [← hw8]; exact alloc_past _ (alloc_past _ (alloc_at _ _ _ (by simp)))
  have B2 : w8.heap[w.heap.size + 1 + 1]? = some (.cells #[.int .i64 0] 3 (0, 0)) := by rw [← hw8]; exact alloc_past _ (alloc_at _ _ _ (by simp))
  have B3 : w8.heap[w.heap.size + 1 + 1 + 1]? = some (.cells #[.int .i64 0, .int .u8 0, .int .u8 0, .bool false, .bool false] 91 (0, 0)) := by rw [← hw8]; exact alloc_at _ _ _ (by simp)
  have F8 : Fr [] w w8 := by rw [← hw8]; exact ((((Fr.refl _ _).alloc _).alloc _).alloc _).alloc _
  have hsz : w8.heap.size = w.heap.size + 1 + 1 + 1 + 1 := by rw [← hw8]; simp
  clear hw8
  have D0 := Lib.hid B0
  have D1 := Lib.hid B1
  have D2 := Lib.hid B2
  have D3 := Lib.hid B3
  clear B0 B1 B2 B3
  refine (try_any 59 _ w8 (HdR (w.heap.size + 1 + 1 + 1) (w.heap.size + 1) (w.heap.size + 1 + 1) q n s d r (w8.alloc (.cells #[.bool false] 4))) (fun w => by simp [go_sem]) ?_).mono ?_
  · refine header1 _ w.heap.size _ _ _ q n s d r _ t hq hqd _ (alloc_past _ D3.out) (alloc_past _ D0.out) (alloc_past _ D1.out) (alloc_past _ D2.out) (alloc_at _ _ _ rfl) (by omega) (by omega) (by omega) (by omega) (by omega) (by omega) (by omega) ?_ ?_ hl HV.out
    · exact HS.out.fr0 (F8.alloc _)
    · intro k hk
      have := HLT.out k hk
      omega
  rintro e w2 ⟨ok, w1, rfl, ⟨rfl, hf, G1, G2, G3⟩, hw2⟩
  have hF : Fr [] w w2 := by
    rw [hw2]
    exact (((F8.alloc _)).trans hf (fun x hx => .inr (by simp at hx; omega))).setCell (.inr (by simp; omega)) _
  have F := Lib.hid hF
  have E1 := block_setCell_other G1 0 (.bool true) (k := w8.heap.size) (by omega)
  have E2 := block_setCell_other G2 0 (.bool true) (k := w8.heap.size) (by omega)
  have E3 := block_setCell_other G3 0 (.bool true) (k := w8.heap.size) (by omega)
  rw [← hw2] at E1 E2 E3
  have g1 : w2.cell? ⟨w.heap.size + 1 + 1 + 1, 1, none⟩ = some (.int .u8 3) := cell_of_block E1 1
  have g2 : w2.cell? ⟨w.heap.size + 1 + 1 + 1, 2, none⟩ = some (.int .u8 q) := cell_of_block E1 2
  have g3 : w2.cell? ⟨w.heap.size + 1 + 1 + 1, 3, none⟩ = some (.bool d) := cell_of_block E1 3
  have g4 : w2.cell? ⟨w.heap.size + 1 + 1 + 1, 4, none⟩ = some (.bool r) := cell_of_block E1 4
  have g5 : w2.cell? ⟨w.heap.size + 1, 0, none⟩ = some (.int .i64 n) := cell_of_block E2 0
  have g6 : w2.cell? ⟨w.heap.size + 1 + 1, 0, none⟩ = some (.int .i64 (1 + s : Nat)) := cell_of_block E3 0
  have k5 := free_of_block E2 0
  have k6 := free_of_block E3 0
  have D5' := Lib.hid E2
  have D6' := Lib.hid E3
  have ew : wrap64 (q : Int) = q := wrap64_nat q (by omega)
  clear E1 E2 E3 G1 G2 G3 hF hf hw2
  go_wp2_with fail
  go_region
  go_wp2_with fail
  have d1 : (((w2.setCell ⟨w.heap.size + 1, 0, none⟩ (.int .i64 n)).setCell ⟨w.heap.size + 1 + 1, 0, none⟩ (.int .i64 (1 + (s : Int)))).drew).cell? ⟨w.heap.size + 1, 0, none⟩ = some (.int .i64 n) := by simp [g5, go_sem]
  have d2 : (((w2.setCell ⟨w.heap.size + 1, 0, none⟩ (.int .i64 n)).setCell ⟨w.heap.size + 1 + 1, 0, none⟩ (.int .i64 (1 + (s : Int)))).drew).cell? ⟨w.heap.size + 1 + 1, 0, none⟩ = some (.int .i64 (1 + (s : Int))) := by simp [g6, go_sem]
  refine bodyPost_ret (v := .tuple #[.int .i64 3, .int .i64 q, .bool d, .bool r, .int .i64 n, .int .i64 (1 + s : Nat), .bool true]) (by simp [results, Tryd.results20, go_sem, d1, d2]) rfl ⟨rfl, ?_⟩
  exact (((F.out.setCell (.inr (by simp)) _).setCell (.inr (by simp; omega)) _).drew)
end Go.Proofs.YtkglmacaecmhdaaDoor
