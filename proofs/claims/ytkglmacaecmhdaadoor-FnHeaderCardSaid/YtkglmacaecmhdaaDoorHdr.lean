/- The fixed header: FixedHeader.Encode. -/
import Derived.Test.YtkglmacaecmhdaaDoorBuf
import Derived.Test.YtkglmacaecmhdaaDoorWin
import Derived.Test.YtkglmacaecmhdaaDoorTry
import Derived.Test.YtkglmacaecmhdaaDoorSeg
import Derived.StillTailTactics
namespace Go.Proofs.YtkglmacaecmhdaaDoor
open Go.RowKit
set_option linter.unusedVariables false

theorem encodeBool_any (d : Bool) (w : World) : Calls Tryd.prog 100 #[.bool d] w fun e w' => e = .returned (.int .u8 d.toNat) ∧ w' = w := by
  cases d
  · go_enter Tryd.func100, Tryd.ntmps100
    go_wp2
    go_ret
    exact ⟨rfl, rfl⟩
  · go_enter Tryd.func100, Tryd.ntmps100
    go_wp2
    go_ret
    exact ⟨rfl, rfl⟩

/-- The first byte of a fixed header. -/
def hb0 (ty qos : Nat) (d r : Bool) : Nat := ty * 16 + d.toNat * 8 + qos * 2 + r.toNat

theorem hdr_bits' : ∀ (ty : Fin 16) (q : Fin 4) (d r : Bool), bits .or .u8 (bits .or .u8 (bits .or .u8 (IntKind.u8.wrap ((ty.val : Nat) * 16)) (IntKind.u8.wrap ((d.toNat : Nat) * 8))) (IntKind.u8.wrap ((q.val : Nat) * 2))) (r.toNat : Nat) = ((hb0 ty.val q.val d r : Nat) : Int) := by
  decide +kernel
theorem hdr_bits (ty q : Nat) (d r : Bool) (ht : ty < 16) (hq : q < 4) : bits .or .u8 (bits .or .u8 (bits .or .u8 (IntKind.u8.wrap ((ty : Nat) * 16)) (IntKind.u8.wrap ((d.toNat : Nat) * 8))) (IntKind.u8.wrap ((q : Nat) * 2))) (r.toNat : Nat) = ((hb0 ty q d r : Nat) : Int) := hdr_bits' ⟨ty, ht⟩ ⟨q, hq⟩ d r
theorem hb0_lt (ty q : Nat) (d r : Bool) (ht : ty < 16) (hq : q < 4) : hb0 ty q d r < 256 := by cases d <;> cases r <;> simp [hb0] <;> omega

set_option maxRecDepth 20000 in
set_option maxHeartbeats 800000 in
theorem hdrEncode_any (h o b ty qos n : Nat) (d r : Bool) (v : Value) (l : List UInt8) (hty : ty < 16) (hq : qos < 4) (hn : n < 9223372036854775808) (hl : l.length ≤ 268435456) (w : World)
    (c0 : w.cell? ⟨h, o, none⟩ = some (.int .i64 n)) (c1 : w.cell? ⟨h, o + 1, none⟩ = some (.int .u8 ty)) (c2 : w.cell? ⟨h, o + 2, none⟩ = some (.int .u8 qos)) (c3 : w.cell? ⟨h, o + 3, none⟩ = some (.bool d)) (c4 : w.cell? ⟨h, o + 4, none⟩ = some (.bool r))
    (hb : Bu w b v l) (hne : h ≠ b) (hnv : v.ownBlock ≠ some h) : Calls Tryd.prog 57 #[.pointer (some ⟨h, o, none⟩), .pointer (some ⟨b, 0, none⟩)] w fun e w' => e = .returned (.tuple #[]) ∧ BuPost w b v (l ++ [UInt8.ofNat (hb0 ty qos d r)] ++ lenB n) w' := by
  have HB := Lib.hid hb
  have HN := Lib.hid hnv
  clear hb hnv
  have hlt := hb0_lt ty qos d r hty hq
  have hx := hdr_bits ty qos d r hty hq
  generalize hb0 ty qos d r = x at hlt hx ⊢
  have HX := Lib.hid hx
  clear hx
  go_enter Tryd.func57, Tryd.ntmps57
  go_wp2_with fail
  refine wp_region_still_tail 25 (by kernel_rfl) (by kernel_rfl) ?_
  simp only [List.take_succ_cons, List.take_zero, List.drop_succ_cons, List.drop_zero]
  repeat still_step
  still_call (encodeBool_any d _)
  repeat still_step
  still_call (encodeBool_any r _)
  repeat still_step
  refine wpStill_nil ?_
  change wpList _ _ _ _ _ w.drew
  rw [HX.out]
  go_wp2_with fail
  have HB1 : Bu w.drew b v l := ⟨HB.out.at_, HB.out.own, HB.out.ne⟩
  have HB2 := Lib.hid HB1
  clear HB1
  refine (writeByte_any b x v l hlt (by omega) _ HB2.out).mono ?_
  rintro e w1 ⟨rfl, v1, hb1, hm1, hf1⟩
  have c0' : w1.cell? ⟨h, o, none⟩ = some (.int .i64 n) := hf1.cell c0 (by simp; exact ⟨hne, HN.out⟩)
  have HB1 := Lib.hid hb1
  have HM1 := Lib.hid hm1
  clear hb1 hm1
  go_wp2_with fail
  refine (encodeLength_any b n hn v1 _ (by simp; omega) _ HB1.out).mono ?_
  rintro e w2 ⟨rfl, hp⟩
  have HP := Lib.hid hp
  clear hp
  go_wp2_with fail
  go_end0
  exact ⟨rfl, BuPost.trans ((Fr.refl _ w).drew.trans hf1 fun x hx => .inl hx) HM1.out HP.out⟩

/-- What the closure of FormatHeader leaves in the answer's variable. -/
def FhR (b5 : Nat) (w : World) (l : List UInt8) (ok : Bool) (w' : World) : Prop :=
  ok = true ∧ Fr [b5] w w' ∧ ∃ v, w'.heap[b5]? = some (.cells #[v] 22 (0, 0)) ∧ BS w' v l ∧ Fresh w v

set_option maxRecDepth 20000 in
set_option maxHeartbeats 800000 in
theorem formatHeader1 (b0 b1 b2 b3 b4 b5 H ty qos n : Nat) (d r : Bool) (v0 : Value) (hty : ty < 16) (hq : qos < 4) (hn : n < 9223372036854775808) (w : World)
    (c0 : w.cell? ⟨b0, 0, none⟩ = some (.int .i64 ty)) (c1 : w.cell? ⟨b1, 0, none⟩ = some (.int .i64 qos)) (c2 : w.cell? ⟨b2, 0, none⟩ = some (.bool d)) (c3 : w.cell? ⟨b3, 0, none⟩ = some (.bool r)) (c4 : w.cell? ⟨b4, 0, none⟩ = some (.int .i64 n))
    (h5 : w.heap[b5]? = some (.cells #[v0] 22 (0, 0))) (hH : w.heap[H]? = some (.cells #[.bool false] 4 (0, 0))) (hne : H ≠ b5) :
    Calls Tryd.prog 56 #[.pointer (some ⟨b0, 0, none⟩), .pointer (some ⟨b1, 0, none⟩), .pointer (some ⟨b2, 0, none⟩), .pointer (some ⟨b3, 0, none⟩), .pointer (some ⟨b4, 0, none⟩), .pointer (some ⟨b5, 0, none⟩)] w (Tried H (FhR b5 w ([UInt8.ofNat (hb0 ty qos d r)] ++ lenB n))) := by
  have B5 := Lib.hid h5
  have BH := Lib.hid hH
  clear h5 hH
  have e1 : (ty : Int) % 256 = ty := by omega
  have e2 : (qos : Int) % 256 = qos := by omega
  have hf0 : Fr [] w (w.alloc (.cells #[.slice none 0 0] 89)) := (Fr.refl _ _).alloc _
  have c0' := hf0.cell c0 (by simp)
  have c1' := hf0.cell c1 (by simp)
  have c2' := hf0.cell c2 (by simp)
  have c3' := hf0.cell c3 (by simp)
  have c4' := hf0.cell c4 (by simp)
  clear hf0 c0 c1 c2 c3 c4
  go_enter Tryd.func56, Tryd.ntmps56
  go_wp2_with fail
  have hbu : Bu ((w.alloc (.cells #[.slice none 0 0] 89)).alloc (.cells #[.int .i64 n, .int .u8 ty, .int .u8 qos, .bool d, .bool r] 91)) w.heap.size (.slice none 0 0) [] := by
    refine ⟨alloc_past _ (alloc_at _ _ _ rfl), OwnB.nil _ _, by simp [Value.ownBlock]⟩
  have hst := alloc_at (w.alloc (.cells #[.slice none 0 0] 89)) (.cells #[.int .i64 n, .int .u8 ty, .int .u8 qos, .bool d, .bool r] 91) (w.heap.size + 1) (by simp)
  have hf0 : Fr [] w ((w.alloc (.cells #[.slice none 0 0] 89)).alloc (.cells #[.int .i64 n, .int .u8 ty, .int .u8 qos, .bool d, .bool r] 91)) := ((Fr.refl _ _).alloc _).alloc _
  have F0 := Lib.hid hf0
  clear hf0
  refine (hdrEncode_any (w.heap.size + 1) 0 w.heap.size ty qos n d r _ [] hty hq hn (by simp) _ (cell_of_block hst 0) (cell_of_block hst 1) (cell_of_block hst 2) (cell_of_block hst 3) (cell_of_block hst 4) hbu (by omega) (by simp [Value.ownBlock])).mono ?_
  rintro e w1 ⟨rfl, v1, hb1, hm1, hf1⟩
  have F1 := Lib.hid (F0.out.trans hf1 (fun x hx => .inr (by simp [Value.ownBlock] at hx; omega)))
  have HM1 := Lib.hid hm1
  clear c0' c1' c2' c3' c4' hbu hst hf1 hm1
  go_wp2_with fail
  refine (bytes_any _ v1 _ hb1.at_).mono ?_
  rintro e w2 ⟨rfl, rfl⟩
  have HB1 := Lib.hid hb1
  clear hb1
  go_wp2_with fail
  refine (clone_any v1 _ _ HB1.out.own.bs (by simp; have := lenGo_length 9 n; unfold lenB; omega)).mono ?_
  rintro e w2 ⟨v2, rfl, hb2, hfr2, hf2⟩
  obtain ⟨a2, c2, rfl, _, _⟩ := hb2.len
  have hf := F1.out.trans hf2 (by simp)
  have B5' := hf.heap B5.out (by simp)
  have BH' := hf.heap BH.out (by simp)
  have c5 := cell_of_block B5' 0
  have f5 := free_of_block B5' 0
  simp at c5
  have D5 := Lib.hid B5'
  have DH := Lib.hid BH'
  have HB2 := Lib.hid hb2
  have K2 := Lib.hid hfr2
  clear B5' BH' hb2 hfr2
  go_wp2_with fail
  go_ret
  have hlt5 := lt_of_block B5.out
  refine ⟨true, rfl, block_setCell_other DH.out _ _ hne, rfl, (hf.mono (by simp)).setCell (.inl (by simp)) _, _, by rw [block_setCell D5.out]; rfl, ?_, fun k hk => Nat.le_trans F1.out.size (K2.out k hk)⟩
  exact HB2.out.keep (fun k hk => by
    have h1 := K2.out k hk
    have h2 := F1.out.size
    exact Below.heap_setCell _ _ _ _ (by simp; omega))

def FhPost (w : World) (l : List UInt8) (e : Ending) (w' : World) : Prop :=
  ∃ v, e = .returned (.tuple #[v, .bool true]) ∧ BS w' v l ∧ Fresh w v ∧ Fr [] w w'

set_option maxRecDepth 20000 in
set_option maxHeartbeats 800000 in
theorem formatHeader_any (l : List UInt8) (ty qos n : Nat) (d r : Bool) (hty : ty < 16) (hq : qos < 4) (hn : n ≤ 268435455) (hl : [UInt8.ofNat (hb0 ty qos d r)] ++ lenB n = l) (w : World) :
    Calls Tryd.prog 19 #[.int .i64 ty, .int .i64 qos, .bool d, .bool r, .int .i64 n] w (FhPost w l) := by
  have hmf : ∀ (fn : Fn) (first cap : Array Value) (w : World), (Instr.makeFunc fn first cap).run Tryd.prog w = .ok (.func fn first cap) w := fun _ _ _ _ => rfl
  have HL := Lib.hid hl
  clear hl
  go_enter Tryd.func19, Tryd.ntmps19
  go_wp2_with fail
  refine (within_any 255 _ [(ty : Int), (qos : Int)] _ (LS.of_block (alloc_at _ _ _ (by simp)) rfl rfl (by simp [maxLen]))).mono ?_
  rintro e w1 ⟨rfl, rfl⟩
  have hw1 : within 255 [(ty : Int), (qos : Int)] = true := by simp [within]; omega
  rw [hw1]
  clear hw1
  go_wp2_with fail
  refine (within_any 268435455 _ [(n : Int)] _ (LS.of_block (alloc_at _ _ _ (by simp)) rfl rfl (by simp [maxLen]))).mono ?_
  rintro e w1 ⟨rfl, rfl⟩
  have hw1 : within 268435455 [(n : Int)] = true := by simp [within]; omega
  rw [hw1]
  clear hw1
  go_wp2_with fail
  generalize hw8 : World.alloc _ _ = w8
  have B0 : w8.heap[w.heap.size]? = some (.cells #[.int .i64 ty] 3 (0, 0)) := by rw [← hw8]; exact alloc_past _ (alloc_past _ (alloc_past _ (alloc_past _ (alloc_past _ (alloc_past _ (alloc_past _ (alloc_at _ _ _ (by simp))))))))
  have B1 : w8.heap[w.heap.size + 1]? = some (.cells #[.int .i64 qos] 3 (0, 0)) := by rw [← hw8]; exact alloc_past _ (alloc_past _ (alloc_past _ (alloc_past _ (alloc_past _ (alloc_past _ (alloc_at _ _ _ (by simp)))))))
  have B2 : w8.heap[w.heap.size + 1 + 1]? = some (.cells #[.bool d] 4 (0, 0)) := by rw [← hw8]; exact alloc_past _ (alloc_past _ (alloc_past _ (alloc_past _ (alloc_past _ (alloc_at _ _ _ (by simp))))))
  have B3 : w8.heap[w.heap.size + 1 + 1 + 1]? = some (.cells #[.bool r] 4 (0, 0)) := by rw [← hw8]; exact alloc_past _ (alloc_past _ (alloc_past _ (alloc_past _ (alloc_at _ _ _ (by simp)))))
  have B4 : w8.heap[w.heap.size + 1 + 1 + 1 + 1]? = some (.cells #[.int .i64 n] 3 (0, 0)) := by rw [← hw8]; exact alloc_past _ (alloc_past _ (alloc_past _ (alloc_at _ _ _ (by simp))))
  have B5 : w8.heap[w.heap.size + 1 + 1 + 1 + 1 + 1]? = some (.cells #[.slice none 0 0] 22 (0, 0)) := by rw [← hw8]; exact alloc_past _ (alloc_past _ (alloc_at _ _ _ (by simp)))
  have F8 : Fr [] w w8 := by rw [← hw8]; exact ((((((((Fr.refl _ _).alloc _).alloc _).alloc _).alloc _).alloc _).alloc _).alloc _).alloc _
  have hsz : w8.heap.size = w.heap.size + 1 + 1 + 1 + 1 + 1 + 1 + 1 + 1 := by rw [← hw8]; simp
  clear hw8
  have D0 := Lib.hid B0
  have D1 := Lib.hid B1
  have D2 := Lib.hid B2
  have D3 := Lib.hid B3
  have D4 := Lib.hid B4
  have D5 := Lib.hid B5
  clear B0 B1 B2 B3 B4 B5
  refine (try_any 56 _ w8 (FhR (w.heap.size + 1 + 1 + 1 + 1 + 1) (w8.alloc (.cells #[.bool false] 4)) l) (fun w => by simp [go_sem]) ?_).mono ?_
  · rw [← HL.out]
    refine formatHeader1 (w.heap.size) (w.heap.size + 1) (w.heap.size + 1 + 1) (w.heap.size + 1 + 1 + 1) (w.heap.size + 1 + 1 + 1 + 1) (w.heap.size + 1 + 1 + 1 + 1 + 1) _ ty qos n d r _ hty hq (by omega) _ (cell_of_block (alloc_past _ D0.out) 0) (cell_of_block (alloc_past _ D1.out) 0) (cell_of_block (alloc_past _ D2.out) 0) (cell_of_block (alloc_past _ D3.out) 0) (cell_of_block (alloc_past _ D4.out) 0) (alloc_past _ D5.out) (alloc_at _ _ _ rfl) (by omega)
  rintro e w2 ⟨ok, w1, rfl, ⟨rfl, hf, v1, hb1, hs1, hk1⟩, hw2⟩
  have hF : Fr [] w w2 := by
    rw [hw2]
    exact (((F8.alloc _)).trans hf (fun x hx => .inr (by simp at hx; omega))).setCell (.inr (by simp; omega)) _
  have F := Lib.hid hF
  obtain ⟨a1, c1, rfl, _, _⟩ := hs1.len
  have B5 := block_setCell_other hb1 0 (.bool true) (k := w8.heap.size) (by omega)
  have hs2 : BS w2 (.slice a1 l.length c1) l := by
    rw [hw2]
    exact hs1.keep (fun k hk => Below.heap_setCell _ _ _ _ (by have := hk1 k hk; simp at this ⊢; omega))
  rw [← hw2] at B5
  have HS := Lib.hid hs2
  have cc : w2.cell? ⟨w.heap.size + 1 + 1 + 1 + 1 + 1, 0, none⟩ = some (.slice a1 l.length c1) := cell_of_block B5 0
  have ff := free_of_block B5 0
  have D5' := Lib.hid B5
  have K1 := Lib.hid hk1
  clear B5 hs2 hs1 hb1 hF hf hw2 hk1
  go_wp2_with fail
  have d1 : (w2.setCell ⟨w.heap.size + 1 + 1 + 1 + 1 + 1, 0, none⟩ (.slice a1 l.length c1)).cell? ⟨w.heap.size + 1 + 1 + 1 + 1 + 1, 0, none⟩ = some (.slice a1 l.length c1) := by simp [cc, go_sem]
  refine bodyPost_ret (v := .tuple #[.slice a1 l.length c1, .bool true]) (by simp [results, Tryd.results19, go_sem, d1]) rfl ⟨_, rfl, ?_, fun k hk => ?_, F.out.setCell (.inr (by simp; omega)) _⟩
  · exact HS.out.keep (fun k hk => Below.heap_setCell _ _ _ _ (by have := K1.out k hk; simp at this ⊢; omega))
  · have := K1.out k hk
    simp at this
    omega
end Go.Proofs.YtkglmacaecmhdaaDoor
