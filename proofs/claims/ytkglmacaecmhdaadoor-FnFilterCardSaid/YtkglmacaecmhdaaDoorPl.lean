/- impl.ParseLength: what it reads off bytes, or that it refuses; laws.works. -/
import Derived.Test.YtkglmacaecmhdaaDoorVbi
import Derived.Test.YtkglmacaecmhdaaDoorTry
namespace Go.Proofs.YtkglmacaecmhdaaDoor
open Go.RowKit
set_option linter.unusedVariables false

def ZzPost (w : World) (l : List UInt8) (e : Ending) (w' : World) : Prop :=
  Fr [] w w' ∧ ((∃ n s : Nat, vbiP 4 0 0 l = some (n, s) ∧ e = .returned (.tuple #[.int .i64 (n : Int), .int .i64 (s : Int), .nilIface])) ∨
    ∃ s : Nat, vbiP 4 0 0 l = none ∧ e = .returned (.tuple #[.int .i64 0, .int .i64 (s : Int), eofV]))

set_option maxRecDepth 20000 in
set_option maxHeartbeats 400000 in
theorem zzDecodeLength_any (v : Value) (l : List UInt8) (w : World) (h : BS w v l) (hl : endl 4 l = false) : Calls Tryd.prog 52 #[v] w (ZzPost w l) := by
  obtain ⟨a, c, rfl, _, _⟩ := h.len
  have H := Lib.hid h
  have HL := Lib.hid hl
  clear h hl
  go_enter Tryd.func52, Tryd.ntmps52
  go_wp2_with (go_at_call 97; go_in)
  have hbf : BF (w.alloc (.cells #[.slice a l.length c] 89)) w.heap.size l :=
    ⟨_, heap_alloc_new _ _, H.out.fr0 ((Fr.refl _ _).alloc _), fun hn e => by have := H.out.lt hn _ e; omega⟩
  refine (decodeLength_any w.heap.size l _ hbf HL.out).mono ?_
  rintro e w1 (⟨n, s, hv, rfl, hbf1, hf1⟩ | ⟨s, hv, rfl, hf1⟩)
  · have HV := Lib.hid hv
    clear hv
    go_wp2_with fail
    go_ret3
    exact ⟨((Fr.refl _ _).alloc _).trans hf1 (fun x hx => .inr (by simp at hx; omega)), .inl ⟨n, s, HV.out, rfl⟩⟩
  · have HV := Lib.hid hv
    clear hv
    unfold eofV
    go_wp2_with fail
    go_ret3
    exact ⟨((Fr.refl _ _).alloc _).trans hf1 (fun x hx => .inr (by simp at hx; omega)), .inr ⟨s, HV.out, rfl⟩⟩

/-- What the closure leaves: the answer, and both variables. -/
def PlR (w : World) (b1 b2 : Nat) (l : List UInt8) (ok : Bool) (w' : World) : Prop :=
  Fr [b1, b2] w w' ∧ ((∃ n s : Nat, vbiP 4 0 0 l = some (n, s) ∧ ok = true ∧ w'.heap[b1]? = some (.cells #[.int .i64 (n : Int)] 3 (0, 0)) ∧ w'.heap[b2]? = some (.cells #[.int .i64 (s : Int)] 3 (0, 0))) ∨
    (vbiP 4 0 0 l = none ∧ ok = false ∧ ∃ x y : Int, w'.heap[b1]? = some (.cells #[.int .i64 x] 3 (0, 0)) ∧ w'.heap[b2]? = some (.cells #[.int .i64 y] 3 (0, 0))))

set_option maxRecDepth 20000 in
set_option maxHeartbeats 400000 in
theorem parseLength1 (b0 b1 b2 : Nat) (v : Value) (l : List UInt8) (x y : Int) (w : World) (h0 : w.heap[b0]? = some (.cells #[v] 22 (0, 0))) (h1 : w.heap[b1]? = some (.cells #[.int .i64 x] 3 (0, 0)))
    (h2 : w.heap[b2]? = some (.cells #[.int .i64 y] 3 (0, 0))) (h12 : b1 ≠ b2) (hs : BS w v l) (hl : endl 4 l = false) (hn : l.length ≤ 1073741824) (H : Nat) (hH : w.heap[H]? = some (.cells #[.bool false] 4 (0, 0))) (hH1 : H ≠ b1) (hH2 : H ≠ b2) :
    Calls Tryd.prog 51 #[.pointer (some ⟨b0, 0, none⟩), .pointer (some ⟨b1, 0, none⟩), .pointer (some ⟨b2, 0, none⟩)] w (Tried H (PlR w b1 b2 l)) := by
  obtain ⟨a, c, rfl, _, _⟩ := hs.len
  have c0 : w.cell? ⟨b0, 0, none⟩ = some (.slice a l.length c) := cell_of_block h0 0
  have HS := Lib.hid hs
  have HL := Lib.hid hl
  have B1 := Lib.hid h1
  have B2 := Lib.hid h2
  have BH := Lib.hid hH
  clear hs hl h0 h1 h2 hH
  go_enter Tryd.func51, Tryd.ntmps51
  go_wp2_with fail
  refine (clone_any _ l _ HS.out (by omega)).mono ?_
  rintro e w1 ⟨v1, rfl, hb1, hfr1, hf1⟩
  go_wp2_with fail
  refine (zzDecodeLength_any v1 l _ hb1 HL.out).mono ?_
  rintro e w2 ⟨hf2, hor⟩
  have hf : Fr [] w w2 := hf1.trans hf2 (by simp)
  have B1' := hf.heap B1.out (by simp)
  have B2' := hf.heap B2.out (by simp)
  have BH' := hf.heap BH.out (by simp)
  have c1 := cell_of_block B1' 0
  have f1 := free_of_block B1' 0
  have c2 := cell_of_block B2' 0
  have f2 := free_of_block B2' 0
  have D1 := Lib.hid B1'
  have D2 := Lib.hid B2'
  have DH := Lib.hid BH'
  clear B1' B2' BH'
  simp at c1 c2
  rcases hor with ⟨n, s, hv, rfl⟩ | ⟨s, hv, rfl⟩
  all_goals
    have HV := Lib.hid hv
    clear hv
    try unfold eofV
    go_wp2_with fail
    go_ret
  · refine ⟨true, rfl, ?_, ?_, .inl ⟨n, s, HV.out, rfl, ?_, ?_⟩⟩
    · exact block_setCell_other (block_setCell_other DH.out _ _ hH1) _ _ hH2
    · exact ((hf.mono (by simp)).setCell (.inl (by simp)) _).setCell (.inl (by simp)) _
    · exact block_setCell_other (by rw [block_setCell D1.out]; rfl) _ _ h12
    · rw [block_setCell (block_setCell_other D2.out _ _ (Ne.symm h12))]; rfl
  · refine ⟨false, rfl, ?_, ?_, .inr ⟨HV.out, rfl, 0, s, ?_, ?_⟩⟩
    · exact block_setCell_other (block_setCell_other DH.out _ _ hH1) _ _ hH2
    · exact ((hf.mono (by simp)).setCell (.inl (by simp)) _).setCell (.inl (by simp)) _
    · exact block_setCell_other (by rw [block_setCell D1.out]; rfl) _ _ h12
    · rw [block_setCell (block_setCell_other D2.out _ _ (Ne.symm h12))]; rfl

def ParsePost (w : World) (l : List UInt8) (e : Ending) (w' : World) : Prop :=
  Fr [] w w' ∧ ((∃ n s : Nat, vbiP 4 0 0 l = some (n, s) ∧ e = .returned (.tuple #[.int .i64 (n : Int), .int .i64 (s : Int), .bool true])) ∨
    (vbiP 4 0 0 l = none ∧ e = .returned (.tuple #[.int .i64 0, .int .i64 0, .bool false])))

set_option maxRecDepth 20000 in
set_option maxHeartbeats 400000 in
theorem parseLength_any (v : Value) (l : List UInt8) (w : World) (h : BS w v l) (hl : endl 4 l = false) (hn : l.length ≤ 1073741824) : Calls Tryd.prog 16 #[v] w (ParsePost w l) := by
  obtain ⟨a, c, rfl, _, _⟩ := h.len
  have hmf : ∀ (fn : Fn) (first cap : Array Value) (w : World), (Instr.makeFunc fn first cap).run Tryd.prog w = .ok (.func fn first cap) w := fun _ _ _ _ => rfl
  have H := Lib.hid h
  have HL := Lib.hid hl
  have HN := Lib.hid hn
  clear h hl hn
  go_enter Tryd.func16, Tryd.ntmps16
  go_wp2_with fail
  have g0 := heap_alloc_new w (.cells #[.slice a l.length c] 22)
  have g1 := heap_alloc_new (w.alloc (.cells #[.slice a l.length c] 22)) (.cells #[.int .i64 0] 3)
  refine (try_any 51 _ _ (PlR (((( w.alloc (.cells #[.slice a l.length c] 22)).alloc (.cells #[.int .i64 0] 3)).alloc (.cells #[.int .i64 0] 3)).alloc (.cells #[.bool false] 4)) (w.heap.size + 1) (w.heap.size + 1 + 1) l) (fun w => by simp [go_sem]) ?_).mono ?_
  · refine parseLength1 w.heap.size (w.heap.size + 1) (w.heap.size + 1 + 1) (.slice a l.length c) l 0 0 _ ?_ ?_ ?_ (by omega) ?_ HL.out HN.out _ ?_ (by simp; omega) (by simp)
    · exact alloc_past _ (alloc_past _ (alloc_past _ g0))
    · exact alloc_past _ (alloc_past _ (alloc_at _ _ _ (by simp)))
    · exact alloc_past _ (alloc_at _ _ _ (by simp))
    · exact H.out.fr0 ((((Fr.refl _ _).alloc _).alloc _).alloc _ |>.alloc _)
    · exact alloc_at _ _ _ (by simp)
  rintro e w2 ⟨ok, w1, rfl, ⟨hf, hor⟩, hw2⟩
  have hF : Fr [] w w2 := by
    rw [hw2]
    exact ((((((Fr.refl _ _).alloc _).alloc _).alloc _).alloc _).trans hf (fun x hx => .inr (by simp at hx; omega))).setCell (.inr (by simp; omega)) _
  have F := Lib.hid hF
  rcases hor with ⟨n, s, hv, rfl, B1, B2⟩ | ⟨hv, rfl, x, y, B1, B2⟩
  · have B1' := block_setCell_other B1 0 (.bool true) (k := w.heap.size + 1 + 1 + 1) (by omega)
    have B2' := block_setCell_other B2 0 (.bool true) (k := w.heap.size + 1 + 1 + 1) (by omega)
    have hw3 : w1.setCell ⟨w.heap.size + 1 + 1 + 1, 0, none⟩ (.bool true) = w2 := by rw [hw2]; simp
    rw [hw3] at B1' B2'
    have HV := Lib.hid hv
    have c1 : w2.cell? ⟨w.heap.size + 1, 0, none⟩ = some (.int .i64 n) := cell_of_block B1' 0
    have c2 : w2.cell? ⟨w.heap.size + 1 + 1, 0, none⟩ = some (.int .i64 s) := cell_of_block B2' 0
    have f1 := free_of_block B1' 0
    have f2 := free_of_block B2' 0
    clear hf hw2 hw3 B1 B2 B1' B2' hv hF g0 g1
    go_wp2_with fail
    go_region
    go_wp2_with fail
    have d1 : (((w2.setCell ⟨w.heap.size + 1, 0, none⟩ (.int .i64 n)).setCell ⟨w.heap.size + 1 + 1, 0, none⟩ (.int .i64 s)).drew).cell? ⟨w.heap.size + 1, 0, none⟩ = some (.int .i64 n) := by simp [c1, go_sem]
    have d2 : (((w2.setCell ⟨w.heap.size + 1, 0, none⟩ (.int .i64 n)).setCell ⟨w.heap.size + 1 + 1, 0, none⟩ (.int .i64 s)).drew).cell? ⟨w.heap.size + 1 + 1, 0, none⟩ = some (.int .i64 s) := by simp [c2, go_sem]
    refine bodyPost_ret (v := .tuple #[.int .i64 n, .int .i64 s, .bool true]) (by simp [results, Tryd.results16, go_sem, d1, d2]) rfl ⟨?_, .inl ⟨n, s, HV.out, rfl⟩⟩
    exact (((F.out.setCell (.inr (by simp)) _).setCell (.inr (by simp; omega)) _).drew)
  · have B1' := block_setCell_other B1 0 (.bool false) (k := w.heap.size + 1 + 1 + 1) (by omega)
    have B2' := block_setCell_other B2 0 (.bool false) (k := w.heap.size + 1 + 1 + 1) (by omega)
    have hw3 : w1.setCell ⟨w.heap.size + 1 + 1 + 1, 0, none⟩ (.bool false) = w2 := by rw [hw2]; simp
    rw [hw3] at B1' B2'
    have HV := Lib.hid hv
    have c1 : w2.cell? ⟨w.heap.size + 1, 0, none⟩ = some (.int .i64 x) := cell_of_block B1' 0
    have c2 : w2.cell? ⟨w.heap.size + 1 + 1, 0, none⟩ = some (.int .i64 y) := cell_of_block B2' 0
    have f1 := free_of_block B1' 0
    have f2 := free_of_block B2' 0
    clear hf hw2 hw3 B1 B2 B1' B2' hv hF g0 g1
    go_wp2_with fail
    have d1 : ((w2.setCell ⟨w.heap.size + 1, 0, none⟩ (.int .i64 0)).setCell ⟨w.heap.size + 1 + 1, 0, none⟩ (.int .i64 0)).cell? ⟨w.heap.size + 1, 0, none⟩ = some (.int .i64 0) := by simp [c1, go_sem]
    have d2 : ((w2.setCell ⟨w.heap.size + 1, 0, none⟩ (.int .i64 0)).setCell ⟨w.heap.size + 1 + 1, 0, none⟩ (.int .i64 0)).cell? ⟨w.heap.size + 1 + 1, 0, none⟩ = some (.int .i64 0) := by simp [c2, go_sem]
    refine bodyPost_ret (v := .tuple #[.int .i64 0, .int .i64 0, .bool false]) (by simp [results, Tryd.results16, go_sem, d1, d2]) rfl ⟨?_, .inr ⟨HV.out, rfl⟩⟩
    exact (((F.out.setCell (.inr (by simp)) _).setCell (.inr (by simp; omega)) _))
end Go.Proofs.YtkglmacaecmhdaaDoor
