/- The fixed header read: FixedHeader.Decode, Header. -/
import Derived.Test.YtkglmacaecmhdaaDoorHdr
import Derived.Test.YtkglmacaecmhdaaDoorPl
import Derived.Test.YtkglmacaecmhdaaDoorLb
namespace Go.Proofs.YtkglmacaecmhdaaDoor
open Go.RowKit
set_option linter.unusedVariables false

/-- A header lies at ⟨h, o⟩. -/
structure HdAt (w : World) (h o : Nat) (n ty q : Nat) (d r : Bool) : Prop where
  c0 : w.cell? ⟨h, o, none⟩ = some (.int .i64 n)
  c1 : w.cell? ⟨h, o + 1, none⟩ = some (.int .u8 ty)
  c2 : w.cell? ⟨h, o + 2, none⟩ = some (.int .u8 q)
  c3 : w.cell? ⟨h, o + 3, none⟩ = some (.bool d)
  c4 : w.cell? ⟨h, o + 4, none⟩ = some (.bool r)
  f0 : ∀ i, w.frozen? ⟨h, i, none⟩ = false

/-- The world behind the reading of a publish's first byte. -/
def hdW (w : World) (h o ty q : Nat) (d r : Bool) : World :=
  (((w.setCell ⟨h, o + 1, none⟩ (.int .u8 ty)).setCell ⟨h, o + 3, none⟩ (.bool d)).setCell ⟨h, o + 2, none⟩ (.int .u8 q)).setCell ⟨h, o + 4, none⟩ (.bool r)

set_option maxRecDepth 20000 in
set_option maxHeartbeats 800000 in
/- decode -/
theorem hdrDecode_pub (h o q n : Nat) (d r : Bool) (hq : q < 3) (hqd : q = 0 → d = false) (w : World) (ha : HdAt w h o n 0 0 false false) :
    Calls Tryd.prog 60 #[.pointer (some ⟨h, o, none⟩), .int .u8 (hb0 3 q d r)] w fun e w' => e = .returned .nilIface ∧ w' = hdW w h o 3 q d r := by
  obtain ⟨c0, c1, c2, c3, c4, f⟩ := ha
  have f1 := f (o + 1)
  have f2 := f (o + 2)
  have f3 := f (o + 3)
  have f4 := f (o + 4)
  clear f
  unfold hdW
  obtain rfl | rfl | rfl : q = 0 ∨ q = 1 ∨ q = 2 := by omega
  · obtain rfl := hqd rfl
    cases r
    all_goals
      simp only [hb0]
      go_enter Tryd.func60, Tryd.ntmps60
      go_wp2_with fail
      go_ret
      exact ⟨rfl, by kernel_rfl⟩
  all_goals
    clear hqd
    cases d <;> cases r
    all_goals
      simp only [hb0]
      go_enter Tryd.func60, Tryd.ntmps60
      go_wp2_with fail
      go_ret
      exact ⟨rfl, by kernel_rfl⟩

end Go.Proofs.YtkglmacaecmhdaaDoor
