/- What the rows' proofs share: the program's closed facts, a slice of bytes that came in reads as a list, an int's bounds. -/
import Derived.Test.YtkglmacaecmhdaaDoorChecked
import Derived.Test.YtkglmacaecmhdaaDoorByt
import Derived.ProofKit
import Derived.OpenShut
import Derived.ShutString
namespace Go.Proofs.YtkglmacaecmhdaaDoor
open Go.ChangeShapes Go.WideShapes Go.ChangeAt Go.RowKit
set_option linter.unusedVariables false

theorem own : ownKnob Tryd.prog.godebug = none := by kernel_rfl
theorem laidOut : laidOutB Tryd.prog = true := by kernel_rfl
theorem int_bounds {x : Int} (w : (Lit.int .i64 x).wf = true) : -9223372036854775808 ≤ x ∧ x ≤ 9223372036854775807 := by
  simp [Lit.wf, IntKind.min, IntKind.max, IntKind.bits, IntKind.signed] at w
  omega

/-- A slice of bytes that came in reads as a list. -/
theorem bs_of_ints {W : World} {a : Option Addr} {len cap : Nat} {zs : List Int} (hl : len ≤ cap) (hm : cap ≤ maxLen) (hz : zs.length = cap) (x : Addr) (ha : a = some x)
    (hcell : ∀ i, i < zs.length → W.cell? (x.add i) = some (.int .u8 (zs.getD i 0))) (hwz : ∀ n ∈ zs, (Lit.int .u8 n).wf = true) : ∃ l, BS W (.slice a len cap) l := by
  have hb : ∀ n ∈ zs, 0 ≤ n ∧ n < 256 := fun n hn => by
    have := hwz n hn
    simp [Lit.wf, IntKind.min, IntKind.max, IntKind.bits, IntKind.signed] at this
    omega
  have hlen : (zs.take len).length = len := by rw [List.length_take]; omega
  refine ⟨(zs.take len).map fun n => UInt8.ofNat n.toNat, a, cap, by rw [List.length_map, hlen], by rw [List.length_map, hlen]; exact hl, hm, fun j y hj => ?_⟩
  rw [List.getElem?_map, List.getElem?_take] at hj
  split at hj
  · rename_i hjl
    have hjz : j < zs.length := by omega
    rw [List.getElem?_eq_getElem hjz] at hj
    simp only [Option.map_some, Option.some.injEq] at hj
    subst hj
    have hc := hcell j hjz
    have hn := hb zs[j] (List.getElem_mem _)
    have hgd : zs.getD j 0 = zs[j] := by rw [List.getD, List.getElem?_eq_getElem hjz]; rfl
    obtain ⟨b, o, sp⟩ := x
    have h0 := hcell 0 (by omega)
    have hsp : sp = none := by simpa [Addr.add] using World.cell?_spot h0
    subst hsp
    rw [Addr.add_lit, hgd] at hc
    refine ⟨b, o, ha, ?_⟩
    rw [hc]
    unfold u8c
    congr 2
    rw [UInt8.toNat_ofNat']
    omega
  · cases hj

theorem bs_of_trod {W : World} {H : Type} {enc : TypeId × Value → H} {base : Nat} {sp : Nat → Bool} {a : Option Addr} {len cap : Nat} {d : DataW H} {p : List MemPlace}
    (h : DataW.Trod enc Tryd.prog W base sp true 22 (.slice a len cap) d p) (hsp : ∀ n, sp n = true) : ∃ l, BS W (.slice a len cap) l := by
  obtain ⟨fuel, hf⟩ := h
  rcases open_ints Tryd.underlying22 Tryd.underlying5 (by kernel_rfl) hf with ⟨hcs, _⟩ | ⟨x, l, c, zs, hcs, _, hl, hm, hz, _, hcell, hwz⟩
  · simp [Value.cells] at hcs
    obtain ⟨rfl, rfl, rfl⟩ := hcs
    exact ⟨[], BS.nil W⟩
  · simp [Value.cells] at hcs
    obtain ⟨rfl, rfl, rfl⟩ := hcs
    exact bs_of_ints hl hm (by simpa [hsp] using hz) x rfl hcell hwz
end Go.Proofs.YtkglmacaecmhdaaDoor
