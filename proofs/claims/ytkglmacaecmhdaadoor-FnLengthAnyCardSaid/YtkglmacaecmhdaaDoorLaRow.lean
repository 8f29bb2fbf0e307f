/- laws.FnLengthAny returns true for every slice of bytes, and leaves it as it was (the tied card; conditions: those of the given row). -/
import Derived.Test.YtkglmacaecmhdaaDoorTie
import Derived.Test.YtkglmacaecmhdaaDoorCards
import Derived.Test.YtkglmacaecmhdaaDoorLa
import Derived.ProofKit
import Derived.OpenShut
import Derived.ShutString
import Derived.LaidMore
import Derived.Lay
import Derived.SevenTiedAt
import Derived.Stop.Joined
namespace Go.Proofs.YtkglmacaecmhdaaDoor.fnLengthAny
open Go.ChangeShapes Go.WideShapes Go.ChangeAt Go.RowKit
open Go.ChangeMaps (open_string shut_string)
set_option linter.unusedVariables false

theorem own : ownKnob Tryd.prog.godebug = none := by kernel_rfl
theorem laidOut : laidOutB Tryd.prog = true := by kernel_rfl

/-- A slice of bytes that came in reads as a list. -/
theorem bs_of_ints {W : World} {a : Option Addr} {len cap : Nat} {zs : List Int} (hl : len ≤ cap) (hm : cap ≤ maxLen) (hz : zs.length = cap) (x : Addr) (ha : a = some x)
    (hcell : ∀ i, i < zs.length → W.cell? (x.add i) = some (.int .u8 (zs.getD i 0))) (hwz : ∀ n ∈ zs, (Lit.int .u8 n).wf = true) : ∃ l, BS W (.slice a len cap) l := by
  have hb : ∀ n ∈ zs, 0 ≤ n ∧ n < 256 := fun n hn => by
    have := hwz n hn
    simp [Lit.wf, IntKind.min, IntKind.max, IntKind.bits, IntKind.signed] at this
    omega
  have hlen : (zs.take len).length = len := by rw [List.length_take]; omega
  refine ⟨(zs.take len).map fun n => UInt8.ofNat n.toNat, a, cap, by rw [List.length_map, hlen], by rw [List.length_map, hlen]; exact hl, hm, fun j y hj => ?_⟩
  rw [List.getElem?_map, List.getElem?_take] at hj
  split at hj
  · rename_i hjl
    have hjz : j < zs.length := by omega
    rw [List.getElem?_eq_getElem hjz] at hj
    simp only [Option.map_some, Option.some.injEq] at hj
    subst hj
    have hc := hcell j hjz
    have hn := hb zs[j] (List.getElem_mem _)
    have hgd : zs.getD j 0 = zs[j] := by rw [List.getD, List.getElem?_eq_getElem hjz]; rfl
    obtain ⟨b, o, sp⟩ := x
    have h0 := hcell 0 (by omega)
    have hsp : sp = none := by simpa [Addr.add] using World.cell?_spot h0
    subst hsp
    rw [Addr.add_lit, hgd] at hc
    refine ⟨b, o, ha, ?_⟩
    rw [hc]
    unfold u8c
    congr 2
    rw [UInt8.toNat_ofNat']
    omega
  · cases hj

set_option maxRecDepth 100000 in
theorem lifted (os : Os) (started : os.Started) (H : Type) (enc : TypeId × Value → H) :
    ReturnsInHanded {} Tryd.checked os 3 .any (fun w args => (Rows.fnLengthAnySpec.pre enc Tryd.prog Tryd.f3 Rows.fnLengthAnyRow.domain false w args ∧ laidMetH Tryd.prog Rows.fnLengthAnyRow.laid w) ∧ sizedMet enc Tryd.prog Tryd.f3 (OpenSpec.ofChange Rows.fnLengthAnySpec) false w args)
      (Rows.fnLengthAnySpec.post enc Tryd.prog Tryd.f3 false true false false) := by
  refine returnsInHanded_of_change_and (C := Tryd.checked) (X := fun w _ => laidMetH Tryd.prog Rows.fnLengthAnyRow.laid w) (fun _ _ _ hh h => h.of_heap hh) own started (by kernel_rfl) Tryd.func3
    (ChangeSpec.witness_shaped (enc := enc) (C := Tryd.checked) (os := os) (X := fun w _ => laidMetH Tryd.prog Rows.fnLengthAnyRow.laid w) false (World.laidAll Tryd.prog os Rows.fnLengthAnyRow.laid) #[.slice none 0 0] 8 (World.laidAll_os _ _ _)
      (World.shaped_of_ZipB (by kernel_rfl) (by kernel_rfl)) (by kernel_rfl) (by kernel_rfl) (by kernel_rfl)
      (by rw [MakeChecks.laidMetH_plain _ _ _ (by kernel_rfl)]; exact laidMet_laidAll _ (by kernel_rfl) (by kernel_rfl))) ?_
  intro W base args ds gs before hval0 hW hcnd _ hL _
  have hval : ∀ (j : Nat) t v, Tryd.f3.params[j]? = some t → args[j]? = some v → Value.okWide Tryd.prog W .any base t v := hval0
  have hW' := hW
  obtain ⟨p, q, hA0, hV, rfl, hfz, hnd⟩ := hW
  have hA : DataW.TrodAll enc Tryd.prog W 0 (fun _ => true) true Tryd.f3.params.toList args.toList ds p := hA0
  rw [Tryd.params3] at hA hval
  obtain ⟨v0, vs0, d0, ds0, p0, q0, hargs, rfl, rfl, h0, r0⟩ := trodAll_cons hA
  obtain ⟨rfl, rfl, rfl⟩ := trodAll_nil r0
  obtain rfl : args = #[v0] := by cases args; simp_all
  obtain ⟨rfl, rfl⟩ := trodVars_none hV
  obtain ⟨a0, len0, cap0, rfl⟩ := okWide_slice Tryd.underlying22 (hval 0 22 v0 rfl rfl)
  have k0 := h0
  have lt0 : ∀ x ∈ p0, x.block < W.heap.size := by obtain ⟨m, hm⟩ := k0; exact DataW.trod_lt m _ _ _ hm
  obtain ⟨l0, w0⟩ : ∃ l, BS W (.slice a0 len0 cap0) l := by
    obtain ⟨fuel, hf⟩ := h0
    rcases open_ints Tryd.underlying22 Tryd.underlying5 (by kernel_rfl) hf with ⟨hcs, _⟩ | ⟨x, l, c, zs, hcs, _, hl, hm, hz, _, hcell, hwz⟩
    · simp [Value.cells] at hcs
      obtain ⟨rfl, rfl, rfl⟩ := hcs
      exact ⟨[], BS.nil W⟩
    · simp [Value.cells] at hcs
      obtain ⟨rfl, rfl, rfl⟩ := hcs
      exact bs_of_ints hl hm (by simpa using hz) x rfl hcell hwz
  clear hA0 hval0
  refine (fnLengthAny_walk _ l0 W w0).mono fun e W' ⟨he, fr⟩ => ?_
  subst he
  have bel := fr.below
  exact ⟨_, rfl, _, _, _, [], _, [], hW', trodAll_mk1 (shut_bool Tryd.underlying4 _), (trodAll_cons_mk (Below.trod laidOut (by kernel_rfl) (of_decide_eq_true (by kernel_rfl)) k0 bel lt0) trodAll_mk0), rfl, bel.frame _, fun h => by cases h⟩

theorem over : Rows.fnLengthAnyRow.holds Tryd.pinned (OpenSpec.ofChange Rows.fnLengthAnySpec) :=
  OpenClaim.holds_of_wide 3 Tryd.f3 rfl rfl rfl rfl rfl rfl rfl ⟨rfl, rfl, rfl, rfl, rfl⟩ rfl rfl rfl rfl rfl (by kernel_rfl) Tryd.func3 (by kernel_rfl)
    (of_decide_eq_true (by kernel_rfl)) (by unfold Func.isWrapper; rw [if_neg (of_decide_eq_false (by kernel_rfl))]; exact ⟨rfl, rfl⟩)
    (fun os started H enc _ => lifted os started H enc)

theorem card_holds : Rows.FnLengthAnyCardSaid :=
  Claim7.holds_tied_plain_at .later [] [.data] true (true, "9c4cfbe201775fdbc1e1d3dab9b067954222f9a783b7d9c976b181b6563e3505") false
    over (fun _ h => by cases h) (by kernel_rfl) (fun _ h => by cases h) fnLengthAny_row_tie rfl ⟨rfl, rfl⟩ (by kernel_rfl) rfl
    (fun f fn hf hfn => by
      obtain rfl : f = 3 := Option.some.inj ((show Tryd.prog.funcNamed "mochimqtt/laws.FnLengthAny" = some 3 by kernel_rfl).symm.trans hf) |>.symm
      obtain rfl : fn = Tryd.f3 := (Option.some.inj (Tryd.func3.symm.trans hfn)).symm
      exact ⟨by kernel_rfl, fun j t ht => by
        rw [Tryd.params3] at ht
        have hm : t ∈ [22] := by simpa using Array.mem_of_getElem? ht
        have hall : ([22].all fun u => !Tryd.prog.wantsStandIn u) = true := by kernel_rfl
        exact (show Tryd.prog.wantsStandIn t = false by simpa using List.all_eq_true.1 hall t hm)⟩)
    (by kernel_rfl)
#print axioms card_holds
end Go.Proofs.YtkglmacaecmhdaaDoor.fnLengthAny
