/- A region that draws its order, walked in segments: moves that are free are taken first, whatever is alone ready follows; where several operations are ready every choice is walked. Plain: over any program. -/
import Derived.Orders
import Derived.Tactics
namespace Go.Proofs.YtkglmacaecmhdaaDoor
open Go
section
variable {P : Program} {ops : Array Oper} {Q : Exit → Act → World → Prop} {md : Region.Mode}

theorem segQ_normal (K : Act → World → Prop) (a : Act) (w : World) : Exit.then K Q .normal a w = K a w := rfl
theorem segQ_panic (K : Act → World → Prop) (c : List PanicEntry) (a : Act) (w : World) : Exit.then K Q (.panic c) a w = Q (.panic c) a w := rfl
theorem letsOut_segQ (K : Act → World → Prop) : LetsOut (Exit.then K Q) = LetsOut Q := rfl

theorem wp_segQ {o : Oper} {K L : Act → World → Prop} {a : Act} {w : World} : o.wp P a w L (Exit.then K Q) = o.wp P a w L Q := by
  unfold Oper.wp
  generalize (execOp a.eval o).run P w = r
  cases r with
  | ok n w' => cases n <;> rfl
  | halt x w' => cases x <;> rfl

theorem wpOp_segQ {i : Nat} {K L : Act → World → Prop} {a : Act} {w : World} : wpOp P ops (Exit.then K Q) i L a w = wpOp P ops Q i L a w := by
  unfold wpOp
  simp only [wp_segQ, letsOut_segQ]

/-- A move that may be taken first. -/
def freeMove (md : Region.Mode) (ops : Array Oper) (listed : Array Bool) (i : Nat) : Bool :=
  (match ops[i]? with
   | some o => (match o.op with | .move _ => true | _ => false)
   | none => false) && Region.free md ops listed i

/-- The segment from a state on: its operations, the state behind it. -/
def seg (md : Region.Mode) (ops : Array Oper) : Nat → Array Bool → List Nat × Array Bool × Nat
  | 0, listed => ([], listed, 0)
  | fuel + 1, listed =>
    match (Region.ready md ops listed).find? (freeMove md ops listed) with
    | some i => let r := seg md ops fuel (listed.setIfInBounds i true); (i :: r.1, r.2)
    | none =>
      match Region.ready md ops listed with
      | [i] => let r := seg md ops fuel (listed.setIfInBounds i true); (i :: r.1, r.2)
      | _ => ([], listed, fuel + 1)

theorem run_move {o : Oper} {x : Operand} (h : o.op = .move x) (ρ : Operand → Value) (w : World) : (execOp ρ o).run P w = .ok (.value (ρ x)) w := by
  unfold execOp
  simp [h]

theorem put_panic (hQ : ∀ c a (d : Tmp) v w, Q (.panic c) (Act.put a (some d) v) w → Q (.panic c) a w) {v : Value} : ∀ (d : Option Tmp) (c : List PanicEntry) (a : Act) (w : World), Q (.panic c) (a.put d v) w → Q (.panic c) a w
  | none, _, _, _, h => h
  | some d, c, a, w, h => hQ c a d v w h

theorem seg_sound (hs : Region.noSelect ops = true) (hQ : ∀ c a (d : Tmp) v w, Q (.panic c) (Act.put a (some d) v) w → Q (.panic c) a w) :
    ∀ (fuel : Nat) (listed : Array Bool) (a : Act) (w : World), wpOps P ops (Exit.then (wpAny P md ops Q (seg md ops fuel listed).2.2 (seg md ops fuel listed).2.1) Q) (seg md ops fuel listed).1 a w → wpAny P md ops Q fuel listed a w
  | 0, listed, a, w, h => h
  | fuel + 1, listed, a, w, h => by
    unfold seg at h
    cases hf : (Region.ready md ops listed).find? (freeMove md ops listed) with
    | some i =>
      simp only [hf] at h
      rw [wpOps_cons, wpOp_segQ] at h
      have hm := List.find?_some hf
      have hr := List.mem_of_find?_eq_some hf
      unfold freeMove at hm
      rw [Bool.and_eq_true] at hm
      obtain ⟨hm1, hfree⟩ := hm
      cases ho : ops[i]? with
      | none => simp [ho] at hm1
      | some o =>
        rw [ho] at hm1
        cases hop : o.op with
        | move x =>
          have ih := seg_sound hs hQ fuel (listed.setIfInBounds i true)
          unfold wpOp at h
          simp only [ho] at h
          by_cases hw : Region.wanted o (yielded ops a.tmps) = true
          · simp only [hw, if_true] at h
            have hrun : ∀ w, (execOp a.eval o).run P w = .ok (.value (a.eval x)) w := fun w => run_move hop a.eval w
            rcases h with h | h
            · unfold Oper.wp at h
              rw [hrun] at h
              exact wpAny_take ho hs hfree (by simpa using hr) (put_panic hQ o.dst) (.inl ⟨hw, hrun⟩) (ih _ _ h)
            · exfalso
              have h1 := h.1.1
              unfold execOp at h1
              rw [hop] at h1
              have h2 : noRoomEvent ∈ (#[] : Array Event) := h1
              simp at h2
          · simp only [hw] at h
            exact wpAny_take ho hs hfree (by simpa using hr) (put_panic hQ o.dst) (.inr ⟨by simpa using hw, rfl⟩) (ih _ _ h)
        | _ => simp [hop] at hm1
    | none =>
      simp only [hf] at h
      split at h
      · rename_i i hi
        rw [wpOps_cons, wpOp_segQ] at h
        refine wpAny_all hi (by simp) fun j hj => ?_
        simp only [List.mem_singleton] at hj
        subst hj
        exact wpOp_mono (fun a' w' h' => seg_sound hs hQ fuel _ a' w' h') h
      · exact h

/-- The operations of a segment. -/
def pick1 : Option Oper → List Oper → List Oper
  | none, l => l
  | some o, l => o :: l
def picks (ops : Array Oper) : List Nat → List Oper
  | [] => []
  | i :: is => pick1 ops[i]? (picks ops is)
theorem picks_nil : picks ops [] = [] := rfl
theorem picks_cons (i : Nat) (is : List Nat) : picks ops (i :: is) = pick1 ops[i]? (picks ops is) := rfl
theorem pick1_some (o : Oper) (l : List Oper) : pick1 (some o) l = o :: l := rfl

theorem wpOps_picks (is : List Nat) : ∀ (a : Act) (w : World), wpList P ops Q (picks ops is) a w → wpOps P ops Q is a w := by
  induction is with
  | nil => intro a w h; exact h
  | cons i is ih =>
    intro a w h
    rw [wpOps_cons]
    unfold wpOp
    cases ho : ops[i]? with
    | none =>
      simp only [picks, pick1, ho] at h
      exact ih _ _ h
    | some o =>
      simp only [picks, pick1, ho, wpList] at h
      simp only
      split
      · rename_i hw
        rw [if_pos hw] at h
        rcases h with h | h
        · exact .inl (Oper.wp_mono (fun a w h => ih a w h) h)
        · exact .inr h
      · rename_i hw
        rw [if_neg hw] at h
        exact ih _ _ h

/-- The state behind some operations. -/
def setAll (listed : Array Bool) (is : List Nat) : Array Bool := is.foldl (fun l i => l.setIfInBounds i true) listed

theorem seg_state : ∀ (fuel : Nat) (listed : Array Bool), (seg md ops fuel listed).2 = (setAll listed (seg md ops fuel listed).1, fuel - (seg md ops fuel listed).1.length)
  | 0, listed => rfl
  | fuel + 1, listed => by
    unfold seg
    cases hf : (Region.ready md ops listed).find? (freeMove md ops listed) with
    | some i =>
      simp only [seg_state fuel (listed.setIfInBounds i true)]
      simp [setAll]
    | none =>
      simp only
      split
      · rename_i i hi
        simp only [seg_state fuel (listed.setIfInBounds i true)]
        simp [setAll]
      · rfl

/-- THE REGION, TO ITS FIRST CHOICE. -/
theorem region_seg {id : Nat} {a : Act} {w : World} (hm : P.follows .mixedOrders = true) (hs : Region.noSelect ops = true) (hQ : ∀ c a (d : Tmp) v w, Q (.panic c) (Act.put a (some d) v) w → Q (.panic c) a w)
    (is : List Nat) (hseg : (seg .any ops ops.size (Array.replicate ops.size false)).1 = is)
    (h : wpList P ops (Exit.then (wpAny P .any ops Q (ops.size - is.length) (setAll (Array.replicate ops.size false) is)) Q) (picks ops is) a w.drew) : (Code.region id ops true).wp P Q a w := by
  refine wp_region_any hm (seg_sound hs hQ _ _ _ _ ?_)
  rw [seg_state, hseg]
  exact wpOps_picks _ _ _ h

/-- ONE CHOICE, to the next one. -/
theorem choice_seg {a : Act} {w : World} {fuel : Nat} {listed : Array Bool} (hs : Region.noSelect ops = true) (hQ : ∀ c a (d : Tmp) v w, Q (.panic c) (Act.put a (some d) v) w → Q (.panic c) a w)
    (i : Nat) (is : List Nat) (hseg : (seg md ops fuel (listed.setIfInBounds i true)).1 = is)
    (h : wpList P ops (Exit.then (wpAny P md ops Q (fuel - is.length) (setAll (listed.setIfInBounds i true) is)) Q) (picks ops (i :: is)) a w) : wpOp P ops Q i (wpAny P md ops Q fuel (listed.setIfInBounds i true)) a w := by
  have h1 := wpOps_picks _ _ _ h
  rw [wpOps_cons, wpOp_segQ] at h1
  refine wpOp_mono (fun a' w' h' => seg_sound hs hQ _ _ _ _ ?_) h1
  rw [seg_state, hseg]
  exact h'

theorem wpAny_two (fuel : Nat) {fuel' : Nat} {listed : Array Bool} {a : Act} {w : World} (i j : Nat) (hg : fuel' = fuel + 1) (hr : Region.ready md ops listed = [i, j])
    (h1 : wpOp P ops Q i (wpAny P md ops Q fuel (listed.setIfInBounds i true)) a w) (h2 : wpOp P ops Q j (wpAny P md ops Q fuel (listed.setIfInBounds j true)) a w) : wpAny P md ops Q fuel' listed a w := by
  subst hg
  refine wpAny_all hr (by simp) fun k hk => ?_
  rcases List.mem_cons.1 hk with rfl | hk
  · exact h1
  · rw [List.mem_singleton.1 hk]; exact h2
theorem wpAny_three (fuel : Nat) {fuel' : Nat} {listed : Array Bool} {a : Act} {w : World} (i j k : Nat) (hg : fuel' = fuel + 1) (hr : Region.ready md ops listed = [i, j, k])
    (h1 : wpOp P ops Q i (wpAny P md ops Q fuel (listed.setIfInBounds i true)) a w) (h2 : wpOp P ops Q j (wpAny P md ops Q fuel (listed.setIfInBounds j true)) a w)
    (h3 : wpOp P ops Q k (wpAny P md ops Q fuel (listed.setIfInBounds k true)) a w) : wpAny P md ops Q fuel' listed a w := by
  subst hg
  refine wpAny_all hr (by simp) fun x hx => ?_
  rcases List.mem_cons.1 hx with rfl | hx
  · exact h1
  · rcases List.mem_cons.1 hx with rfl | hx
    · exact h2
    · rw [List.mem_singleton.1 hx]; exact h3
end
end Go.Proofs.YtkglmacaecmhdaaDoor
