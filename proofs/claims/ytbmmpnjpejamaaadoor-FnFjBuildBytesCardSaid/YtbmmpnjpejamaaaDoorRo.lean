/- A region that draws its order: what yields its value in every grown world is taken first, the rest goes in turn. No statement of the set is proved here. -/
import Derived.Test.YtbmmpnjpejamaaaDoorRq
import Derived.OrdersHeld
namespace Go.Proofs.YtbmmpnjpejamaaaDoor.Rx
open Go

section
variable {P : Program} {ops : Array Oper} {md : Region.Mode} {Q : Exit → Act → World → Prop} {S S' : World → Prop} {m : Nat}

/-- Whatever order is picked; behind each operation below m the world is in S. -/
def anyB (P : Program) (md : Region.Mode) (ops : Array Oper) (Q : Exit → Act → World → Prop) (m : Nat) (S : World → Prop) : Nat → Array Bool → Act → World → Prop
  | 0, listed, a, w => Region.ready md ops listed = [] ∧ Q .normal a w
  | f + 1, listed, a, w => (Region.ready md ops listed = [] → Q .normal a w) ∧
    ∀ i ∈ Region.ready md ops listed, wpOp P ops Q i (fun a' w' => (i < m → S w') ∧ anyB P md ops Q m S f (listed.setIfInBounds i true) a' w') a w
theorem any_of_B : ∀ (f : Nat) (listed : Array Bool) (a : Act) (w : World), anyB P md ops Q m S f listed a w → wpAny P md ops Q f listed a w
  | 0, _, _, _, h => h
  | f + 1, _, _, _, h => ⟨h.1, fun i hi => wpOp_mono (fun _ _ h' => any_of_B f _ _ _ h'.2) (h.2 i hi)⟩
theorem anyB_mono (hS : ∀ w, S w → S' w) : ∀ (f : Nat) (listed : Array Bool) (a : Act) (w : World), anyB P md ops Q m S f listed a w → anyB P md ops Q m S' f listed a w
  | 0, _, _, _, h => h
  | f + 1, _, _, _, h => ⟨h.1, fun i hi => wpOp_mono (fun _ _ h' => ⟨fun hlt => hS _ (h'.1 hlt), anyB_mono hS f _ _ _ h'.2⟩) (h.2 i hi)⟩
theorem anyB_of_any : ∀ (g k : Nat) (listed : Array Bool) (a : Act) (w : World), Region.seqB md ops g k listed = true → m ≤ k → wpAny P md ops Q g listed a w → anyB P md ops Q m S g listed a w
  | 0, _, _, _, _, _, _, h => h
  | g + 1, k, listed, a, w, hB, hk, h => by
    simp only [Region.seqB, Bool.and_eq_true, decide_eq_true_eq] at hB
    refine ⟨h.1, fun i hi => ?_⟩
    have hik : i = k := by rw [hB.1] at hi; simpa using hi
    subst hik
    exact wpOp_mono (fun a' w' h' => ⟨fun hlt => absurd hlt (by omega), anyB_of_any g (i + 1) _ a' w' hB.2 (by omega) h'⟩) (h.2 i hi)
theorem not_on {i : Nat} {oj : Oper} {listed : Array Bool} (hi : i ∈ Region.ready md ops listed) (h : ∀ e ∈ oj.after, Region.binds md e = true → listed.getD e.on false = true) : ∀ e ∈ oj.after, Region.binds md e = true → e.on ≠ i := by
  intro e he hb heq
  have h1 := h e he hb
  have h0 := (mem_ready.1 hi).1
  rw [heq] at h1
  rcases Nat.lt_or_ge i listed.size with g | g
  · simp [g] at h0 h1
    rw [h0] at h1; cases h1
  · simp [Array.getElem?_eq_none g] at h1
/-- It may be taken first. -/
theorem anyB_first {i : Nat} {oi : Oper} {v : Value} (hi : ops[i]? = some oi) (hsel : ∀ (j : Nat) (o : Oper) cs b, ops[j]? = some o → o.op ≠ .select cs b) (hQ : ∀ c a w, ¬ Q (.panic c) a w)
    (hs : Region.sinkB md ops m = true) (hc : Region.chainB md ops m = true) (hm : m < ops.size) (him : i < m) :
    ∀ (f : Nat) (listed : Array Bool) (a : Act) (w : World), HeadInv md ops m listed →
      (∀ j oj, ops[j]? = some oj → j ≠ i → listed.getD j true = false → (∀ e ∈ oj.after, Region.binds md e = true → e.on ≠ i) → oi.apart ops oj = true) →
      i ∈ Region.ready md ops listed → YieldsIf P ops S oi v a → S w →
      anyB P md ops Q m S f (listed.setIfInBounds i true) (a.put oi.dst v) w → anyB P md ops Q m S (f + 1) listed a w := by
  intro f
  induction f with
  | zero =>
    intro listed a w _ _ hr hy hS H
    refine ⟨fun h => (by rw [h] at hr; cases hr), fun j hj => ?_⟩
    by_cases hji : j = i
    · subst hji; exact hy.wpOp hi hS ⟨fun _ => hS, H⟩
    · have := ready_mono hj hji
      rw [H.1] at this; cases this
  | succ f ih =>
    intro listed a w inv hfree hr hy hS H
    refine ⟨fun h => (by rw [h] at hr; cases hr), fun j hj => ?_⟩
    by_cases hji : j = i
    · subst hji; exact hy.wpOp hi hS ⟨fun _ => hS, H⟩
    obtain ⟨hjun, oj, hoj, hall⟩ := mem_ready.1 hj
    have hjm : j < m := by
      rcases Nat.lt_or_ge j m with g | g
      · exact g
      · exact absurd hj (tail_waits hs hc hm inv _ i rfl him (mem_ready.1 hr).1 j g)
    have h2 := wpOp_putIf hoj (hfree j oj hoj hji hjun (not_on hr hall)) (fun cs b => hsel i oi cs b hi) (fun cs b => hsel j oj cs b hoj) (fun c a w h => absurd h (hQ c _ w)) hy (H.2 j (ready_mono hj hji))
    refine wpOp_mono (fun a' w' h3 => ⟨h3.2.1, ?_⟩) h2
    refine ih _ a' w' (inv.set hj hjm) (fun k ok hk hki hun hno => hfree k ok hk hki ?_ hno) (ready_mono hr (Ne.symm hji)) h3.1 (h3.2.1 hjm) ?_
    · by_cases hjk : j = k
      · subst hjk; exact hjun
      · rw [getD_set_ne true hjk] at hun; exact hun
    · rw [Array.setIfInBounds_comm _ _ hji]; exact h3.2.2
/-- The order in which a region's operations are read: taken first (true) or in turn. -/
def ordB (md : Region.Mode) (ops : Array Oper) (m : Nat) : List (Nat × Bool) → Array Bool → Bool
  | [], listed => Region.seqB md ops (ops.size - m) m listed
  | (i, true) :: r, listed => Nat.blt i m && (Region.ready md ops listed).contains i && Region.free md ops listed i && ordB md ops m r (listed.setIfInBounds i true)
  | (i, false) :: r, listed => Nat.blt i m && decide (Region.ready md ops listed = [i]) && ordB md ops m r (listed.setIfInBounds i true)
def ordAll (md : Region.Mode) (ops : Array Oper) (m : Nat) (l : List (Nat × Bool)) : Bool :=
  Region.noSelect ops && Nat.blt m ops.size && Region.sinkB md ops m && Region.chainB md ops m && Nat.beq l.length m && ordB md ops m l (Array.replicate ops.size false)
/-- Greedy: what may be taken first is; else what alone may come up. -/
def ordOf (P : Program) (pure : Op → Bool) (md : Region.Mode) (ops : Array Oper) (m : Nat) : Nat → Array Bool → List (Nat × Bool)
  | 0, _ => []
  | f + 1, listed =>
    let rs := (Region.ready md ops listed).filter (fun i => Nat.blt i m)
    match rs.find? (fun i => match ops[i]? with | some o => pure o.op && Region.free md ops listed i | none => false) with
    | some i => (i, true) :: ordOf P pure md ops m f (listed.setIfInBounds i true)
    | none => match rs with
      | i :: _ => (i, false) :: ordOf P pure md ops m f (listed.setIfInBounds i true)
      | [] => []
end
end Go.Proofs.YtbmmpnjpejamaaaDoor.Rx
