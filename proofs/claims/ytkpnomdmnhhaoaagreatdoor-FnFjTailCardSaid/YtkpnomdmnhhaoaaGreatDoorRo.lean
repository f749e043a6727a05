/- A region that draws its order: what yields its value in every grown world is taken first, the rest goes in turn. No statement of the set is proved here. -/
import Derived.Test.YtkpnomdmnhhaoaaGreatDoorRq
import Derived.OrdersHeld
namespace Go.Proofs.YtkpnomdmnhhaoaaGreatDoor.Rx
open Go

section
variable {P : Program} {ops : Array Oper} {md : Region.Mode} {Q : Exit → Act → World → Prop} {S S' R : World → Prop} {m : Nat}

/-- Whether an operation waits for another, straight or through others. -/
def reach (md : Region.Mode) (ops : Array Oper) : Nat → Nat → Nat → Bool
  | 0, _, _ => false
  | f + 1, j, d => match ops[j]? with
    | none => false
    | some o => o.after.toList.any fun e => Region.binds md e && (Nat.beq e.on d || reach md ops f e.on d)
/-- Those of a list for which an operation does not wait. -/
def keepD (md : Region.Mode) (ops : Array Oper) (D : List Nat) (j : Nat) : List Nat := D.filter fun d => !reach md ops ops.size j d
theorem keepD_nil (j : Nat) : keepD md ops [] j = [] := rfl
theorem keepD_sub {D D' : List Nat} (h : ∀ d ∈ D', d ∈ D) (j : Nat) : ∀ d ∈ keepD md ops D' j, d ∈ keepD md ops D j := fun d hd => by
  unfold keepD at *
  rw [List.mem_filter] at *
  exact ⟨h d hd.1, hd.2⟩
theorem not_reach {n d : Nat} {listed : Array Bool} (inv : HeadInv md ops n listed) (hd : listed.getD d true = false) : ∀ (f j : Nat) (oj : Oper), ops[j]? = some oj → (∀ e ∈ oj.after, Region.binds md e = true → listed.getD e.on false = true) → reach md ops f j d = false
  | 0, _, _, _, _ => rfl
  | f + 1, j, oj, hj, hall => by
    unfold reach
    rw [hj]
    rw [List.any_eq_false]
    intro e he
    simp only [Bool.and_eq_true, Bool.or_eq_true, not_and, not_or]
    intro hb
    have he' : e ∈ oj.after := by simpa using he
    have hl := hall e he' hb
    refine ⟨fun hne => ?_, ?_⟩
    · have e1 : e.on = d := by simpa using hne
      rw [e1] at hl
      rcases Nat.lt_or_ge d listed.size with g | g
      · simp [g] at hd hl
        rw [hd] at hl; cases hl
      · simp [Array.getElem?_eq_none g] at hl
    · cases ho : ops[e.on]? with
      | none =>
        cases f with
        | zero => simp [reach]
        | succ f => simp [reach, ho]
      | some oe =>
        have := not_reach inv hd f e.on oe ho (fun e' h1 h2 => inv.closed e.on oe ho hl e' h1 h2)
        rw [this]; simp
/-- Whatever order is picked; behind each operation that some of D does not wait ahead of, the world is in S. -/
def anyB (P : Program) (md : Region.Mode) (ops : Array Oper) (Q : Exit → Act → World → Prop) (S : World → Prop) : Nat → List Nat → Array Bool → Act → World → Prop
  | 0, _, listed, a, w => Region.ready md ops listed = [] ∧ Q .normal a w
  | f + 1, D, listed, a, w => (Region.ready md ops listed = [] → Q .normal a w) ∧
    ∀ i ∈ Region.ready md ops listed, wpOp P ops Q i (fun a' w' => (keepD md ops D i ≠ [] → S w') ∧ anyB P md ops Q S f (keepD md ops D i) (listed.setIfInBounds i true) a' w') a w
theorem any_of_B : ∀ (f : Nat) (D : List Nat) (listed : Array Bool) (a : Act) (w : World), anyB P md ops Q S f D listed a w → wpAny P md ops Q f listed a w
  | 0, _, _, _, _, h => h
  | f + 1, _, _, _, _, h => ⟨h.1, fun i hi => wpOp_mono (fun _ _ h' => any_of_B f _ _ _ _ h'.2) (h.2 i hi)⟩
theorem anyB_mono : ∀ (f : Nat) {D D' : List Nat} (listed : Array Bool) (a : Act) (w : World), (∀ d ∈ D', d ∈ D) → (D' ≠ [] → ∀ w, S w → S' w) → anyB P md ops Q S f D listed a w → anyB P md ops Q S' f D' listed a w
  | 0, _, _, _, _, _, _, _, h => h
  | f + 1, D, D', _, _, _, hD, hS, h => ⟨h.1, fun i hi => wpOp_mono (fun _ w' h' => by
      have hk := keepD_sub (md := md) (ops := ops) hD i
      have hne : keepD md ops D' i ≠ [] → D' ≠ [] := fun h0 e => h0 (by rw [e]; rfl)
      refine ⟨fun h0 => hS (hne h0) _ (h'.1 fun e => ?_), anyB_mono f _ _ _ hk (fun h0 => hS (hne h0)) h'.2⟩
      obtain ⟨d, hd⟩ := List.exists_mem_of_ne_nil _ h0
      have := hk d hd
      rw [e] at this; cases this) (h.2 i hi)⟩
theorem anyB_of_any : ∀ (f : Nat) (listed : Array Bool) (a : Act) (w : World), wpAny P md ops Q f listed a w → anyB P md ops Q S f [] listed a w
  | 0, _, _, _, h => h
  | f + 1, _, _, _, h => ⟨h.1, fun i hi => wpOp_mono (fun _ _ h' => ⟨fun h0 => absurd rfl h0, anyB_of_any f _ _ _ h'⟩) (h.2 i hi)⟩
/-- The tail: its first operation waits for all of D. -/
theorem anyB_tail {g : Nat} {D : List Nat} {listed : Array Bool} {a : Act} {w : World} (hr : Region.ready md ops listed = [m]) (hD : keepD md ops D m = []) (h : wpAny P md ops Q (g + 1) listed a w) : anyB P md ops Q S (g + 1) D listed a w := by
  refine ⟨h.1, fun i hi => ?_⟩
  have : i = m := by rw [hr] at hi; simpa using hi
  subst this
  rw [hD]
  exact wpOp_mono (fun _ _ h' => ⟨fun h0 => absurd rfl h0, anyB_of_any g _ _ _ h'⟩) (h.2 i hi)
theorem not_on {i : Nat} {oj : Oper} {listed : Array Bool} (hi : i ∈ Region.ready md ops listed) (h : ∀ e ∈ oj.after, Region.binds md e = true → listed.getD e.on false = true) : ∀ e ∈ oj.after, Region.binds md e = true → e.on ≠ i := by
  intro e he hb heq
  have h1 := h e he hb
  have h0 := (mem_ready.1 hi).1
  rw [heq] at h1
  rcases Nat.lt_or_ge i listed.size with g | g
  · simp [g] at h0 h1
    rw [h0] at h1; cases h1
  · simp [Array.getElem?_eq_none g] at h1
/-- It may be taken first: it yields its value in every world of S. -/
theorem anyB_first {i : Nat} {oi : Oper} {v : Value} (hi : ops[i]? = some oi) (hsel : ∀ (j : Nat) (o : Oper) cs b, ops[j]? = some o → o.op ≠ .select cs b) (hQ : ∀ c a w, ¬ Q (.panic c) a w)
    (hs : Region.sinkB md ops m = true) (hc : Region.chainB md ops m = true) (hm : m < ops.size) (him : i < m) :
    ∀ (f : Nat) (D : List Nat) (listed : Array Bool) (a : Act) (w : World), HeadInv md ops m listed →
      (∀ j oj, ops[j]? = some oj → j ≠ i → listed.getD j true = false → (∀ e ∈ oj.after, Region.binds md e = true → e.on ≠ i) → oi.apart ops oj = true) →
      i ∈ Region.ready md ops listed → YieldsIf P ops S oi v a → S w →
      anyB P md ops Q S f (i :: D) (listed.setIfInBounds i true) (a.put oi.dst v) w → anyB P md ops Q S (f + 1) D listed a w := by
  intro f
  induction f with
  | zero =>
    intro D listed a w inv hfree hr hy hS H
    refine ⟨fun h => (by rw [h] at hr; cases hr), fun j hj => ?_⟩
    by_cases hji : j = i
    · subst hji; exact hy.wpOp hi hS ⟨fun _ => hS, H⟩
    · have := ready_mono hj hji
      rw [H.1] at this; cases this
  | succ f ih =>
    intro D listed a w inv hfree hr hy hS H
    refine ⟨fun h => (by rw [h] at hr; cases hr), fun j hj => ?_⟩
    by_cases hji : j = i
    · subst hji
      exact hy.wpOp hi hS ⟨fun _ => hS, anyB_mono _ _ _ _ (fun d hd => List.mem_cons_of_mem _ (List.mem_filter.1 hd).1) (fun _ _ h => h) H⟩
    obtain ⟨hjun, oj, hoj, hall⟩ := mem_ready.1 hj
    have hjm : j < m := by
      rcases Nat.lt_or_ge j m with g | g
      · exact g
      · exact absurd hj (tail_waits hs hc hm inv _ i rfl him (mem_ready.1 hr).1 j g)
    have hnr := not_reach inv (mem_ready.1 hr).1 ops.size j oj hoj hall
    have hkeep : keepD md ops (i :: D) j = i :: keepD md ops D j := by
      unfold keepD
      rw [List.filter_cons, hnr]; rfl
    have h2 := wpOp_putIf hoj (hfree j oj hoj hji hjun (not_on hr hall)) (fun cs b => hsel i oi cs b hi) (fun cs b => hsel j oj cs b hoj) (fun c a w h => absurd h (hQ c _ w)) hy (H.2 j (ready_mono hj hji))
    rw [hkeep] at h2
    refine wpOp_mono (fun a' w' h3 => ?_) h2
    have hS' : S w' := h3.2.1 (by simp)
    refine ⟨fun _ => hS', ih _ _ a' w' (inv.set hj hjm) (fun k ok hk hki hun hno => hfree k ok hk hki ?_ hno) (ready_mono hr (Ne.symm hji)) h3.1 hS' ?_⟩
    · by_cases hjk : j = k
      · subst hjk; exact hjun
      · rw [getD_set_ne true hjk] at hun; exact hun
    · rw [Array.setIfInBounds_comm _ _ hji]; exact h3.2.2
/-- It may be taken first: it yields its value in every world. -/
theorem anyB_move {i : Nat} {oi : Oper} {v : Value} (hi : ops[i]? = some oi) (hsel : ∀ (j : Nat) (o : Oper) cs b, ops[j]? = some o → o.op ≠ .select cs b) (hQ : ∀ c a w, ¬ Q (.panic c) a w)
    (hs : Region.sinkB md ops m = true) (hc : Region.chainB md ops m = true) (hm : m < ops.size) (him : i < m) :
    ∀ (f : Nat) (D : List Nat) (listed : Array Bool) (a : Act) (w : World), HeadInv md ops m listed →
      (∀ j oj, ops[j]? = some oj → j ≠ i → listed.getD j true = false → (∀ e ∈ oj.after, Region.binds md e = true → e.on ≠ i) → oi.apart ops oj = true) →
      i ∈ Region.ready md ops listed → YieldsIf P ops (fun _ => True) oi v a → (D ≠ [] → S w) →
      anyB P md ops Q S f D (listed.setIfInBounds i true) (a.put oi.dst v) w → anyB P md ops Q S (f + 1) D listed a w := by
  have hnil : ∀ (D : List Nat) (j : Nat), keepD md ops D j ≠ [] → D ≠ [] := fun D j h0 e => h0 (by rw [e]; rfl)
  intro f
  induction f with
  | zero =>
    intro D listed a w inv hfree hr hy hS H
    refine ⟨fun h => (by rw [h] at hr; cases hr), fun j hj => ?_⟩
    by_cases hji : j = i
    · subst hji; exact hy.wpOp hi trivial ⟨fun h0 => hS (hnil _ _ h0), H⟩
    · have := ready_mono hj hji
      rw [H.1] at this; cases this
  | succ f ih =>
    intro D listed a w inv hfree hr hy hS H
    refine ⟨fun h => (by rw [h] at hr; cases hr), fun j hj => ?_⟩
    by_cases hji : j = i
    · subst hji
      exact hy.wpOp hi trivial ⟨fun h0 => hS (hnil _ _ h0), anyB_mono _ _ _ _ (fun d hd => (List.mem_filter.1 hd).1) (fun _ _ h => h) H⟩
    obtain ⟨hjun, oj, hoj, hall⟩ := mem_ready.1 hj
    have hjm : j < m := by
      rcases Nat.lt_or_ge j m with g | g
      · exact g
      · exact absurd hj (tail_waits hs hc hm inv _ i rfl him (mem_ready.1 hr).1 j g)
    have h2 := wpOp_putIf hoj (hfree j oj hoj hji hjun (not_on hr hall)) (fun cs b => hsel i oi cs b hi) (fun cs b => hsel j oj cs b hoj) (fun c a w h => absurd h (hQ c _ w)) hy (H.2 j (ready_mono hj hji))
    refine wpOp_mono (fun a' w' h3 => ?_) h2
    refine ⟨h3.2.1, ih _ _ a' w' (inv.set hj hjm) (fun k ok hk hki hun hno => hfree k ok hk hki ?_ hno) (ready_mono hr (Ne.symm hji)) h3.1 h3.2.1 ?_⟩
    · by_cases hjk : j = k
      · subst hjk; exact hjun
      · rw [getD_set_ne true hjk] at hun; exact hun
    · rw [Array.setIfInBounds_comm _ _ hji]; exact h3.2.2
def ordOp : BinOp → Bool
  | .lss => true
  | .leq => true
  | .gtr => true
  | .geq => true
  | _ => false
def constI : Operand → Bool
  | .const (.int _ _) => true
  | _ => false
/-- A copy of a slot, one of two slots, or an integer held against a constant. -/
def isMv : Op → Bool
  | .move _ => true
  | .pick _ _ _ => true
  | .binOp op _ _ y _ => ordOp op && constI y
  | _ => false
def mvAt (ops : Array Oper) (i : Nat) : Bool := match ops[i]? with | some o => isMv o.op | none => false
/-- The order in which a region's operations are read: taken first (true) or in turn. -/
def ordB (md : Region.Mode) (ops : Array Oper) (m : Nat) : List (Nat × Bool) → List Nat → Array Bool → Bool
  | [], D, listed => (keepD md ops D m).isEmpty && Region.seqB md ops (ops.size - m) m listed
  | (i, true) :: r, D, listed => Nat.blt i m && (Region.ready md ops listed).contains i && Region.free md ops listed i && ordB md ops m r (if mvAt ops i then D else i :: D) (listed.setIfInBounds i true)
  | (i, false) :: r, D, listed => Nat.blt i m && decide (Region.ready md ops listed = [i]) && ordB md ops m r (keepD md ops D i) (listed.setIfInBounds i true)
def ordAll (md : Region.Mode) (ops : Array Oper) (m : Nat) (l : List (Nat × Bool)) : Bool :=
  Region.noSelect ops && Nat.blt m ops.size && Region.sinkB md ops m && Region.chainB md ops m && Nat.beq l.length m && ordB md ops m l [] (Array.replicate ops.size false)
/-- Greedy: what may be taken first is; else what alone may come up. -/
def ordOf (P : Program) (pure : Op → Bool) (md : Region.Mode) (ops : Array Oper) (m : Nat) : Nat → Array Bool → List (Nat × Bool)
  | 0, _ => []
  | f + 1, listed =>
    let rs := (Region.ready md ops listed).filter (fun i => Nat.blt i m)
    match rs.find? (fun i => match ops[i]? with | some o => pure o.op && Region.free md ops listed i | none => false) with
    | some i => (i, true) :: ordOf P pure md ops m f (listed.setIfInBounds i true)
    | none => match rs with
      | i :: _ => (i, false) :: ordOf P pure md ops m f (listed.setIfInBounds i true)
      | [] => []
/-- What yields its value in every world: a copy of a slot, a part of a tuple. -/
def isMv2 : Op → Bool
  | .move _ => true
  | .pick _ _ _ => true
  | .extract _ _ => true
  | .binOp op _ _ y _ => ordOp op && constI y
  | _ => false
theorem ord_pure {P : Program} {op : BinOp} {t : TypeId} {x y : Operand} {vx : Value} {k : IntKind} {n : Int} {v : Next} {w w' : World} (ho : ordOp op = true)
    (h : (do eqGuard op t x y vx (.int k n); let z ← binOp op t vx (.int k n); pure (Next.value z) : Sem Next).run P w = .ok v w) :
    (do eqGuard op t x y vx (.int k n); let z ← binOp op t vx (.int k n); pure (Next.value z) : Sem Next).run P w' = .ok v w' := by
  cases op <;> first | (exfalso; exact absurd ho (by decide)) | skip
  all_goals
    cases vx with
    | int k' m =>
      by_cases hk : k' = k
      · simp [eqGuard, binOp, Op.intCmp, hk] at h ⊢
        exact h
      · simp [eqGuard, binOp, hk] at h
    | pointer a => cases a <;> simp [eqGuard, binOp] at h
    | _ => simp [eqGuard, binOp] at h
theorem isMv2_of {o : Op} (h : isMv o = true) : isMv2 o = true := by cases o <;> simp_all [isMv, isMv2]
def mvAt2 (ops : Array Oper) (i : Nat) : Bool := match ops[i]? with | some o => isMv2 o.op | none => false
/-- An order with forks: where two operations may come up, each has its turn. -/
inductive OT where
  | done
  | first (i : Nat) (r : OT)
  | turn (i : Nat) (r : OT)
  | fork (i j : Nat) (r1 r2 : OT)
  | fork3 (i j l : Nat) (r1 r2 r3 : OT)
def otB (md : Region.Mode) (ops : Array Oper) (m : Nat) : OT → Nat → List Nat → Array Bool → Bool
  | .done, f, D, listed => Nat.beq f 0 && ((keepD md ops D m).isEmpty && Region.seqB md ops (ops.size - m) m listed)
  | .first i r, f, D, listed => Nat.blt 0 f && (Nat.blt i m && (Region.ready md ops listed).contains i && Region.free md ops listed i && otB md ops m r (f - 1) (if mvAt2 ops i then D else i :: D) (listed.setIfInBounds i true))
  | .turn i r, f, D, listed => Nat.blt 0 f && (Nat.blt i m && decide (Region.ready md ops listed = [i]) && otB md ops m r (f - 1) (keepD md ops D i) (listed.setIfInBounds i true))
  | .fork i j r1 r2, f, D, listed => Nat.blt 0 f && (Nat.blt i m && Nat.blt j m && decide (Region.ready md ops listed = [i, j]) && (otB md ops m r1 (f - 1) (keepD md ops D i) (listed.setIfInBounds i true) && otB md ops m r2 (f - 1) (keepD md ops D j) (listed.setIfInBounds j true)))
  | .fork3 i j l r1 r2 r3, f, D, listed => Nat.blt 0 f && (Nat.blt i m && Nat.blt j m && Nat.blt l m && decide (Region.ready md ops listed = [i, j, l]) && (otB md ops m r1 (f - 1) (keepD md ops D i) (listed.setIfInBounds i true) && (otB md ops m r2 (f - 1) (keepD md ops D j) (listed.setIfInBounds j true) && otB md ops m r3 (f - 1) (keepD md ops D l) (listed.setIfInBounds l true))))
def otAll (md : Region.Mode) (ops : Array Oper) (m : Nat) (l : OT) : Bool :=
  Region.noSelect ops && Nat.blt m ops.size && Region.sinkB md ops m && Region.chainB md ops m && otB md ops m l m [] (Array.replicate ops.size false)
def otOf (P : Program) (pure : Op → Bool) (md : Region.Mode) (ops : Array Oper) (m : Nat) : Nat → Array Bool → OT
  | 0, _ => .done
  | f + 1, listed =>
    let rs := (Region.ready md ops listed).filter (fun i => Nat.blt i m)
    match rs.find? (fun i => match ops[i]? with | some o => pure o.op && Region.free md ops listed i | none => false) with
    | some i => .first i (otOf P pure md ops m f (listed.setIfInBounds i true))
    | none => match rs with
      | [] => .done
      | [i] => .turn i (otOf P pure md ops m f (listed.setIfInBounds i true))
      | [i, j] => .fork i j (otOf P pure md ops m f (listed.setIfInBounds i true)) (otOf P pure md ops m f (listed.setIfInBounds j true))
      | i :: j :: l :: _ => .fork3 i j l (otOf P pure md ops m f (listed.setIfInBounds i true)) (otOf P pure md ops m f (listed.setIfInBounds j true)) (otOf P pure md ops m f (listed.setIfInBounds l true))
/-- What yields its value in every world, by the program's types. -/
def isMvP (P : Program) (o : Op) : Bool := isMv2 o || match o with
  | .fieldAddr t _ f => (match P.underlying t with
    | some (.struct fs) => (match fs[f]? with
      | some fd => (match P.info? fd.type with
        | some i => !Nat.beq i.size 0
        | none => false)
      | none => false)
    | _ => false)
  | .call c => (match c.callee, c.argTypes.toList with
    | .builtin .len, [t] => (match P.underlying t with | some (.slice _) => true | _ => false)
    | _, _ => false)
  | _ => false
def mvAtP (P : Program) (ops : Array Oper) (i : Nat) : Bool := match ops[i]? with | some o => isMvP P o.op | none => false
/-- An order with forks to a region's end. -/
def otF (P : Program) (md : Region.Mode) (ops : Array Oper) : OT → Nat → Array Bool → Bool
  | .done, f, listed => Nat.beq f 0 && decide (Region.ready md ops listed = [])
  | .first i r, f, listed => Nat.blt 0 f && ((Region.ready md ops listed).contains i && Region.free md ops listed i && mvAtP P ops i && otF P md ops r (f - 1) (listed.setIfInBounds i true))
  | .turn i r, f, listed => Nat.blt 0 f && (decide (Region.ready md ops listed = [i]) && otF P md ops r (f - 1) (listed.setIfInBounds i true))
  | .fork i j r1 r2, f, listed => Nat.blt 0 f && (decide (Region.ready md ops listed = [i, j]) && (otF P md ops r1 (f - 1) (listed.setIfInBounds i true) && otF P md ops r2 (f - 1) (listed.setIfInBounds j true)))
  | .fork3 i j l r1 r2 r3, f, listed => Nat.blt 0 f && (decide (Region.ready md ops listed = [i, j, l]) && (otF P md ops r1 (f - 1) (listed.setIfInBounds i true) && (otF P md ops r2 (f - 1) (listed.setIfInBounds j true) && otF P md ops r3 (f - 1) (listed.setIfInBounds l true))))
def otFull (P : Program) (md : Region.Mode) (ops : Array Oper) (l : OT) : Bool := Region.noSelect ops && otF P md ops l ops.size (Array.replicate ops.size false)
/-- It may be taken first: it yields its value in every world. -/
theorem anyB_moveF {i : Nat} {oi : Oper} {v : Value} (hi : ops[i]? = some oi) (hsel : ∀ (j : Nat) (o : Oper) cs b, ops[j]? = some o → o.op ≠ .select cs b) (hQ : ∀ c a w, ¬ Q (.panic c) a w) :
    ∀ (f : Nat) (D : List Nat) (listed : Array Bool) (a : Act) (w : World), HeadInv md ops ops.size listed →
      (∀ j oj, ops[j]? = some oj → j ≠ i → listed.getD j true = false → (∀ e ∈ oj.after, Region.binds md e = true → e.on ≠ i) → oi.apart ops oj = true) →
      i ∈ Region.ready md ops listed → YieldsIf P ops (fun _ => True) oi v a → (D ≠ [] → S w) →
      anyB P md ops Q S f D (listed.setIfInBounds i true) (a.put oi.dst v) w → anyB P md ops Q S (f + 1) D listed a w := by
  have hnil : ∀ (D : List Nat) (j : Nat), keepD md ops D j ≠ [] → D ≠ [] := fun D j h0 e => h0 (by rw [e]; rfl)
  intro f
  induction f with
  | zero =>
    intro D listed a w inv hfree hr hy hS H
    refine ⟨fun h => (by rw [h] at hr; cases hr), fun j hj => ?_⟩
    by_cases hji : j = i
    · subst hji; exact hy.wpOp hi trivial ⟨fun h0 => hS (hnil _ _ h0), H⟩
    · have := ready_mono hj hji
      rw [H.1] at this; cases this
  | succ f ih =>
    intro D listed a w inv hfree hr hy hS H
    refine ⟨fun h => (by rw [h] at hr; cases hr), fun j hj => ?_⟩
    by_cases hji : j = i
    · subst hji
      exact hy.wpOp hi trivial ⟨fun h0 => hS (hnil _ _ h0), anyB_mono _ _ _ _ (fun d hd => (List.mem_filter.1 hd).1) (fun _ _ h => h) H⟩
    obtain ⟨hjun, oj, hoj, hall⟩ := mem_ready.1 hj
    have hjm : j < ops.size := (Array.getElem?_eq_some_iff.1 hoj).1
    have h2 := wpOp_putIf hoj (hfree j oj hoj hji hjun (not_on hr hall)) (fun cs b => hsel i oi cs b hi) (fun cs b => hsel j oj cs b hoj) (fun c a w h => absurd h (hQ c _ w)) hy (H.2 j (ready_mono hj hji))
    refine wpOp_mono (fun a' w' h3 => ?_) h2
    refine ⟨h3.2.1, ih _ _ a' w' (inv.set hj hjm) (fun k ok hk hki hun hno => hfree k ok hk hki ?_ hno) (ready_mono hr (Ne.symm hji)) h3.1 h3.2.1 ?_⟩
    · by_cases hjk : j = k
      · subst hjk; exact hjun
      · rw [getD_set_ne true hjk] at hun; exact hun
    · rw [Array.setIfInBounds_comm _ _ hji]; exact h3.2.2
end
end Go.Proofs.YtkpnomdmnhhaoaaGreatDoor.Rx
