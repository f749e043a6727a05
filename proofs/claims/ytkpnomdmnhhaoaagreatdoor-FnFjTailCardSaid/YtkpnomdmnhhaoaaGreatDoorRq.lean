/- A region that draws its order: a head in any order, and behind it a tail in which each operation waits for all that stands ahead of it. No statement of the set is proved here. -/
import Derived.StillTail
import Derived.Deep.Quiet
namespace Go.Proofs.YtkpnomdmnhhaoaaGreatDoor.Rx
open Go

section
variable {P : Program} {ops : Array Oper} {md : Region.Mode} {C : World → Prop}

/-- Nothing of the head waits for what stands behind it, and its guards lie in it. -/
def headB (md : Region.Mode) (ops : Array Oper) (n : Nat) : Bool :=
  (List.range n).all fun i => match ops[i]? with
    | none => false
    | some o => (o.after.all fun e => !Region.binds md e || Nat.blt e.on i) && (match o.guard with | none => true | some (j, _) => Nat.blt j n)
def headOf (ops : Array Oper) (n : Nat) : Array Oper := (ops.toList.take n).toArray
def doneOf (ops : Array Oper) (n : Nat) : Array Bool := Array.replicate n true ++ Array.replicate (ops.size - n) false
def tailB (md : Region.Mode) (ops : Array Oper) (n : Nat) : Bool :=
  Nat.blt 0 n && Nat.blt n ops.size && Region.sinkB md ops n && Region.chainB md ops n && headB md ops n && Region.lexB md (headOf ops n) && Region.seqB md ops (ops.size - n) n (doneOf ops n)

theorem headOf_get {n i : Nat} (h : i < n) : (headOf ops n)[i]? = ops[i]? := by
  simp [headOf, h]
theorem headOf_size {n : Nat} (h : n < ops.size) : (headOf ops n).size = n := by
  simp [headOf]; omega
theorem headB_spec {n i : Nat} (h : headB md ops n = true) (hi : i < n) : ∃ o, ops[i]? = some o ∧ (∀ e ∈ o.after, Region.binds md e = true → e.on < i) ∧ (∀ j b, o.guard = some (j, b) → j < n) := by
  have h1 := List.all_eq_true.1 h i (List.mem_range.2 hi)
  cases ho : ops[i]? with
  | none => simp only [ho] at h1; cases h1
  | some o =>
    simp only [ho, Bool.and_eq_true] at h1
    refine ⟨o, rfl, fun e he hb => ?_, fun j b hg => ?_⟩
    · have := Array.all_eq_true_iff_forall_mem.1 h1.1 e he
      simp only [hb, Bool.not_true, Bool.false_or] at this
      simpa using this
    · have := h1.2
      simp only [hg] at this
      simpa using this
/-- More fuel does no harm. -/
theorem any_more {Q : Exit → Act → World → Prop} : ∀ (f : Nat) (listed : Array Bool) (a : Act) (w : World), wpAny P md ops Q f listed a w → wpAny P md ops Q (f + 1) listed a w
  | 0, _, _, _, h => ⟨fun _ => h.2, fun i hi => by rw [h.1] at hi; cases hi⟩
  | f + 1, _, _, _, h => ⟨h.1, fun i hi => wpOp_mono (fun a w => any_more f _ a w) (h.2 i hi)⟩
theorem any_plus {Q : Exit → Act → World → Prop} {g : Nat} : ∀ (f : Nat) (listed : Array Bool) (a : Act) (w : World), wpAny P md ops Q g listed a w → wpAny P md ops Q (f + g) listed a w
  | 0, _, _, _, h => by rw [Nat.zero_add]; exact h
  | f + 1, listed, a, w, h => by
    rw [show f + 1 + g = (f + g) + 1 by omega]
    exact any_more _ _ _ _ (any_plus f listed a w h)
/-- What is listed of the head, as the head sees it. -/
structure Alike (ops : Array Oper) (n : Nat) (listed listed' : Array Bool) : Prop where
  size : listed.size = ops.size
  size' : listed'.size = n
  same : ∀ i, i < n → listed'[i]? = listed[i]?
theorem Alike.getD {n i : Nat} {listed listed' : Array Bool} (h : Alike ops n listed listed') (hi : i < n) (d : Bool) : listed'.getD i d = listed.getD i d := by
  simp only [Array.getD_eq_getD_getElem?, h.same i hi]
theorem Alike.set {n i : Nat} {listed listed' : Array Bool} (h : Alike ops n listed listed') : Alike ops n (listed.setIfInBounds i true) (listed'.setIfInBounds i true) := by
  refine ⟨by simp [h.size], by simp [h.size'], fun j hj => ?_⟩
  simp only [Array.getElem?_setIfInBounds]
  by_cases e : i = j
  · subst e
    have h1 := h.same i hj
    have h2 := h.size'
    have h3 : i < listed'.size := by omega
    have h4 : i < listed.size := by
      rcases Nat.lt_or_ge i listed.size with g | g
      · exact g
      · rw [Array.getElem?_eq_none g, Array.getElem?_eq_getElem h3] at h1; cases h1
    simp [h3, h4]
  · simp [e, h.same j hj]
/-- Whatever of the head is not listed: some of it may come up. -/
theorem head_some {n : Nat} {listed' : Array Bool} (hb : headB md ops n = true) (hs : listed'.size = n) (h : Region.ready md (headOf ops n) listed' = []) : ∀ i, i < n → listed'.getD i true = true := by
  intro i
  induction i using Nat.strongRecOn with
  | _ i ih =>
    intro hi
    cases hl : listed'.getD i true with
    | true => rfl
    | false =>
      exfalso
      obtain ⟨o, ho, ha, _⟩ := headB_spec hb hi
      have : i ∈ Region.ready md (headOf ops n) listed' := mem_ready.2 ⟨hl, o, by rw [headOf_get hi]; exact ho, fun e he hb => by
        have h1 := ih e.on (ha e he hb) (by have := ha e he hb; omega)
        have h2 : e.on < listed'.size := by have := ha e he hb; omega
        simp [h2] at h1 ⊢
        exact h1⟩
      rw [h] at this; cases this
theorem qOp_head {n i : Nat} {a : Act} {K : Act → Prop} (hb : headB md ops n = true) (hi : i < n) (h : qOp P (headOf ops n) C i K a) : qOp P ops C i K a := by
  obtain ⟨o, ho, _, hg⟩ := headB_spec hb hi
  unfold qOp at h ⊢
  rw [headOf_get hi] at h
  simp only [ho] at h ⊢
  have e : Region.wanted o (yielded (headOf ops n) a.tmps) = Region.wanted o (yielded ops a.tmps) := by
    cases hgd : o.guard with
    | none => simp [Region.wanted, hgd]
    | some jw =>
      obtain ⟨j, b⟩ := jw
      have hj := hg j b hgd
      have e : yielded (headOf ops n) a.tmps j = yielded ops a.tmps j := by unfold yielded; rw [headOf_get hj]
      simp only [Region.wanted, hgd, e]
  rw [e] at h
  exact h
theorem any_of_head {n g : Nat} {Lq : Act → Prop} {Q : Exit → Act → World → Prop} (hs : Region.sinkB md ops n = true) (hc : Region.chainB md ops n = true) (hn : n < ops.size) (hb : headB md ops n = true)
    (hL : ∀ a w, C w → Lq a → wpAny P md ops Q g (doneOf ops n) a w) :
    ∀ (f : Nat) (listed listed' : Array Bool) (a : Act) (w : World), C w → HeadInv md ops n listed → Alike ops n listed listed' → wpAnyQ P md (headOf ops n) C Lq f listed' a → wpAny P md ops Q (f + g) listed a w := by
  have fin : ∀ (listed listed' : Array Bool), HeadInv md ops n listed → Alike ops n listed listed' → Region.ready md (headOf ops n) listed' = [] → listed = doneOf ops n := by
    intro listed listed' inv al h
    have h1 := head_some hb al.size' h
    apply Array.ext
    · simp [doneOf, al.size]; omega
    · intro i hi hi'
      by_cases hin : i < n
      · have h2 := h1 i hin
        rw [al.getD hin] at h2
        simp [hi] at h2
        simp [doneOf, hin, h2]
      · have h2 := inv.tail i (by omega) (by rw [← al.size]; exact hi)
        simp [hi] at h2
        rw [h2]
        simp [doneOf, Array.getElem_append, hin]
  intro f
  induction f with
  | zero =>
    intro listed listed' a w hw inv al h
    obtain ⟨h1, h2⟩ := h
    rw [fin listed listed' inv al h1, Nat.zero_add]
    exact hL a w hw h2
  | succ f ih =>
    intro listed listed' a w hw inv al h
    by_cases hr : Region.ready md (headOf ops n) listed' = []
    · rw [fin listed listed' inv al hr]
      exact any_plus _ _ _ _ (hL a w hw (h.1 hr))
    · obtain ⟨i0, hi0⟩ := List.exists_mem_of_ne_nil _ hr
      obtain ⟨hu0, o0, ho0, ha0⟩ := mem_ready.1 hi0
      have hlt0 : i0 < n := by
        have := (Array.getElem?_eq_some_iff.1 ho0).1
        rw [headOf_size hn] at this; exact this
      have back : ∀ i, i < n → (i ∈ Region.ready md ops listed ↔ i ∈ Region.ready md (headOf ops n) listed') := by
        intro i hi
        obtain ⟨o, ho, ha, _⟩ := headB_spec hb hi
        rw [mem_ready, mem_ready, headOf_get hi, al.getD hi]
        constructor
        · rintro ⟨h1, o', ho', h2⟩
          rw [ho] at ho'; cases ho'
          exact ⟨h1, o, ho, fun e he hb => by rw [al.getD (by have := ha e he hb; omega)]; exact h2 e he hb⟩
        · rintro ⟨h1, o', ho', h2⟩
          rw [ho] at ho'; cases ho'
          exact ⟨h1, o, ho, fun e he hb => by rw [← al.getD (by have := ha e he hb; omega)]; exact h2 e he hb⟩
      have hu : listed.getD i0 true = false := by rw [← al.getD hlt0]; exact hu0
      have hready : i0 ∈ Region.ready md ops listed := (back i0 hlt0).2 hi0
      rw [show f + 1 + g = (f + g) + 1 by omega]
      refine ⟨fun h0 => (by rw [h0] at hready; cases hready), fun i hi => ?_⟩
      have hin : i < n := by
        rcases Nat.lt_or_ge i n with g | g
        · exact g
        · exact absurd hi (tail_waits hs hc hn inv _ i0 rfl hlt0 hu i g)
      have h2 := qOp_head hb hin (h.2 i ((back i hin).1 hi))
      exact wpOp_of_qOp (C := C) hw (fun a' w' hw' h3 => ih _ _ a' w' hw' (inv.set hi hin) al.set h3) h2
/-- A HEAD THAT IS QUIET, A TAIL THAT GOES IN TURN. -/
theorem wp_region_quiet_tail {id : Nat} {Q : Exit → Act → World → Prop} {a : Act} {w : World} (n : Nat) (hm : P.follows .mixedOrders = true) (hB : tailB .any ops n = true) (hC : C { w with drawn := w.drawn + 1 })
    (h : wpQuiet P (headOf ops n) C (fun a' => ∀ w', C w' → wpList P ops Q (ops.toList.drop n) a' w') (headOf ops n).toList a) : (Code.region id ops true).wp P Q a w := by
  simp only [tailB, Bool.and_eq_true] at hB
  obtain ⟨⟨⟨⟨⟨⟨h0, hn⟩, hs⟩, hc⟩, hb⟩, hlex⟩, hseq⟩ := hB
  have hn' : n < ops.size := by simpa using hn
  simp only [Region.lexB, Bool.and_eq_true] at hlex
  have H := wpAnyQ_lex (C := C) (md := .any) hlex.1 (headOf ops n).toList 0 (Array.replicate (headOf ops n).size false) a (by simp) (by simpa using hlex.2) h
  refine wp_region_any hm ?_
  have hz : (headOf ops n).toList.length = n := by simpa using headOf_size hn'
  have hd : (ops.toList.drop n).length = ops.size - n := by simp
  have := any_of_head (P := P) (md := .any) (C := C) (g := ops.size - n) (Q := Q) hs hc hn' hb (fun a' w' hw' hL => by
    have := wpAny_of_seq (P := P) (md := .any) (Q' := Q) (ops.toList.drop n) n (doneOf ops n) a' w' (fun j => by simp [List.getElem?_drop]) (by rw [hd]; exact hseq) (hL w' hw')
    rwa [hd] at this) _ (Array.replicate ops.size false) _ a _ hC
    ⟨by simp, fun j oj _ hl => (by rw [getD_replicate_false] at hl; cases hl), fun t _ ht => getD_in (by simpa using ht) (getD_replicate_false _ _)⟩
    ⟨by simp, by rw [Array.size_replicate]; exact headOf_size hn', fun i hi => by
      rw [headOf_size hn']
      simp only [Array.getElem?_replicate]
      rw [if_pos hi, if_pos (by omega)]⟩ H
  rw [hz, show n + (ops.size - n) = ops.size by omega] at this
  exact this
end
end Go.Proofs.YtkpnomdmnhhaoaaGreatDoor.Rx
