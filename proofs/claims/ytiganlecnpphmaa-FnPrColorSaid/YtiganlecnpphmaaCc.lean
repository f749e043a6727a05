/- pretty.Color: the walk of its steps. No statement of the set is proved here. -/
import Derived.Test.YtiganlecnpphmaaCw
namespace Go.Proofs.Ytiganlecnpphmaa.Cc
open Go Go.Proofs Go.RowKit Go.Proofs.Ytiganlecnpphmaa.Rx Go.Proofs.Ytiganlecnpphmaa.Tr Go.Proofs.Ytiganlecnpphmaa.Pl Go.Proofs.Ytiganlecnpphmaa.Pw Go.Proofs.Ytiganlecnpphmaa.Bw Go.Proofs.Ytiganlecnpphmaa.Co
open Go.Proofs.Ytiganlecnpphmaa.Sr (slV tBs tB Sl)
open Go.Proofs.Ytiganlecnpphmaa.Cw (Sy mb)

abbrev tK : TypeId := 52
abbrev tKs : TypeId := 50
def kc (b : Bool) : Int := if b then 123 else 91
def stC (p : Bool × Bool) : List Value := [.int .u8 (kc p.1), .bool p.2]
def cells (stk : St) : List Value := stk.reverse.flatMap stC
theorem cells_len (stk : St) : (cells stk).length = stk.length * 2 := by
  have : ∀ l : St, (l.flatMap stC).length = l.length * 2 := fun l => by
    induction l with
    | nil => rfl
    | cons p l ih => rw [List.flatMap_cons, List.length_append, ih, List.length_cons]; show 2 + _ = _; omega
  unfold cells
  rw [this, List.length_reverse]
theorem cells_cons (p : Bool × Bool) (r : St) : cells (p :: r) = cells r ++ stC p := by
  unfold cells; rw [List.reverse_cons, List.flatMap_append, List.flatMap_cons, List.flatMap_nil, List.append_nil]
/-- The stack's row. -/
def SR (w : World) (N : Nat) (y : Sl) (stk : St) : Prop := w.ownsRow N tK 2 (slV y) stk.length (cells stk)
theorem SR.nil (w : World) (N : Nat) : SR w N (none, 0, 0) [] := World.ownsRow_nil w N tK 2
theorem SR.len {w : World} {N : Nat} {y : Sl} {stk : St} (h : SR w N y stk) : y.2.1 = stk.length := by
  obtain ⟨_, ⟨h1, h2⟩ | ⟨g, cap, cur, h1, _⟩⟩ := h
  · obtain ⟨a, b, c⟩ := y
    simp only [slV, Value.slice.injEq] at h1
    rw [h2]; exact h1.2.1
  · obtain ⟨a, b, c⟩ := y
    simp only [slV, Value.slice.injEq] at h1
    exact h1.2.1
theorem SR.kp {S : Nat → Prop} {w w' : World} {N : Nat} {y : Sl} {stk : St} (h : SR w N y stk) (k : Kp S w w') (hn : ∀ b, Own y b → ¬ S b) : SR w' N y stk := owns_kp h k hn
theorem SR.block {w : World} {N : Nat} {y : Sl} {stk : St} (h : SR w N y stk) : ∀ b, Own y b → N ≤ b ∧ b < w.heap.size := fun b hb => World.ownsRow.lt h b hb.symm
theorem SR.top {w : World} {N : Nat} {y : Sl} {p : Bool × Bool} {r : St} (h : SR w N y (p :: r)) : ∃ g, y = (some ⟨g, 0, none⟩, r.length + 1, y.2.2) ∧ Own y g ∧ r.length + 1 ≤ y.2.2 ∧ w.cell? ⟨g, r.length * 2, none⟩ = some (.int .u8 (kc p.1)) ∧ w.cell? ⟨g, r.length * 2 + 1, none⟩ = some (.bool p.2) ∧
    w.frozen? ⟨g, r.length * 2 + 1, none⟩ = false ∧ (∀ v, SR (w.setCell ⟨g, r.length * 2 + 1, none⟩ (.bool v)) N y ((p.1, v) :: r)) ∧ SR w N (some ⟨g, 0, none⟩, r.length, y.2.2) r := by
  obtain ⟨h1, ⟨_, h2⟩ | ⟨g, cap, cur, h2, hb, hg, hnc, hm, hs, ht⟩⟩ := h
  · simp at h2
  obtain ⟨a, l, c⟩ := y
  simp only [slV, Value.slice.injEq] at h2
  obtain ⟨rfl, rfl, rfl⟩ := h2
  have hl := cells_len r
  have hlc : (p :: r).length = r.length + 1 := rfl
  rw [hlc] at ht hnc h1
  rw [cells_cons] at ht h1
  have hc : ∀ j, j < (r.length + 1) * 2 → w.cell? ⟨g, j, none⟩ = (cells r ++ stC p)[j]? := fun j hj => by
    simp only [World.cell?, hg]
    rw [← ht, List.getElem?_take_of_lt hj]
    simp
  refine ⟨g, rfl, rfl, hnc, ?_, ?_, by simp [World.frozen?, hg], fun v => ⟨?_, .inr ⟨g, c, cur.setIfInBounds (r.length * 2 + 1) (.bool v), rfl, hb, ?_, ?_, hm, ?_, ?_⟩⟩, ⟨by rw [hl], .inr ⟨g, c, cur, rfl, hb, hg, by omega, hm, hs, ?_⟩⟩⟩
  · rw [hc _ (by omega), List.getElem?_append_right (by omega), hl, Nat.sub_self]; rfl
  · rw [hc _ (by omega), List.getElem?_append_right (by omega), hl, Nat.add_sub_cancel_left]; rfl
  · rw [cells_len]
  · simp [World.setCell, Array.getElem?_modify, hg]
  · exact hnc
  · simpa using hs
  · show ((cur.setIfInBounds (r.length * 2 + 1) (.bool v)).toList.take ((r.length + 1) * 2)) = cells ((p.1, v) :: r)
    rw [cells_cons, Array.toList_setIfInBounds, List.take_set, ht, List.set_append_right _ _ (by omega), hl, Nat.add_sub_cancel_left]; rfl
  · have e : cur.toList.take (r.length * 2) = (cur.toList.take ((r.length + 1) * 2)).take (r.length * 2) := by rw [List.take_take]; congr 1; omega
    rw [e, ht, ← hl, List.take_left]
/-- The state of the walk. -/
structure SS (w0 : World) (w : World) (x : Sl) (D : List UInt8) (y : Sl) (stk : St) : Prop where
  kp : Kp Off w0 w
  row : BR w w0.heap.size x D
  stack : SR w w0.heap.size y stk
  disj : ∀ q, Own x q → ¬ Own y q
variable {w0 w w1 : World} {x x1 y : Sl} {D D1 : List UInt8} {stk : St} {s : ByteArray} {st : Sy} {r h : Nat}
theorem SS.app (H : SS w0 w x D y stk) (hB : BR w1 w0.heap.size x1 D1) (k : Kp (Own x) w w1) (ho : ∀ q, Own x1 q → Own x q ∨ w.heap.size ≤ q) : SS w0 w1 x1 D1 y stk :=
  ⟨H.kp.then k fun i hi c => by have := (H.row.block i c).1; omega, hB, H.stack.kp k fun b hb c => H.disj b c hb, fun q hq hy => by
    rcases ho q hq with d | d
    · exact H.disj q d hy
    · have := (H.stack.block q hy).2; omega⟩
theorem SS.drew (H : SS w0 w x D y stk) : SS w0 w.drew x D y stk :=
  ⟨H.kp.drew, H.row.kp (Kp.refl Off w).drew fun _ _ => id, H.stack.kp (Kp.refl Off w).drew fun _ _ => id, H.disj⟩
/-- What is read: the text, the marks. -/
structure In (w0 : World) (s : ByteArray) (st : Sy) (r h : Nat) : Prop where
  text : Byts w0 ⟨r, 0, none⟩ s
  tlt : 0 < s.size → r < w0.heap.size
  mark : ∀ j, j < 16 → w0.cell? ⟨h, j, none⟩ = some (.string (st j))
  mlt : h < w0.heap.size
theorem SS.byte (H : SS w0 w x D y stk) (I : In w0 s st r h) {i : Nat} (hi : i < s.size) : w.cell? ⟨r, i, none⟩ = some (.int .u8 (bt s (i : Int))) := by
  rw [H.kp.cell (a := ⟨r, i, none⟩) (I.tlt (by omega)) id]
  have := I.text.2 i hi
  rwa [Nat.zero_add] at this
theorem SS.sty (H : SS w0 w x D y stk) (I : In w0 s st r h) {j : Nat} (hj : j < 16) : w.cell? ⟨h, j, none⟩ = some (.string (st j)) := by
  rw [H.kp.cell (a := ⟨h, j, none⟩) I.mlt id]; exact I.mark j hj
/-- A byte of the text is read. -/
theorem s_byte {Q : Nat → List Value → World → Prop} {K : (Sh.int .u8).Ty → T} {n : Nat} (H : SS w0 w x D y stk) (I : In w0 s st r h) {i : Nat} (hi : i < s.size) (hn : n = s.size) (hK : sat Try.prog (K (bt s (i : Int))) Q w) :
    sat Try.prog (.chk (((0 : Int) ≤ (i : Int)) ∧ ((i : Int) < ((n : Nat) : Int))) <| .ptr (some ⟨r, 0, none⟩) fun z => .load (Addr.add z ((Int.toNat (i : Int)) * 1)) (.int .u8) K) Q w := by
  subst hn
  refine s_chk (by omega) (s_ptr ?_)
  rw [addr_add, Int.toNat_natCast, Nat.mul_one, Nat.zero_add]
  exact s_load (bt s (i : Int)) (H.byte I hi) hK
/-- A mark is written. -/
theorem s_mark {Q : Nat → List Value → World → Prop} {K : Sh.slice.Ty → T} {p : Prop} {ats : Array TypeId} {o c : Nat} (j : Nat) (H : SS w0 w x D y stk) (I : In w0 s st r h) (hm : ∀ k, (st k).size ≤ 64) (hD : D.length ≤ 100000000) (hp : p) (ho : o + c = j) (hj : j < 16) (ha : ats = #[tBs, 9])
    (hK : ∀ (x' : Sl) (w' : World), SS w0 w' x' (D ++ mb st j) y stk → sat Try.prog (K x') Q w') :
    sat Try.prog (.ptr (some ⟨h, 0, none⟩) fun z => .chk p <| .load (Addr.add (Addr.add z o) c) .str fun u => .eff (Builtin.append_ ats tBs #[(Value.slice (x).1 ((x).2).1 ((x).2).2), (Value.string u)]) .slice K) Q w := by
  refine s_ptr (s_chk hp ?_)
  rw [addr_add, addr_add, Nat.zero_add, ho]
  refine s_load (st j) (H.sty I hj) ?_
  exact s_putS H.row H.kp.size (by have := hm j; omega) ha fun x' w' hB k o => hK x' w' (H.app hB k o)
theorem apnd_any {b : UInt8} {c : Int} (H : SS w0 w x D y stk) (hc : c = (b.toNat : Int)) (hD : D.length ≤ 100000000) :
    Calls Try.prog 16 #[.slice x.1 x.2.1 x.2.2, .int .u8 c] w fun e w' => ∃ x' : Sl, e = .returned (slV x') ∧ SS w0 w' x' (D ++ [b]) y stk := by
  subst hc
  refine pretty_Color_1.calls _ _ _ _ ?_
  unfold pretty_Color_1.t
  exact s_put H.row [b] H.kp.size (by simp; omega) rfl rfl rfl (by simp) (by simp) fun x' w' hB k o => s_leaf ⟨rfl, x', rfl, H.app hB k o⟩
def vA : Value := .func (.func 16) #[] #[]
/-- A byte is written, by the closure. -/
theorem s_apnd {Q : Nat → List Value → World → Prop} {K : Sh.slice.Ty → T} {c : Int} (b : UInt8) (H : SS w0 w x D y stk) (hc : c = (b.toNat : Int)) (hD : D.length ≤ 100000000)
    (hK : ∀ (x' : Sl) (w' : World), SS w0 w' x' (D ++ [b]) y stk → sat Try.prog (K x') Q w') :
    sat Try.prog (.callD vA #[(Value.slice (x).1 ((x).2).1 ((x).2).2), (Value.int IntKind.u8 c)] .slice K) Q w := by
  refine ⟨16, #[], #[], rfl, by kernel_rfl, ?_⟩
  have e : (#[] ++ #[(Value.slice (x).1 ((x).2).1 ((x).2).2), (Value.int IntKind.u8 c)] ++ #[] : Array Value) = #[(Value.slice (x).1 ((x).2).1 ((x).2).2), (Value.int IntKind.u8 c)] := by simp
  rw [e]
  refine Calls.mono (apnd_any H hc hD) ?_
  rintro en w' ⟨x', rfl, H'⟩
  exact ⟨x', rfl, hK x' w' H'⟩
theorem bt_gb (s : ByteArray) (i : Nat) : bt s (i : Int) = ((gb s i).toNat : Int) := by unfold bt gb; rw [Int.toNat_natCast]
end Go.Proofs.Ytiganlecnpphmaa.Cc
