/- Places of a JSON text in memory. No statement of the set is proved here. -/
import Derived.Test.YtiganlecnpphmaaAp
import Derived.Test.YtiganlecnpphmaaPj
namespace Go.Proofs.Ytiganlecnpphmaa.Sr
open Go Go.Proofs.Ytiganlecnpphmaa.Rx Go.Proofs.Ytiganlecnpphmaa.Pl

abbrev Sl := Option Addr × Nat × Nat
def slV (x : Sl) : Value := .slice x.1 x.2.1 x.2.2
/-- A place's cells. -/
def pc (k b e : Int) (ns ks : Sl) : List Value := [.int .i64 k, .int .i64 b, .int .i64 e, .slice ns.1 ns.2.1 ns.2.2, .slice ks.1 ks.2.1 ks.2.2]
theorem pc_len (k b e : Int) (ns ks : Sl) : (pc k b e ns ks).length = 5 := rfl
theorem pc_one (k b e : Int) (ns ks : Sl) : (pc k b e ns ks).all one = true := rfl
theorem pc_oneC (k b e : Int) (ns ks : Sl) : ∀ u ∈ pc k b e ns ks, u.oneCell' = true := by
  intro u hu
  simp [pc] at hu
  rcases hu with rfl | rfl | rfl | rfl | rfl <;> rfl
def spanC (x : Nat × Nat) : List Value := [.int .i64 x.1, .int .i64 x.2]
/-- A slice's elements' cells, in a block of its own. -/
def RowIn (B : Nat → Prop) (w : World) (a : Sl) (n : Nat) (xs : List Value) (size : Nat) : Prop :=
  a.2.1 = n ∧ xs.length = n * size ∧ (n = 0 ∨ ∃ g, a.1 = some ⟨g, 0, none⟩ ∧ B g ∧ g < w.heap.size ∧ ∀ j u, xs[j]? = some u → w.cell? ⟨g, j, none⟩ = some u)
mutual
/-- A place's cells in memory, its rows in blocks of 'B'. -/
def PlAt (B : Nat → Prop) (w : World) : PT → List Value → Prop
  | .mk k b e ns ks, cs => ∃ (na ka : Sl) (xs : List Value), cs = pc k b e na ka ∧ RowIn B w na ns.length (ns.flatMap spanC) 2 ∧ RowIn B w ka ks.length xs 5 ∧ AllAt B w ks xs
def AllAt (B : Nat → Prop) (w : World) : List PT → List Value → Prop
  | [], xs => xs = []
  | p :: ks, xs => ∃ cs ys, xs = cs ++ ys ∧ PlAt B w p cs ∧ AllAt B w ks ys
end
variable {B B' : Nat → Prop} {w w' : World}
theorem RowIn.mv {a : Sl} {n : Nat} {xs : List Value} {size : Nat} (hz : w.heap.size ≤ w'.heap.size) (hb : ∀ b, b < w.heap.size → B b → B' b ∧ w'.heap[b]? = w.heap[b]?) (h : RowIn B w a n xs size) : RowIn B' w' a n xs size := by
  obtain ⟨h1, h2, h3 | ⟨g, h3, h4, hg, h5⟩⟩ := h
  · exact ⟨h1, h2, .inl h3⟩
  · exact ⟨h1, h2, .inr ⟨g, h3, (hb g hg h4).1, by omega, fun j u hj => (World.cell?_of_block (a := ⟨g, j, none⟩) (hb g hg h4).2).trans (h5 j u hj)⟩⟩
mutual
theorem PlAt.mv (hz : w.heap.size ≤ w'.heap.size) (hb : ∀ b, b < w.heap.size → B b → B' b ∧ w'.heap[b]? = w.heap[b]?) : ∀ (p : PT) (cs : List Value), PlAt B w p cs → PlAt B' w' p cs
  | .mk k b e ns ks, cs, h => by
    unfold PlAt at h ⊢
    obtain ⟨na, ka, xs, h1, h2, h3, h4⟩ := h
    exact ⟨na, ka, xs, h1, h2.mv hz hb, h3.mv hz hb, AllAt.mv hz hb ks xs h4⟩
theorem AllAt.mv (hz : w.heap.size ≤ w'.heap.size) (hb : ∀ b, b < w.heap.size → B b → B' b ∧ w'.heap[b]? = w.heap[b]?) : ∀ (ks : List PT) (xs : List Value), AllAt B w ks xs → AllAt B' w' ks xs
  | [], xs, h => by unfold AllAt at h ⊢; exact h
  | p :: ks, xs, h => by
    unfold AllAt at h ⊢
    obtain ⟨cs, ys, h1, h2, h3⟩ := h
    exact ⟨cs, ys, h1, PlAt.mv hz hb p cs h2, AllAt.mv hz hb ks ys h3⟩
end
theorem PlAt.kp {S : Nat → Prop} (k : Kp S w w') (hb : ∀ b, b < w.heap.size → B b → B' b ∧ ¬ S b) {p : PT} {cs : List Value} (h : PlAt B w p cs) : PlAt B' w' p cs :=
  PlAt.mv k.size (fun b hlt hB => ⟨(hb b hlt hB).1, k.block b hlt (hb b hlt hB).2⟩) p cs h
theorem AllAt.kp {S : Nat → Prop} (k : Kp S w w') (hb : ∀ b, b < w.heap.size → B b → B' b ∧ ¬ S b) {ks : List PT} {xs : List Value} (h : AllAt B w ks xs) : AllAt B' w' ks xs :=
  AllAt.mv k.size (fun b hlt hB => ⟨(hb b hlt hB).1, k.block b hlt (hb b hlt hB).2⟩) ks xs h
theorem RowIn.kp {S : Nat → Prop} (k : Kp S w w') (hb : ∀ b, b < w.heap.size → B b → B' b ∧ ¬ S b) {a : Sl} {n : Nat} {xs : List Value} {size : Nat} (h : RowIn B w a n xs size) : RowIn B' w' a n xs size :=
  h.mv k.size (fun b hlt hB => ⟨(hb b hlt hB).1, k.block b hlt (hb b hlt hB).2⟩)
theorem AllAt.snoc {p : PT} {cs : List Value} (hp : PlAt B w p cs) : ∀ (ks : List PT) (xs : List Value), AllAt B w ks xs → AllAt B w (ks ++ [p]) (xs ++ cs)
  | [], xs, h => by
    unfold AllAt at h; subst h
    show AllAt B w [p] cs
    unfold AllAt
    exact ⟨cs, [], by simp, hp, by unfold AllAt; rfl⟩
  | q :: ks, xs, h => by
    unfold AllAt at h
    obtain ⟨ds, ys, h1, h2, h3⟩ := h
    show AllAt B w (q :: (ks ++ [p])) (xs ++ cs)
    unfold AllAt
    exact ⟨ds, ys ++ cs, by rw [h1, List.append_assoc], h2, AllAt.snoc hp ks ys h3⟩
theorem AllAt.nil : AllAt B w [] [] := by unfold AllAt; rfl
theorem PlAt.mk' {k b e : Nat} {ns : List (Nat × Nat)} {ks : List PT} {na ka : Sl} {xs : List Value} (h2 : RowIn B w na ns.length (ns.flatMap spanC) 2) (h3 : RowIn B w ka ks.length xs 5) (h4 : AllAt B w ks xs) : PlAt B w (.mk k b e ns ks) (pc k b e na ka) := by
  unfold PlAt; exact ⟨na, ka, xs, rfl, h2, h3, h4⟩
theorem RowIn.nil {size : Nat} : RowIn B w (none, 0, 0) 0 [] size := ⟨rfl, by simp, .inl rfl⟩
theorem PlAt.leaf {k b e : Nat} : PlAt B w (.mk k b e [] []) (pc k b e (none, 0, 0) (none, 0, 0)) := PlAt.mk' (xs := []) RowIn.nil RowIn.nil AllAt.nil
theorem RowIn.own {base : Nat} {e : TypeId} {size : Nat} {x : Sl} {n : Nat} {xs : List Value} (h : w.ownsRow base e size (slV x) n xs) (hB : ∀ b, some b = (slV x).ownBlock → base ≤ b → B b) : RowIn B w x n xs size := by
  obtain ⟨h1, ⟨h2, h3⟩ | ⟨g, cap, cur, h2, hb, hg, hnc, hm, hs, ht⟩⟩ := h
  · obtain ⟨a, l, c⟩ := x
    simp only [slV, Value.slice.injEq] at h2
    obtain ⟨rfl, rfl, rfl⟩ := h2
    subst h3
    exact ⟨rfl, h1, .inl rfl⟩
  · obtain ⟨a, l, c⟩ := x
    simp only [slV, Value.slice.injEq] at h2
    obtain ⟨rfl, rfl, rfl⟩ := h2
    refine ⟨rfl, h1, .inr ⟨g, rfl, hB g rfl hb, ?_, fun j u hj => ?_⟩⟩
    · rcases Nat.lt_or_ge g w.heap.size with h' | h'
      · exact h'
      · rw [Array.getElem?_eq_none h'] at hg; cases hg
    · simp only [World.cell?, hg]
      have hj2 : j < l * size := by
        have := (List.getElem?_eq_some_iff.1 hj).1
        omega
      rw [← ht] at hj
      rw [List.getElem?_take_of_lt hj2] at hj
      simpa using hj
end Go.Proofs.Ytiganlecnpphmaa.Sr
