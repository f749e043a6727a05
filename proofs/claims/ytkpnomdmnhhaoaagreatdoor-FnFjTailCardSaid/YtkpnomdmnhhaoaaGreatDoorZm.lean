/- fastjson's values in memory: the cache's row of values, what is written while a text is read, and what a value that was read is. No statement of the set is proved here. -/
import Derived.Test.YtkpnomdmnhhaoaaGreatDoorZa
namespace Go.Proofs.YtkpnomdmnhhaoaaGreatDoor.Zv
open Go Go.Proofs Go.RowKit Go.Proofs.YtkpnomdmnhhaoaaGreatDoor.Rx Go.Proofs.YtkpnomdmnhhaoaaGreatDoor.Pl Go.Proofs.YtkpnomdmnhhaoaaGreatDoor.Pw
open Go.Proofs.YtkpnomdmnhhaoaaGreatDoor.Sr (Sl slV)

variable {w w' w'' : World}
/-- A value's cells: the members, whether their names are read, the elements, the text, the kind. -/
def vc (kvs : Sl) (uk : Bool) (a : Sl) (str : ByteArray) (t : Int) : List Value := [slV kvs, .bool uk, slV a, .string str, .int .i64 t]
abbrev vz : List Value := vc (none, 0, 0) false (none, 0, 0) (ByteArray.mk #[]) 0
/-- A place that was there when the heap had z blocks and the cache's row was x. -/
def Old (x : Sl) (z : Nat) (y : Nat × Nat) : Prop := y.1 < z ∧ ∀ a : Addr, x.1 = some a → y.1 = a.block → y.2 < x.2.1 * 5
/-- The places between two such times. -/
def Reg (x : Sl) (z : Nat) (x1 : Sl) (z1 : Nat) (y : Nat × Nat) : Prop := ¬ Old x z y ∧ Old x1 z1 y
/-- The row goes on, or it moved to a new block. -/
def Adv (x : Sl) (z : Nat) (x1 : Sl) (z1 : Nat) : Prop := z ≤ z1 ∧ ((x1.1 = x.1 ∧ x.2.1 ≤ x1.2.1) ∨ ∃ a : Addr, x1.1 = some a ∧ z ≤ a.block)
variable {x x1 x2 : Sl} {z z1 z2 : Nat}
theorem Adv.refl (x : Sl) (z : Nat) : Adv x z x z := ⟨Nat.le_refl _, .inl ⟨rfl, Nat.le_refl _⟩⟩
theorem Adv.grow (x : Sl) (h : z ≤ z1) : Adv x z x z1 := ⟨h, .inl ⟨rfl, Nat.le_refl _⟩⟩
theorem Adv.trans (h : Adv x z x1 z1) (k : Adv x1 z1 x2 z2) : Adv x z x2 z2 := by
  obtain ⟨h1, h2⟩ := h
  obtain ⟨k1, k2⟩ := k
  refine ⟨Nat.le_trans h1 k1, ?_⟩
  rcases k2 with ⟨e, hn⟩ | ⟨a, e, hb⟩
  · rcases h2 with ⟨e', hn'⟩ | ⟨a, e', hb⟩
    · exact .inl ⟨e.trans e', Nat.le_trans hn' hn⟩
    · exact .inr ⟨a, e.trans e', hb⟩
  · exact .inr ⟨a, e, Nat.le_trans h1 hb⟩
theorem Adv.old (h : Adv x z x1 z1) {y : Nat × Nat} (hy : Old x z y) : Old x1 z1 y := by
  obtain ⟨h1, h2⟩ := h
  obtain ⟨y1, y2⟩ := hy
  refine ⟨Nat.lt_of_lt_of_le y1 h1, fun a ha hb => ?_⟩
  rcases h2 with ⟨e, hn⟩ | ⟨a', e, hb'⟩
  · have := y2 a (by rw [← e]; exact ha) hb
    have := Nat.mul_le_mul_right 5 hn
    omega
  · rw [e] at ha; cases ha
    omega
theorem Reg.sub (h : Adv x1 z1 x2 z2) {y : Nat × Nat} (hy : Reg x z x1 z1 y) : Reg x z x2 z2 y := ⟨hy.1, h.old hy.2⟩
theorem Reg.later (h : Adv x z x1 z1) {y : Nat × Nat} (hy : Reg x1 z1 x2 z2 y) : Reg x z x2 z2 y := ⟨fun c => hy.1 (h.old c), hy.2⟩
/-- What is kept: blocks but for those of S and the row's, and what was there of the row. -/
structure Kc (S : Nat → Prop) (x : Sl) (w w' : World) : Prop where
  os : w'.os = w.os
  tape : w'.tape = w.tape
  output : w'.output = w.output
  size : w.heap.size ≤ w'.heap.size
  block : ∀ b, b < w.heap.size → ¬ S b → (∀ a : Addr, x.1 = some a → b ≠ a.block) → w'.heap[b]? = w.heap[b]?
  cell : ∀ y, Old x w.heap.size y → ¬ S y.1 → w'.cell? ⟨y.1, y.2, none⟩ = w.cell? ⟨y.1, y.2, none⟩ ∧ w'.frozen? ⟨y.1, y.2, none⟩ = w.frozen? ⟨y.1, y.2, none⟩
variable {S S' : Nat → Prop}
theorem Kc.refl (S : Nat → Prop) (x : Sl) (w : World) : Kc S x w w := ⟨rfl, rfl, rfl, Nat.le_refl _, fun _ _ _ _ => rfl, fun _ _ _ => ⟨rfl, rfl⟩⟩
theorem same_block {b off : Nat} (h : w'.heap[b]? = w.heap[b]?) : w'.cell? ⟨b, off, none⟩ = w.cell? ⟨b, off, none⟩ ∧ w'.frozen? ⟨b, off, none⟩ = w.frozen? ⟨b, off, none⟩ :=
  ⟨World.cell?_of_block (a := ⟨b, off, none⟩) h, World.frozen?_of_block (a := ⟨b, off, none⟩) h⟩
theorem Kc.of (k : Kp S w w') : Kc S x w w' :=
  ⟨k.os, k.tape, k.output, k.size, fun b hb hs _ => k.block b hb hs, fun y hy hs => same_block (k.block y.1 hy.1 hs)⟩
theorem Kc.trans (a : Kc S x w w') (h : Adv x w.heap.size x1 w'.heap.size) (b : Kc S x1 w' w'') : Kc S x w w'' := by
  have hz := a.size
  refine ⟨b.os.trans a.os, b.tape.trans a.tape, b.output.trans a.output, Nat.le_trans a.size b.size, fun q hq hs hne => ?_, fun y hy hs => ?_⟩
  · refine (b.block q (by omega) hs fun ad had => ?_).trans (a.block q hq hs hne)
    rcases h.2 with ⟨e, _⟩ | ⟨a', e, hb⟩
    · exact hne ad (by rw [← e]; exact had)
    · rw [e] at had; cases had; omega
  · obtain ⟨c1, c2⟩ := a.cell y hy hs
    obtain ⟨d1, d2⟩ := b.cell y (h.old hy) hs
    exact ⟨d1.trans c1, d2.trans c2⟩
theorem Kc.mono (a : Kc S x w w') (hS : ∀ q, q < w.heap.size → S q → S' q) : Kc S' x w w' :=
  ⟨a.os, a.tape, a.output, a.size, fun q hq hs hne => a.block q hq (fun h => hs (hS q hq h)) hne, fun y hy hs => a.cell y hy fun h => hs (hS y.1 hy.1 h)⟩
/-- Then what was not there is written. -/
theorem Kc.kp (a : Kc S x w w') (b : Kp S' w' w'') (h : ∀ q, S' q → q < w.heap.size → S q) : Kc S x w w'' := by
  have hz := a.size
  refine ⟨b.os.trans a.os, b.tape.trans a.tape, b.output.trans a.output, Nat.le_trans a.size b.size, fun q hq hs hne => ?_, fun y hy hs => ?_⟩
  · exact (b.block q (by omega) fun c => hs (h q c hq)).trans (a.block q hq hs hne)
  · obtain ⟨c1, c2⟩ := a.cell y hy hs
    obtain ⟨d1, d2⟩ := same_block (off := y.2) (b.block y.1 (by have := hy.1; omega) fun c => hs (h y.1 c hy.1))
    exact ⟨d1.trans c1, d2.trans c2⟩
theorem set_other {b off b' off' : Nat} (h : ¬ (b' = b ∧ off' = off)) (u : Value) : (w.setCell ⟨b, off, none⟩ u).cell? ⟨b', off', none⟩ = w.cell? ⟨b', off', none⟩ := by
  by_cases e : b' = b
  · subst e
    have ho : off' ≠ off := fun c => h ⟨rfl, c⟩
    unfold World.cell? World.setCell
    simp only [Array.getElem?_modify]
    cases hh : w.heap[b']? with
    | none => simp
    | some o =>
      simp only [if_true, Option.map_some]
      cases o <;> simp [Ne.symm ho]
  · exact World.cell?_of_block (a := ⟨b', off', none⟩) (Below.heap_setCell _ _ _ _ e)
theorem set_frozen {b off b' off' : Nat} (u : Value) : (w.setCell ⟨b, off, none⟩ u).frozen? ⟨b', off', none⟩ = w.frozen? ⟨b', off', none⟩ := by
  by_cases e : b' = b
  · subst e
    unfold World.frozen? World.setCell
    simp only [Array.getElem?_modify]
    cases hh : w.heap[b']? with
    | none => simp
    | some o =>
      simp only [if_true, Option.map_some]
      cases o <;> simp
  · exact World.frozen?_of_block (a := ⟨b', off', none⟩) (Below.heap_setCell _ _ _ _ e)
theorem set_same {b off : Nat} {u v : Value} (h : w.cell? ⟨b, off, none⟩ = some v) : (w.setCell ⟨b, off, none⟩ u).cell? ⟨b, off, none⟩ = some u := by
  unfold World.cell? at h ⊢
  unfold World.setCell
  simp only [Array.getElem?_modify]
  cases hh : w.heap[b]? with
  | none => rw [hh] at h; cases h
  | some o =>
    rw [hh] at h
    cases o with
    | cells cs t fr =>
      simp only [if_true, Option.map_some]
      have h : cs[off]? = some v := h
      show (cs.setIfInBounds off u)[off]? = some u
      rw [Array.getElem?_setIfInBounds, if_pos rfl, if_pos (Array.getElem?_eq_some_iff.1 h).1]
    | _ => cases h
theorem Kc.put (a : Kc S x w w') {b off : Nat} (h : ¬ Old x w.heap.size (b, off)) (u : Value) : Kc S x w (w'.setCell ⟨b, off, none⟩ u) := by
  refine ⟨a.os, a.tape, a.output, by simpa [World.setCell] using a.size, fun q hq hs hne => ?_, fun y hy hs => ?_⟩
  · refine (Below.heap_setCell _ _ _ _ fun e => h ⟨?_, fun ad had he => ?_⟩).trans (a.block q hq hs hne)
    · show b < _; rw [← show q = b from e]; exact hq
    · exact absurd ((show q = b from e).trans he) (hne ad had)
  · obtain ⟨c1, c2⟩ := a.cell y hy hs
    refine ⟨(set_other (fun e => h ?_) u).trans c1, (set_frozen u).trans c2⟩
    rw [← e.1, ← e.2]; exact hy
/-- Cells one behind the other. -/
def Cs (w : World) (b o : Nat) (cs : List Value) : Prop := ∀ (j : Nat) (u : Value), cs[j]? = some u → w.cell? ⟨b, o + j, none⟩ = some u ∧ w.frozen? ⟨b, o + j, none⟩ = false
/-- Where a set of places is as it was. -/
def Sm (F : Nat × Nat → Prop) (w w' : World) : Prop := ∀ y, F y → w'.cell? ⟨y.1, y.2, none⟩ = w.cell? ⟨y.1, y.2, none⟩ ∧ w'.frozen? ⟨y.1, y.2, none⟩ = w.frozen? ⟨y.1, y.2, none⟩
variable {F F' G : Nat × Nat → Prop}
theorem Sm.sub (h : Sm F w w') (hs : ∀ y, G y → F y) : Sm G w w' := fun y hy => h y (hs y hy)
theorem Sm.kc (k : Kc S x w w') (h : ∀ y, F y → Old x w.heap.size y ∧ ¬ S y.1) : Sm F w w' := fun y hy => k.cell y (h y hy).1 (h y hy).2
theorem Sm.kp (k : Kp S w w') (h : ∀ y, F y → y.1 < w.heap.size ∧ ¬ S y.1) : Sm F w w' := fun y hy => same_block (k.block y.1 (h y hy).1 (h y hy).2)
theorem Sm.set {b off : Nat} {u : Value} (h : ¬ F (b, off)) : Sm F w (w.setCell ⟨b, off, none⟩ u) := fun y hy => ⟨set_other (fun e => h (by rw [← e.1, ← e.2]; exact hy)) u, set_frozen u⟩
theorem Sm.trans (h : Sm F w w') (k : Sm F w' w'') : Sm F w w'' := fun y hy => ⟨(k y hy).1.trans (h y hy).1, (k y hy).2.trans (h y hy).2⟩
theorem Cs.sm {b o : Nat} {cs : List Value} (h : Cs w b o cs) (k : Sm F w w') (hF : ∀ j, j < cs.length → F (b, o + j)) : Cs w' b o cs := fun j u hj => by
  obtain ⟨h1, h2⟩ := h j u hj
  obtain ⟨k1, k2⟩ := k (b, o + j) (hF j (List.getElem?_eq_some_iff.1 hj).1)
  exact ⟨k1.trans h1, k2.trans h2⟩
theorem Cs.set {b o i : Nat} {cs : List Value} (h : Cs w b o cs) (hi : i < cs.length) (u : Value) : Cs (w.setCell ⟨b, o + i, none⟩ u) b o (cs.set i u) := fun j v hj => by
  rw [List.getElem?_set] at hj
  by_cases e : i = j
  · subst e
    rw [if_pos rfl, if_pos hi] at hj
    cases hj
    obtain ⟨c1, c2⟩ := h i cs[i] (List.getElem?_eq_getElem hi)
    exact ⟨set_same c1, (set_frozen _).trans c2⟩
  · rw [if_neg e] at hj
    obtain ⟨c1, c2⟩ := h j v hj
    exact ⟨(set_other (by omega) u).trans c1, (set_frozen u).trans c2⟩
theorem Cs.lt {b o : Nat} {u : Value} {cs : List Value} (h : Cs w b o (u :: cs)) : b < w.heap.size := Ms.cell_lt (h 0 u rfl).1
/-- A row's block. -/
def rowB (a : Sl) (y : Nat × Nat) : Prop := ∃ g : Addr, a.1 = some g ∧ y.1 = g.block
/-- A value's own cells. -/
def own (v : Nat × Nat) (y : Nat × Nat) : Prop := y.1 = v.1 ∧ v.2 ≤ y.2 ∧ y.2 < v.2 + 5
/-- A row's cells. -/
def RR (w : World) (a : Sl) (n : Nat) (cs : List Value) : Prop := a.2.1 = n ∧ n ≤ a.2.2 ∧ (cs = [] ∨ ∃ b, a.1 = some ⟨b, 0, none⟩ ∧ Cs w b 0 cs)
def ptrV (a : Nat × Nat) : Value := .pointer (some ⟨a.1, a.2, none⟩)
/-- The text in a value's cells. -/
def rawS (s : ByteArray) (k b e : Nat) : ByteArray := if k = 3 then s.extract b e else if k = 4 then s.extract (b + 1) (e - 1) else ByteArray.mk #[]
/-- The kind in a value's cells. -/
def kindN (k : Nat) : Int := if k = 0 then 0 else if k = 1 then 6 else if k = 2 then 5 else if k = 3 then 4 else if k = 4 then 7 else if k = 5 then 2 else 1
/-- The members' cells. -/
def kvC (s : ByteArray) (ns : List (Nat × Nat)) (ad : List (Nat × Nat)) : List Value := (ns.zip ad).flatMap fun x => [.string (s.extract (x.1.1 + 1) (x.1.2 - 1)), ptrV x.2]
mutual
/-- A value that was read: its cells, its elements and members; all that is its own lies in F. -/
def VAt (s : ByteArray) (w : World) : PT → Nat × Nat → (Nat × Nat → Prop) → Prop
  | .mk k b e ns ks, v, F => ∃ (kvs a : Sl) (ad : List (Nat × Nat)) (G : Nat × Nat → Prop), ad.length = ks.length ∧ Cs w v.1 v.2 (vc kvs false a (rawS s k b e) (kindN k)) ∧
      (k = 5 → RR w a ks.length (ad.map ptrV)) ∧ (k = 6 → ns.length = ks.length ∧ RR w kvs ks.length (kvC s ns ad)) ∧
      (∀ y, own v y → F y) ∧ (∀ y, rowB a y → F y ∧ ¬ own v y) ∧ (∀ y, rowB kvs y → F y ∧ ¬ own v y) ∧ (∀ y, G y → F y ∧ ¬ own v y ∧ ¬ rowB a y ∧ ¬ rowB kvs y) ∧ AllV s w ks ad G
def AllV (s : ByteArray) (w : World) : List PT → List (Nat × Nat) → (Nat × Nat → Prop) → Prop
  | [], ad, _ => ad = []
  | p :: ks, ad, G => ∃ (a : Nat × Nat) (r : List (Nat × Nat)) (F1 F2 : Nat × Nat → Prop), ad = a :: r ∧ VAt s w p a F1 ∧ AllV s w ks r F2 ∧ (∀ y, F1 y → G y ∧ ¬ F2 y) ∧ (∀ y, F2 y → G y)
end
variable {s : ByteArray}
theorem RR.sm {a : Sl} {n : Nat} {cs : List Value} (h : RR w a n cs) (k : Sm F w w') (hF : ∀ y, rowB a y → F y) : RR w' a n cs := by
  refine ⟨h.1, h.2.1, ?_⟩
  rcases h.2.2 with h0 | ⟨b, h1, h2⟩
  · exact .inl h0
  · exact .inr ⟨b, h1, h2.sm k fun j _ => hF _ ⟨_, h1, rfl⟩⟩
mutual
theorem VAt.sm : ∀ (p : PT) (v : Nat × Nat) (F : Nat × Nat → Prop), Sm F w w' → VAt s w p v F → VAt s w' p v F
  | .mk k b e ns ks, v, F, kk, h => by
    unfold VAt at h ⊢
    obtain ⟨kvs, a, ad, G, h1, h2, h3, h4, h5, h6, h7, h8, h9⟩ := h
    exact ⟨kvs, a, ad, G, h1, h2.sm kk (fun j hj => h5 _ ⟨rfl, Nat.le_add_right _ _, by have : j < 5 := hj; show v.2 + j < v.2 + 5; omega⟩), fun e => (h3 e).sm kk fun y hy => (h6 y hy).1, fun e => ⟨(h4 e).1, (h4 e).2.sm kk fun y hy => (h7 y hy).1⟩, h5, h6, h7, h8,
      AllV.sm ks ad G (kk.sub fun y hy => (h8 y hy).1) h9⟩
theorem AllV.sm : ∀ (ks : List PT) (ad : List (Nat × Nat)) (G : Nat × Nat → Prop), Sm G w w' → AllV s w ks ad G → AllV s w' ks ad G
  | [], ad, G, kk, h => by unfold AllV at h ⊢; exact h
  | p :: ks, ad, G, kk, h => by
    unfold AllV at h ⊢
    obtain ⟨a, r, F1, F2, h1, h2, h3, h4, h5⟩ := h
    exact ⟨a, r, F1, F2, h1, VAt.sm p a F1 (kk.sub fun y hy => (h4 y hy).1) h2, AllV.sm ks r F2 (kk.sub fun y hy => h5 y hy) h3, h4, h5⟩
end
theorem VAt.sub {p : PT} {v : Nat × Nat} (h : VAt s w p v F) (hF : ∀ y, F y → F' y) : VAt s w p v F' := by
  obtain ⟨k, b, e, ns, ks⟩ := p
  unfold VAt at h ⊢
  obtain ⟨kvs, a, ad, G, h1, h2, h3, h4, h5, h6, h7, h8, h9⟩ := h
  exact ⟨kvs, a, ad, G, h1, h2, h3, h4, fun y hy => hF y (h5 y hy), fun y hy => ⟨hF y (h6 y hy).1, (h6 y hy).2⟩, fun y hy => ⟨hF y (h7 y hy).1, (h7 y hy).2⟩, fun y hy => ⟨hF y (h8 y hy).1, (h8 y hy).2⟩, h9⟩
theorem AllV.snoc {p : PT} {v : Nat × Nat} (hp : VAt s w p v F) : ∀ (ks : List PT) (ad : List (Nat × Nat)) (G : Nat × Nat → Prop), (∀ y, F y → ¬ G y) → AllV s w ks ad G → AllV s w (ks ++ [p]) (ad ++ [v]) (fun y => G y ∨ F y)
  | [], ad, G, hd, h => by
    unfold AllV at h; subst h
    show AllV s w [p] [v] _
    unfold AllV
    exact ⟨v, [], F, fun _ => False, rfl, hp, by unfold AllV; rfl, fun y hy => ⟨.inr hy, id⟩, fun y hy => hy.elim⟩
  | q :: ks, ad, G, hd, h => by
    unfold AllV at h
    obtain ⟨a, r, F1, F2, rfl, h2, h3, h4, h5⟩ := h
    show AllV s w (q :: (ks ++ [p])) (a :: (r ++ [v])) _
    unfold AllV
    exact ⟨a, r ++ [v], F1, fun y => F2 y ∨ F y, rfl, h2, AllV.snoc hp ks r F2 (fun y hy c => hd y hy (h5 y c)) h3,
      fun y hy => ⟨.inl (h4 y hy).1, fun c => c.elim (h4 y hy).2 fun c => hd y c (h4 y hy).1⟩, fun y hy => hy.elim (fun c => .inl (h5 y c)) .inr⟩
theorem AllV.len : ∀ (ks : List PT) (ad : List (Nat × Nat)) (G : Nat × Nat → Prop), AllV s w ks ad G → ad.length = ks.length
  | [], ad, G, h => by unfold AllV at h; rw [h]; rfl
  | p :: ks, ad, G, h => by
    unfold AllV at h
    obtain ⟨a, r, F1, F2, rfl, _, h3, _⟩ := h
    rw [List.length_cons, List.length_cons, AllV.len ks r F2 h3]
theorem AllV.nil {G : Nat × Nat → Prop} : AllV s w [] [] G := by unfold AllV; rfl
end Go.Proofs.YtkpnomdmnhhaoaaGreatDoor.Zv
