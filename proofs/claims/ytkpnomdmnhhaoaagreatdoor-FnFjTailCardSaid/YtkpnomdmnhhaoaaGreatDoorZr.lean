/- fastjson: the state of an array or an object while it is read. No statement of the set is proved here. -/
import Derived.Test.YtkpnomdmnhhaoaaGreatDoorZp
namespace Go.Proofs.YtkpnomdmnhhaoaaGreatDoor.Zv
open Go Go.Proofs Go.RowKit Go.Proofs.YtkpnomdmnhhaoaaGreatDoor.Rx Go.Proofs.YtkpnomdmnhhaoaaGreatDoor.Tr Go.Proofs.YtkpnomdmnhhaoaaGreatDoor.Pl Go.Proofs.YtkpnomdmnhhaoaaGreatDoor.Pw
open Go.Proofs.YtkpnomdmnhhaoaaGreatDoor.Sr (Sl slV)

variable {w w0 w' w'' w1 : World} {gp o : Nat} {x0 x x1 x2 : Sl} {v c : Nat × Nat} {cs : List Value} {s : ByteArray} {e : TypeId} {sz m m' : Nat} {a a' : Sl} {xs xs' : List Value} {dn : List PT} {ad : List (Nat × Nat)} {G F : Nat × Nat → Prop} {q : PT}
/-- A value with a row of its own, and what was read of its kids. -/
structure NS (s : ByteArray) (gp o : Nat) (x0 : Sl) (w0 : World) (x : Sl) (w : World) (v : Nat × Nat) (cs : List Value) (e : TypeId) (sz : Nat) (a : Sl) (m : Nat) (xs : List Value) (dn : List PT) (ad : List (Nat × Nat)) (G : Nat × Nat → Prop) : Prop where
  ps : PS gp o x0 w0 x w v cs
  old : CS w0 gp o x0
  row : w.ownsRow w0.heap.size e sz (slV a) m xs
  all : AllV s w dn ad G
  reg : ∀ y, G y → Reg x0 w0.heap.size x w.heap.size y ∧ ¬ own v y
  sep : ∀ g : Addr, a.1 = some g → (∀ b : Addr, x.1 = some b → g.block ≠ b.block) ∧ g.block ≠ v.1 ∧ ∀ y, G y → y.1 ≠ g.block
theorem NS.of (h : PS gp o x0 w0 x w v cs) (h0 : CS w0 gp o x0) : NS s gp o x0 w0 x w v cs e sz (none, 0, 0) 0 [] [] [] (fun _ => False) :=
  ⟨h, h0, World.ownsRow_nil _ _ _ _, AllV.nil, fun _ h => h.elim, fun _ h => (by cases h)⟩
theorem own_blk_iff {g : Addr} {b : Nat} (h : a.1 = some g) : some b = (slV a).ownBlock ↔ b = g.block := by
  obtain ⟨p, l, c⟩ := a
  have h : p = some g := h
  subst h
  show some b = some g.block ↔ _
  exact ⟨fun h => Option.some.inj h, fun h => by rw [h]⟩
theorem own_blk_none {b : Nat} (h : a.1 = none) : ¬ some b = (slV a).ownBlock := fun c => by
  obtain ⟨p, l, d⟩ := a
  have h : p = none := h
  subst h
  cases c
/-- The row's block is apart from all else. -/
theorem NS.blk (h : NS s gp o x0 w0 x w v cs e sz a m xs dn ad G) {b : Nat} (hb : some b = (slV a).ownBlock) : w0.heap.size ≤ b ∧ b < w.heap.size ∧ b ≠ gp ∧ (∀ g : Addr, x.1 = some g → b ≠ g.block) ∧ b ≠ v.1 ∧ ∀ y, G y → y.1 ≠ b := by
  have hr := h.row.lt b hb.symm
  have hgp := h.old.lt
  cases ha : a.1 with
  | none => exact absurd hb (own_blk_none ha)
  | some g =>
    have hb := (own_blk_iff ha).1 hb
    obtain ⟨s1, s2, s3⟩ := h.sep g ha
    subst hb
    exact ⟨hr.1, hr.2, fun e => by omega, s1, s2, s3⟩
theorem NS.notgp (h : NS s gp o x0 w0 x w v cs e sz a m xs dn ad G) {y : Nat × Nat} (hy : G y) : y.1 ≠ gp := reg_ne h.old (h.reg y hy).1.1
/-- A kid was read. -/
theorem NS.child (h : NS s gp o x0 w0 x w v cs e sz a m xs dn ad G) (k : Kc (On gp) x w w') (hA : Adv x w.heap.size x1 w'.heap.size) (hC : CS w' gp o x1) :
    NS s gp o x0 w0 x1 w' v cs e sz a m xs dn ad G ∧ ∀ y, Reg x w.heap.size x1 w'.heap.size y → ¬ G y ∧ ¬ own v y ∧ ∀ b, some b = (slV a).ownBlock → y.1 ≠ b := by
  refine ⟨⟨h.ps.child k hA hC, h.old, owns_kc h.row k fun g hg => ?_, AllV.sm dn ad G (Sm.kc k fun y hy => ⟨(h.reg y hy).1.2, h.notgp hy⟩) h.all, fun y hy => ⟨(h.reg y hy).1.sub hA, (h.reg y hy).2⟩, fun g hg => ?_⟩, fun y hy => ⟨fun c => hy.1 (h.reg y c).1.2, fun c => hy.1 (h.ps.reg y c).2, fun b hb c => ?_⟩⟩
  · have hb := h.blk ((own_blk_iff hg).2 rfl)
    exact ⟨hb.2.2.1, hb.2.2.2.1⟩
  · have hb := h.blk ((own_blk_iff hg).2 rfl)
    refine ⟨fun b hb' => ?_, hb.2.2.2.2.1, hb.2.2.2.2.2⟩
    rcases hA.2 with ⟨e1, _⟩ | ⟨b2, e1, hb2⟩
    · exact hb.2.2.2.1 b (by rw [← e1]; exact hb')
    · rw [e1] at hb'; cases hb'
      have := hb.2.1
      omega
  · have hb := h.blk hb
    refine hy.1 ⟨by rw [c]; exact hb.2.1, fun g hg hgy => ?_⟩
    exact absurd (c.symm.trans hgy) (hb.2.2.2.1 g hg)
theorem NS.put (h : NS s gp o x0 w0 x w v cs e sz a m xs dn ad G) {i : Nat} (hi : i < 5) (u : Value) : NS s gp o x0 w0 x (w.setCell ⟨v.1, v.2 + i, none⟩ u) v (cs.set i u) e sz a m xs dn ad G := by
  refine ⟨h.ps.put hi u, h.old, owns_kp h.row (((Kp.refl (On v.1) w).on (v.2 + i) u)) fun b hb c => ?_, AllV.sm dn ad G (Sm.set fun c => (h.reg _ c).2 (own_at hi)) h.all, fun y hy => ?_, h.sep⟩
  · exact (h.blk hb).2.2.2.2.1 c
  · rw [setCell_size]; exact h.reg y hy
/-- The row is written: it may move to a new block. -/
theorem NS.grow (h : NS s gp o x0 w0 x w v cs e sz a m xs dn ad G) (k : Kp (fun b => some b = (slV a).ownBlock) w w') (hO : w'.ownsRow w0.heap.size e sz (slV a') m' xs') (hb : ∀ b, some b = (slV a').ownBlock → some b = (slV a).ownBlock ∨ w.heap.size ≤ b) : NS s gp o x0 w0 x w' v cs e sz a' m' xs' dn ad G := by
  have hsz := k.size
  refine ⟨h.ps.kp k (fun c => (h.blk c).2.2.1 rfl) (fun b hx c => (h.blk c).2.2.2.1 b hx rfl) (fun c => (h.blk c).2.2.2.2.1 rfl) (fun q c => (h.blk c).1), h.old, hO, AllV.sm dn ad G (Sm.kp k fun y hy => ⟨(h.reg y hy).1.2.1, fun c => (h.blk c).2.2.2.2.2 y hy rfl⟩) h.all, fun y hy => ⟨(h.reg y hy).1.sub (Adv.grow x hsz), (h.reg y hy).2⟩, fun g hg => ?_⟩
  rcases hb g.block ((own_blk_iff hg).2 rfl) with h1 | h1
  · have := h.blk h1
    exact ⟨this.2.2.2.1, this.2.2.2.2.1, this.2.2.2.2.2⟩
  · refine ⟨fun b hx c => ?_, fun c => ?_, fun y hy c => ?_⟩
    · have := (h.ps.cache.ne b hx).2
      omega
    · have := (h.ps.reg _ (own_at (v := v) (j := 0) (by decide))).2.1
      have : v.1 < w.heap.size := this
      omega
    · have := (h.reg y hy).1.2.1
      omega
theorem NS.off (h : NS s gp o x0 w0 x w v cs e sz a m xs dn ad G) (k : Kp Off w w') : NS s gp o x0 w0 x w' v cs e sz a m xs dn ad G :=
  h.grow (k.mono fun _ _ c => c.elim) (owns_kp h.row k fun _ _ => id) fun _ hb => .inl hb
/-- A cell of the row is written. -/
theorem NS.rowset (h : NS s gp o x0 w0 x w v cs e sz a m xs dn ad G) {g j : Nat} (ha : a.1 = some ⟨g, 0, none⟩) (hj : j < m * sz) (u : Value) : NS s gp o x0 w0 x (w.setCell ⟨g, j, none⟩ u) v cs e sz a m (xs.set j u) dn ad G :=
  h.grow ((Kp.refl _ w).set (a := ⟨g, j, none⟩) ((own_blk_iff ha).2 rfl) u) (owns_set h.row ha hj u) fun _ hb => .inl hb
/-- A kid is one of those that were read. -/
theorem NS.add (h : NS s gp o x0 w0 x w v cs e sz a m xs dn ad G) (hV : VAt s w q c F) (hF : ∀ y, F y → Reg x0 w0.heap.size x w.heap.size y ∧ ¬ own v y ∧ ¬ G y ∧ ∀ b, some b = (slV a).ownBlock → y.1 ≠ b) : NS s gp o x0 w0 x w v cs e sz a m xs (dn ++ [q]) (ad ++ [c]) (fun y => G y ∨ F y) :=
  ⟨h.ps, h.old, h.row, AllV.snoc hV dn ad G (fun y hy => (hF y hy).2.2.1) h.all, fun y hy => hy.elim (fun c => h.reg y c) fun c => ⟨(hF y c).1, (hF y c).2.1⟩,
    fun g hg => ⟨(h.sep g hg).1, (h.sep g hg).2.1, fun y hy => hy.elim ((h.sep g hg).2.2 y) fun c => (hF y c).2.2.2 _ ((own_blk_iff hg).2 rfl)⟩⟩
/-- What stays of a kid while the row and the value's own cells are written. -/
theorem kid_kp {x' : Sl} {z : Nat} (k : Kp (fun b => some b = (slV a).ownBlock) w w') (hV : VAt s w q c (Reg x' z x w.heap.size)) (hF : ∀ y, Reg x' z x w.heap.size y → ∀ b, some b = (slV a).ownBlock → y.1 ≠ b) : VAt s w' q c (Reg x' z x w.heap.size) :=
  VAt.sm q c _ (Sm.kp k fun y hy => ⟨hy.2.1, fun c => hF y hy y.1 c rfl⟩) hV
/-- A cell of the row. -/
theorem NS.rowat (h : NS s gp o x0 w0 x w v cs e sz a m xs dn ad G) {g j : Nat} {u : Value} (ha : a.1 = some ⟨g, 0, none⟩) (hj : xs[j]? = some u) : w.cell? (Addr.add ⟨g, j, none⟩ 0) = some u ∧ w.frozen? (Addr.add ⟨g, j, none⟩ 0) = false := by
  rw [addr_add, Nat.add_zero]
  rcases (owns_blk h.row).2.2 with ⟨h0, _⟩ | ⟨g', g1, _, _, g2⟩
  · rw [h0] at ha; cases ha
  · rw [g1] at ha; cases ha
    exact g2 j u hj
/-- A value without kids. -/
theorem PS.vat {k b e : Nat} (h : PS gp o x0 w0 x w v (vc (none, 0, 0) false (none, 0, 0) (rawS s k b e) (kindN k))) : VAt s w (.mk k b e [] []) v (Reg x0 w0.heap.size x w.heap.size) := by
  unfold VAt
  exact ⟨(none, 0, 0), (none, 0, 0), [], fun _ => False, rfl, h.node, fun _ => ⟨rfl, Nat.le_refl _, .inl rfl⟩, fun _ => ⟨rfl, rfl, Nat.le_refl _, .inl rfl⟩, h.reg, fun y hy => (by obtain ⟨g, hg, _⟩ := hy; cases hg), fun y hy => (by obtain ⟨g, hg, _⟩ := hy; cases hg), fun _ h => h.elim, AllV.nil⟩
theorem NS.rr (h : NS s gp o x0 w0 x w v cs e sz a m xs dn ad G) : RR w a m xs := by
  obtain ⟨h1, h2, h3⟩ := owns_blk h.row
  refine ⟨h1, h2, ?_⟩
  rcases h3 with ⟨_, h0⟩ | ⟨g, g1, _, _, g2⟩
  · left
    have := h.row.1
    rw [h0, Nat.zero_mul] at this
    exact List.eq_nil_of_length_eq_zero this
  · exact .inr ⟨g, g1, fun j u hj => by rw [Nat.zero_add]; exact g2 j u hj⟩
theorem NS.rowB (h : NS s gp o x0 w0 x w v cs e sz a m xs dn ad G) : ∀ y, rowB a y → Reg x0 w0.heap.size x w.heap.size y ∧ ¬ own v y := by
  rintro y ⟨g, hg, hy⟩
  have hb := h.blk ((own_blk_iff hg).2 rfl)
  refine ⟨⟨fun c => ?_, by rw [hy]; exact hb.2.1, fun b hx c => absurd (hy.symm.trans c) (hb.2.2.2.1 b hx)⟩, fun c => hb.2.2.2.2.1 (hy.symm.trans c.1)⟩
  have := c.1
  rw [hy] at this
  omega
theorem NS.vatA {b e' : Nat} (h : NS s gp o x0 w0 x w v (vc (none, 0, 0) false a (ByteArray.mk #[]) 2) tPv 1 a dn.length (ad.map ptrV) dn ad G) : VAt s w (.mk 5 b e' [] dn) v (Reg x0 w0.heap.size x w.heap.size) := by
  unfold VAt
  exact ⟨(none, 0, 0), a, ad, G, AllV.len _ _ _ h.all, h.ps.node, fun _ => h.rr, fun c => (by cases c), h.ps.reg, h.rowB, fun y hy => (by obtain ⟨g, hg, _⟩ := hy; cases hg),
    fun y hy => ⟨(h.reg y hy).1, (h.reg y hy).2, fun ⟨g, hg, c⟩ => (h.sep g hg).2.2 y hy c, fun ⟨g, hg, _⟩ => (by cases hg)⟩, h.all⟩
theorem NS.vatO {b e' : Nat} {ns : List (Nat × Nat)} (hn : ns.length = dn.length) (h : NS s gp o x0 w0 x w v (vc a false (none, 0, 0) (ByteArray.mk #[]) 1) tKv 2 a dn.length (kvC s ns ad) dn ad G) : VAt s w (.mk 6 b e' ns dn) v (Reg x0 w0.heap.size x w.heap.size) := by
  unfold VAt
  exact ⟨a, (none, 0, 0), ad, G, AllV.len _ _ _ h.all, h.ps.node, fun c => (by cases c), fun _ => ⟨hn, h.rr⟩, h.ps.reg, fun y hy => (by obtain ⟨g, hg, _⟩ := hy; cases hg), h.rowB,
    fun y hy => ⟨(h.reg y hy).1, (h.reg y hy).2, fun ⟨g, hg, _⟩ => (by cases hg), fun ⟨g, hg, c⟩ => (h.sep g hg).2.2 y hy c⟩, h.all⟩
end Go.Proofs.YtkpnomdmnhhaoaaGreatDoor.Zv
