/- What a walk over a value's own places leaves alone; an element put behind a row of one's own, or written in it. No statement of the set is proved here. -/
import Derived.Test.YtkpnomdmnhhaoaaGreatDoorZk
import Derived.Maps.AppendAt
namespace Go.Proofs.YtkpnomdmnhhaoaaGreatDoor.Zv
open Go Go.Proofs Go.RowKit Go.Proofs.YtkpnomdmnhhaoaaGreatDoor.Rx Go.Proofs.YtkpnomdmnhhaoaaGreatDoor.Pl
open Go.Proofs.YtkpnomdmnhhaoaaGreatDoor.Sr (Sl slV)

variable {w w' w'' : World} {F F' G : Nat × Nat → Prop}
/-- The places F alone, and new ones, are written. -/
structure Fr (F : Nat × Nat → Prop) (w w' : World) : Prop where
  kp : Kp (fun q => ∃ o, F (q, o)) w w'
  sm : ∀ G : Nat × Nat → Prop, (∀ y, G y → y.1 < w.heap.size ∧ ¬ F y) → Sm G w w'
theorem Fr.off (k : Kp Off w w') : Fr F w w' := ⟨Kp.off k, fun _ h => Sm.kp k fun y hy => ⟨(h y hy).1, id⟩⟩
theorem Fr.refl (F : Nat × Nat → Prop) (w : World) : Fr F w w := Fr.off (Kp.refl Off w)
theorem Fr.trans (h : Fr F w w') (k : Fr F w' w'') : Fr F w w'' :=
  ⟨h.kp.trans k.kp, fun G hG => (h.sm G hG).trans (k.sm G fun y hy => ⟨Nat.lt_of_lt_of_le (hG y hy).1 h.kp.size, (hG y hy).2⟩)⟩
theorem Fr.mono (h : Fr F w w') (hF : ∀ y, F y → F' y) : Fr F' w w' :=
  ⟨h.kp.mono fun _ _ ⟨o, ho⟩ => ⟨o, hF _ ho⟩, fun G hG => h.sm G fun y hy => ⟨(hG y hy).1, fun c => (hG y hy).2 (hF y c)⟩⟩
theorem Fr.then {S : Nat → Prop} (h : Fr F w w') (k : Kp S w' w'') (hS : ∀ q, S q → w.heap.size ≤ q) : Fr F w w'' :=
  ⟨h.kp.then k fun q hq hs => absurd (hS q hs) (by omega), fun G hG => (h.sm G hG).trans (Sm.kp k fun y hy => ⟨Nat.lt_of_lt_of_le (hG y hy).1 h.kp.size, fun c => by have := hS _ c; have := (hG y hy).1; omega⟩)⟩
theorem Fr.size (h : Fr F w w') : w.heap.size ≤ w'.heap.size := h.kp.size
/-- From a later world on. -/
theorem Fr.pre (k : Kp Off w w') (h : Fr F w' w'') : Fr F w w'' := (Fr.off k).trans h
end Go.Proofs.YtkpnomdmnhhaoaaGreatDoor.Zv
namespace Go.Proofs.YtkpnomdmnhhaoaaGreatDoor.Nt
open Go Go.Proofs Go.RowKit Go.Proofs.YtkpnomdmnhhaoaaGreatDoor.Rx Go.Proofs.YtkpnomdmnhhaoaaGreatDoor.Tr Go.Proofs.YtkpnomdmnhhaoaaGreatDoor.Pl Go.Proofs.YtkpnomdmnhhaoaaGreatDoor.Pw
open Go.Proofs.YtkpnomdmnhhaoaaGreatDoor.Sr (Sl slV RowIn)

variable {w w' : World}
theorem s_both {Q : Nat → List Value → World → Prop} {a b : T} (ha : sat Tryz.prog a Q w) (hb : sat Tryz.prog b Q w) : sat Tryz.prog (.both a b) Q w := ⟨ha, hb⟩
/-- An element put behind a row of one's own. -/
theorem s_push2 {Q : Nat → List Value → World → Prop} {base : Nat} {t e : TypeId} {i : TypeInfo} {z0 : Value} {size n : Nat} {xs : List Value} {v : Sl} {K : Sh.slice.Ty → T} {o1 o2 : Operand}
    (ht : Tryz.prog.underlying t = some (.slice e)) (hi : Tryz.prog.info? e = some i) (hz : i.zero = some z0) (hsize : i.size = size) (hby : i.bytes ≤ 1024) (hzs : z0.cells.size = size) (h0 : 0 < size) (h24 : size ≤ 16777216)
    (hown : w.ownsRow base e size (slV v) n xs) (part : Value) (cs : List Value) (hp : part.cells = cs.toArray) (hcs : cs.length = size) (h1 : ∀ u ∈ cs, u.oneCell' = true) (hn : n + 1 ≤ 4294967296) (hbase : base ≤ w.heap.size)
    (hK : ∀ (v' : Sl) (w' : World), w'.ownsRow base e size (slV v') (n + 1) (xs ++ cs) → Kp (fun k => some k = (slV v).ownBlock) w w' → (∀ b, some b = (slV v').ownBlock → some b = (slV v).ownBlock ∨ w.heap.size ≤ b) → sat Tryz.prog (K v') Q w') :
    sat Tryz.prog (.eff (Instr.buildSlice t 1 #[(0, part)]) .slice fun (z33 : ((Option Addr) × (Nat × Nat))) =>
      .eff (Builtin.append_ (Call.argTypes (Call.mk (Callee.builtin Builtin.append) #[o1, o2] #[t, t])) t #[(Value.slice (v).1 ((v).2).1 ((v).2).2), (Value.slice (z33).1 ((z33).2).1 ((z33).2).2)]) .slice K) Q w := by
  have hb := build1 (w := w) ht hi hz hsize h0 h24 part cs hp hcs
  obtain ⟨w1, h2, a, c, w2, h3, h4, h5, h6⟩ := push_run (P := Tryz.prog) ht hi hz hsize hby hzs h0 h24 hown part cs hp hcs h1 hn hbase
  have e1 := Result.ok.inj (hb.symm.trans h2)
  have e1 := e1.2
  subst e1
  refine s_eff (some ⟨w.heap.size, 0, none⟩, 1, 1) hb ?_
  exact s_eff (a, n + 1, c) h3 (hK (a, n + 1, c) w2 h4 h5 h6)
/-- An element that stands in a block of its own, put behind a row of one's own. -/
theorem push1 {P : Program} {base : Nat} {t e : TypeId} {i : TypeInfo} {z0 : Value} {size : Nat} (ht : P.underlying t = some (.slice e)) (hi : P.info? e = some i) (hz : i.zero = some z0)
    (hsize : i.size = size) (hby : i.bytes ≤ 1024) (hzs : z0.cells.size = size) (h0 : 0 < size) {v : Sl} {n : Nat} {xs : List Value} (hown : w.ownsRow base e size (slV v) n xs) (cs : List Value) (hcs : cs.length = size)
    (h1 : ∀ u ∈ cs, u.oneCell' = true) {g : Nat} (hc : ∀ (j : Nat) (u : Value), cs[j]? = some u → w.cell? ⟨g, j, none⟩ = some u) (hn : n + 1 ≤ 4294967296) (hbase : base ≤ w.heap.size) :
    ∃ (v' : Sl) (w2 : World), (Builtin.append_ #[t, t] t #[slV v, .slice (some ⟨g, 0, none⟩) 1 1]).run P w = .ok (slV v') w2 ∧ w2.ownsRow base e size (slV v') (n + 1) (xs ++ cs) ∧ Kp (fun k => some k = (slV v).ownBlock) w w2 ∧ (∀ b, some b = (slV v').ownBlock → some b = (slV v).ownBlock ∨ w.heap.size ≤ b) := by
  subst hsize
  have hbytes : (n + 1) * i.bytes ≤ 140737488355328 := by
    have : (n + 1) * i.bytes ≤ 4294967296 * 1024 := Nat.mul_le_mul (by omega) hby
    omega
  obtain ⟨v', w2, h2, h3, h4, h5, h6⟩ := run_append_own_at (P := P) (w := w) base t t e i z0 i.size i.bytes ht hi hz rfl rfl hzs h0 _ n xs hown ⟨g, 0, none⟩ 1 1 cs (by omega) (fun j u hj => by
    rw [addr_add, Nat.zero_add]; exact hc j u hj) h1 (by simp only [maxLen]; omega) hbytes hbase
  obtain ⟨q1, ⟨q0, q2⟩ | ⟨g2, cap, cur, rfl, q3, q4, q5, q6, q7, q8⟩⟩ := h3
  · exact absurd q0 (by omega)
  · refine ⟨(some ⟨g2, 0, none⟩, n + 1, cap), w2, h2, ⟨q1, .inr ⟨g2, cap, cur, rfl, q3, q4, q5, q6, q7, q8⟩⟩, Kp.of_grown h4, fun b hb => ?_⟩
    rcases h6 with h6 | h6
    · left; rw [← h6]; exact hb
    · right
      have hb : some b = some w.heap.size := by rw [← h6]; exact hb
      cases hb; exact Nat.le_refl _
theorem kp_setCells (g : Nat) : ∀ (vs : List Value) (o : Nat) (w : World), Kp (On g) w (w.setCells g o vs)
  | [], _, w => Kp.refl _ w
  | v :: vs, o, w => by
    show Kp (On g) w ((w.setCell ⟨g, o, none⟩ v).setCells g (o + 1) vs)
    exact ((Kp.refl (On g) w).set (a := ⟨g, o, none⟩) rfl v).trans (kp_setCells g vs (o + 1) _)
theorem setCells_heap {g : Nat} {e : TypeId} : ∀ (vs : List Value) (o : Nat) (w : World) (cur : Array Value), w.heap[g]? = some (.cells cur e (0, 0)) → ∃ cur', (w.setCells g o vs).heap[g]? = some (.cells cur' e (0, 0)) ∧ cur'.size = cur.size
  | [], _, _, cur, h => ⟨cur, h, rfl⟩
  | v :: vs, o, w, cur, h => by
    have h1 : (w.setCell ⟨g, o, none⟩ v).heap[g]? = some (.cells (cur.setIfInBounds o v) e (0, 0)) := by
      unfold World.setCell
      simp only [Array.getElem?_modify, h]
      simp
    obtain ⟨cur', h2, h3⟩ := setCells_heap vs (o + 1) _ _ h1
    exact ⟨cur', h2, by rw [h3, Array.size_setIfInBounds]⟩
/-- The last element of a row of one's own, written. -/
theorem put_last {base n : Nat} {v : Sl} {xs zs cs : List Value} (h : w.ownsRow base tN 4 (slV v) (n + 1) (xs ++ zs)) (hz : zs.length = 4) (hc : cs.length = 4) (h1 : ∀ u ∈ cs, u.oneCell' = true) :
    ∃ g w', v.1 = some ⟨g, 0, none⟩ ∧ v.2.1 = n + 1 ∧ base ≤ g ∧ g < w.heap.size ∧ (Instr.storeAt tN (.pointer (some ⟨g, n * 4, none⟩)) (.agg cs.toArray)).run Tryz.prog w = .ok () w' ∧ w'.ownsRow base tN 4 (slV v) (n + 1) (xs ++ cs) ∧ Kp (On g) w w' := by
  obtain ⟨hl, ⟨_, h0⟩ | ⟨g, cap, cur, hv, hbg, hg, hnc, hcm, hcs, htake⟩⟩ := h
  · omega
  have hxl : xs.length = n * 4 := by rw [List.length_append] at hl; omega
  have hv' : v = (some ⟨g, 0, none⟩, n + 1, cap) := by
    unfold slV at hv
    simp only [Value.slice.injEq] at hv
    exact Prod.ext hv.1 (Prod.ext hv.2.1 hv.2.2)
  subst hv'
  have hgl : g < w.heap.size := (Array.getElem?_eq_some_iff.1 hg).1
  have hcell : ∀ j, w.cell? ⟨g, j, none⟩ = cur[j]? := fun j => by unfold World.cell?; rw [hg]; rfl
  have hsz : n * 4 + 4 ≤ cur.size := by rw [hcs]; have := Nat.mul_le_mul_right 4 hnc; omega
  have hsome : ∀ j, j < cs.length → (w.cell? ⟨g, n * 4 + 0 + j, none⟩).isSome = true := fun j hj => by
    rw [hcell, Array.getElem?_eq_getElem (by omega)]; rfl
  have hfz : ∀ j, j < cs.length → w.frozen? ⟨g, n * 4 + 0 + j, none⟩ = false := fun j hj => by
    simp [World.frozen?, hg]
  have hst := run_storeCells_cells (P := Tryz.prog) g (n * 4) cs 0 w hsome hfz h1
  rw [Nat.add_zero] at hst
  have hin := fun j hj => World.cell?_setCells_in g cs (n * 4) w (fun j hj => by have := hsome j hj; rwa [Nat.add_zero] at this) j hj
  have hout := fun j hj => World.cell?_setCells_out g cs (n * 4) w ⟨g, j, none⟩ hj
  obtain ⟨cur', hg', hs'⟩ := setCells_heap cs (n * 4) w cur hg
  have hcell' : ∀ j, (w.setCells g (n * 4) cs).cell? ⟨g, j, none⟩ = cur'[j]? := fun j => by unfold World.cell?; rw [hg']; rfl
  refine ⟨g, w.setCells g (n * 4) cs, rfl, rfl, hbg, hgl, ?_, ⟨by rw [List.length_append, hxl, hc]; omega, .inr ⟨g, cap, cur', rfl, hbg, hg', hnc, hcm, by rw [hs', hcs], ?_⟩⟩, kp_setCells g cs (n * 4) w⟩
  · have hti := info_some (P := Tryz.prog) (t := tN) (by kernel_rfl)
    have hs : ((Tryz.prog.info? tN).get (by kernel_rfl)).size = 4 := by kernel_rfl
    simp only [Instr.storeAt, Instr.sureAddr, storeVar, Sem.run_bind, Sem.run_pure, Result.andThen_ok, run_size hti, Value.cells]
    simp [hs, hc]
    exact hst
  · apply List.ext_getElem?
    intro j
    rw [List.getElem?_take]
    by_cases hj : j < (n + 1) * 4
    · rw [if_pos hj, Array.getElem?_toList, ← hcell']
      rcases Nat.lt_or_ge j (n * 4) with g1 | g1
      · rw [hout j (fun _ _ => .inl g1), hcell, List.getElem?_append_left (by omega)]
        have := congrArg (fun l => l[j]?) htake
        simp only [List.getElem?_take, if_pos hj, Array.getElem?_toList] at this
        rw [this, List.getElem?_append_left (by omega)]
      · have := hin (j - n * 4) (by omega)
        rw [show n * 4 + (j - n * 4) = j by omega] at this
        rw [this, List.getElem?_append_right (by omega), hxl]
        exact (List.getElem?_eq_getElem (by omega)).symm
    · rw [if_neg hj, List.getElem?_eq_none (by rw [List.length_append]; omega)]
end Go.Proofs.YtkpnomdmnhhaoaaGreatDoor.Nt
