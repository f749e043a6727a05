/- fastjson: a value's cells while it is built; Object.reset, getKV. No statement of the set is proved here. -/
import Derived.Test.YtkpnomdmnhhaoaaGreatDoorZg
import Derived.Test.YtkpnomdmnhhaoaaGreatDoorZs
namespace Go.Proofs.YtkpnomdmnhhaoaaGreatDoor.Zv
open Go Go.Proofs Go.RowKit Go.Proofs.YtkpnomdmnhhaoaaGreatDoor.Rx Go.Proofs.YtkpnomdmnhhaoaaGreatDoor.Tr Go.Proofs.YtkpnomdmnhhaoaaGreatDoor.Pl Go.Proofs.YtkpnomdmnhhaoaaGreatDoor.Pw
open Go.Proofs.YtkpnomdmnhhaoaaGreatDoor.Sr (Sl slV)

abbrev tKv : TypeId := 115
abbrev tKvs : TypeId := 88
abbrev tPv : TypeId := 37
abbrev tPvs : TypeId := 70
variable {w w0 w' w'' w1 : World} {gp o : Nat} {x0 x x1 x2 : Sl} {v : Nat × Nat} {cs : List Value}
theorem reg_ne {y : Nat × Nat} (h : CS w gp o x) (hy : ¬ Old x w.heap.size y) : y.1 ≠ gp := fun e => hy ⟨by rw [e]; exact h.lt, fun a ha he => absurd (e.symm.trans he).symm (h.ne a ha).1⟩
/-- A value that is being built. -/
structure PS (gp o : Nat) (x0 : Sl) (w0 : World) (x : Sl) (w : World) (v : Nat × Nat) (cs : List Value) : Prop where
  cache : CS w gp o x
  node : Cs w v.1 v.2 cs
  len : cs.length = 5
  adv : Adv x0 w0.heap.size x w.heap.size
  keep : Kc (On gp) x0 w0 w
  reg : ∀ y, own v y → Reg x0 w0.heap.size x w.heap.size y
  ne : v.1 ≠ gp
theorem own_at {j : Nat} (hj : j < 5) : own v (v.1, v.2 + j) := ⟨rfl, Nat.le_add_right _ _, by show v.2 + j < v.2 + 5; omega⟩
theorem setCell_size (w : World) (a : Addr) (u : Value) : (w.setCell a u).heap.size = w.heap.size := by simp [World.setCell]
theorem PS.put (h : PS gp o x0 w0 x w v cs) {i : Nat} (hi : i < 5) (u : Value) : PS gp o x0 w0 x (w.setCell ⟨v.1, v.2 + i, none⟩ u) v (cs.set i u) := by
  have hr := h.reg _ (own_at hi)
  refine ⟨h.cache.put h.ne hr.2 u, h.node.set (by rw [h.len]; exact hi) u, by rw [List.length_set]; exact h.len, ?_, h.keep.put hr.1 u, ?_, h.ne⟩
  · rw [setCell_size]; exact h.adv
  · rw [setCell_size]; exact h.reg
theorem PS.put0 (h : PS gp o x0 w0 x w v cs) (u : Value) : PS gp o x0 w0 x (w.setCell ⟨v.1, v.2, none⟩ u) v (cs.set 0 u) := h.put (i := 0) (by decide) u
/-- What else is written is neither the value's own, nor the cache's, nor of before. -/
theorem PS.kp {S : Nat → Prop} (h : PS gp o x0 w0 x w v cs) (k : Kp S w w') (hg : ¬ S gp) (hx : ∀ a : Addr, x.1 = some a → ¬ S a.block) (hv : ¬ S v.1) (h0 : ∀ q, S q → w0.heap.size ≤ q) : PS gp o x0 w0 x w' v cs := by
  have hsz := k.size
  refine ⟨h.cache.kp k hg hx, h.node.sm (F := own v) (Sm.kp k fun y hy => ⟨?_, ?_⟩) (fun j hj => own_at (by rw [h.len] at hj; exact hj)), h.len, h.adv.trans (Adv.grow x hsz), h.keep.kp k fun q hq hlt => absurd (h0 q hq) (by omega), fun y hy => (h.reg y hy).sub (Adv.grow x hsz), h.ne⟩
  · exact (h.reg y hy).2.1
  · rw [hy.1]; exact hv
theorem PS.off (h : PS gp o x0 w0 x w v cs) (k : Kp Off w w') : PS gp o x0 w0 x w' v cs := h.kp k id (fun _ _ => id) id (fun _ h => h.elim)
/-- A child was read. -/
theorem PS.child (h : PS gp o x0 w0 x w v cs) (k : Kc (On gp) x w w') (a : Adv x w.heap.size x1 w'.heap.size) (c : CS w' gp o x1) : PS gp o x0 w0 x1 w' v cs :=
  ⟨c, h.node.sm (F := own v) (Sm.kc k fun y hy => ⟨(h.reg y hy).2, fun e => h.ne (hy.1.symm.trans e)⟩) (fun j hj => own_at (by rw [h.len] at hj; exact hj)), h.len, h.adv.trans a, h.keep.trans h.adv k, fun y hy => (h.reg y hy).sub a, h.ne⟩
theorem PS.of {e : Ending} (h : GvPost gp o x0 w0 e w) : ∃ (x : Sl) (v : Nat × Nat), e = .returned (ptrV v) ∧ x.2.1 = x0.2.1 + 1 ∧ PS gp o x0 w0 x w v vz := by
  obtain ⟨x1, v, e1, h1, h2, h3, h4, h5, h6, h7⟩ := h
  have hr := own_reg h6 h2 h3 h4 h5.lt
  exact ⟨x1, v, e1, h2, h1, h5, rfl, h6, h7, hr, (h1.ne _ h3).1⟩
theorem PS.at_ (h : PS gp o x0 w0 x w v cs) {j : Nat} {u : Value} (hj : cs[j]? = some u) : w.cell? (Addr.add ⟨v.1, v.2, none⟩ j) = some u ∧ w.frozen? (Addr.add ⟨v.1, v.2, none⟩ j) = false := by
  rw [addr_add]; exact h.node j u hj
/-- A row of one's own whose block is apart. -/
theorem owns_kc {base : Nat} {e : TypeId} {size n : Nat} {a : Sl} {xs : List Value} {S : Nat → Prop} (h : w.ownsRow base e size (slV a) n xs) (k : Kc S x w w') (hn : ∀ g : Addr, a.1 = some g → ¬ S g.block ∧ ∀ b : Addr, x.1 = some b → g.block ≠ b.block) : w'.ownsRow base e size (slV a) n xs := by
  obtain ⟨h1, ⟨h2, h3⟩ | ⟨g, cap, cur, e', hb, hg, hnc, hm, hs, ht⟩⟩ := h
  · exact ⟨h1, .inl ⟨h2, h3⟩⟩
  · refine ⟨h1, .inr ⟨g, cap, cur, e', hb, ?_, hnc, hm, hs, ht⟩⟩
    have hlt : g < w.heap.size := by
      rcases Nat.lt_or_ge g w.heap.size with h' | h'
      · exact h'
      · rw [Array.getElem?_eq_none h'] at hg; cases hg
    have ha : a.1 = some ⟨g, 0, none⟩ := by
      obtain ⟨p, l, c⟩ := a
      simp only [slV, Value.slice.injEq] at e'
      exact e'.1
    obtain ⟨n1, n2⟩ := hn _ ha
    rw [k.block g hlt n1 fun b hb => n2 b hb]; exact hg
/-- The row's own block, and its elements. -/
theorem owns_blk {base : Nat} {e : TypeId} {size n : Nat} {a : Sl} {xs : List Value} (h : w.ownsRow base e size (slV a) n xs) : a.2.1 = n ∧ n ≤ a.2.2 ∧ ((a = (none, 0, 0) ∧ n = 0) ∨ ∃ g, a.1 = some ⟨g, 0, none⟩ ∧ base ≤ g ∧ g < w.heap.size ∧ ∀ j u, xs[j]? = some u → w.cell? ⟨g, j, none⟩ = some u ∧ w.frozen? ⟨g, j, none⟩ = false) := by
  obtain ⟨h1, ⟨h2, h3⟩ | ⟨g, cap, cur, e', hb, hg, hnc, hm, hs, ht⟩⟩ := h
  · obtain ⟨p, l, c⟩ := a
    simp only [slV, Value.slice.injEq] at h2
    obtain ⟨rfl, rfl, rfl⟩ := h2
    subst h3
    exact ⟨rfl, Nat.le_refl _, .inl ⟨rfl, rfl⟩⟩
  · obtain ⟨p, l, c⟩ := a
    simp only [slV, Value.slice.injEq] at e'
    obtain ⟨rfl, rfl, rfl⟩ := e'
    have hlt : g < w.heap.size := by
      rcases Nat.lt_or_ge g w.heap.size with h' | h'
      · exact h'
      · rw [Array.getElem?_eq_none h'] at hg; cases hg
    refine ⟨rfl, hnc, .inr ⟨g, rfl, hb, hlt, fun j u hj => ?_⟩⟩
    rw [← ht] at hj
    have hj' := List.getElem?_eq_some_iff.1 hj
    have hjl := hj'.1
    rw [List.length_take] at hjl
    rw [List.getElem?_take_of_lt (by omega), Array.getElem?_toList] at hj
    exact ⟨by unfold World.cell?; rw [hg]; exact hj, by unfold World.frozen?; rw [hg]; simp⟩
theorem owns_set {base : Nat} {e : TypeId} {size n j g : Nat} {a : Sl} {xs : List Value} (h : w.ownsRow base e size (slV a) n xs) (ha : a.1 = some ⟨g, 0, none⟩) (hj : j < n * size) (u : Value) : (w.setCell ⟨g, j, none⟩ u).ownsRow base e size (slV a) n (xs.set j u) := by
  obtain ⟨h1, ⟨h2, h3⟩ | ⟨g', cap, cur, e', hb, hg, hnc, hm, hs, ht⟩⟩ := h
  · subst h3; omega
  · obtain ⟨p, l, c⟩ := a
    simp only [slV, Value.slice.injEq] at e'
    obtain ⟨rfl, rfl, rfl⟩ := e'
    cases ha
    refine ⟨by simpa using h1, .inr ⟨g, c, cur.setIfInBounds j u, rfl, hb, ?_, hnc, hm, by simpa using hs, ?_⟩⟩
    · simp [World.setCell, Array.getElem?_modify, hg]
    · rw [Array.toList_setIfInBounds, List.take_set, ht]
/-- A cut of an empty slice. -/
theorem cut_nil : (Value.slice (if ((0 : Nat) = 0) then (none : Option Addr) else (Option.map (fun (y5 : Addr) => (Addr.add y5 0)) none)) 0 (0 - 0)) = slV (none, 0, 0) := rfl
theorem run_clear_nil {P : Program} {t e ty : TypeId} (h : P.underlying t = some (.slice e)) : (Builtin.clear_ #[t] ty #[.slice none 0 0]).run P w = .ok (.tuple #[]) w := by
  unfold Builtin.clear_
  simp only [List.getElem?_toArray, List.getElem?_cons_zero, Sem.run_bind, run_underlying h, Result.andThen_ok]
  rfl
/-- Object.reset of a value without members. -/
theorem oreset_any {a : Sl} {str : ByteArray} {t : Int} (h : Cs w v.1 v.2 (vc (none, 0, 0) false a str t)) :
    Calls Tryz.prog 72 #[.pointer (some ⟨v.1, v.2, none⟩)] w fun e w' => e = .returned (.tuple #[]) ∧ w' = (w.setCell ⟨v.1, v.2, none⟩ (slV (none, 0, 0))).setCell ⟨v.1, v.2 + 1, none⟩ (.bool false) := by
  refine fastjson_Object_reset.calls _ ?_
  unfold fastjson_Object_reset.t
  obtain ⟨c0, f0⟩ := h 0 _ rfl
  refine s_ptr (s_load (none, 0, 0) (by rw [addr_add]; exact c0) (s_eff (w' := w) () (run_clear_nil Tryz.underlying88) ?_))
  refine s_ptr (s_load (none, 0, 0) (by rw [addr_add]; exact c0) (s_chk (by decide) (s_ptr (s_store (by rw [addr_add]; exact c0) (by rw [addr_add]; exact f0) ?_))))
  show sat _ _ _ (w.setCell (Addr.add ⟨v.1, v.2, none⟩ 0) (slV (none, 0, 0)))
  rw [addr_add, Nat.add_zero]
  obtain ⟨c1, f1⟩ := h.set (i := 0) (show 0 < 5 by decide) (slV (none, 0, 0)) 1 _ rfl
  refine s_ptr (s_store (by rw [addr_add]; exact c1) (by rw [addr_add]; exact f1) (s_leaf ⟨rfl, rfl, ?_⟩))
  rw [addr_add]; rfl
theorem PS.oreset (h : PS gp o x0 w0 x w v cs) {a : Sl} {str : ByteArray} {t : Int} (e : cs = vc (none, 0, 0) false a str t) : PS gp o x0 w0 x ((w.setCell ⟨v.1, v.2, none⟩ (slV (none, 0, 0))).setCell ⟨v.1, v.2 + 1, none⟩ (.bool false)) v (vc (none, 0, 0) false a str t) := by
  subst e
  exact (h.put0 (slV (none, 0, 0))).put (i := 1) (by decide) (.bool false)
/-! ## getKV -/
/-- What getKV says: the members' row has one more, its cells whatever they are. -/
def KvPost (base m : Nat) (xs : List Value) (kvs : Sl) (v : Nat × Nat) (w : World) (e : Ending) (w' : World) : Prop :=
  ∃ (kvs' : Sl) (g : Nat) (u0 u1 : Value) (w1 : World), e = .returned (.pointer (some ⟨g, m * 2, none⟩)) ∧ kvs'.1 = some ⟨g, 0, none⟩ ∧ w1.ownsRow base tKv 2 (slV kvs') (m + 1) (xs ++ [u0, u1]) ∧ Kp (fun k => some k = (slV kvs).ownBlock) w w1 ∧
    (some g = (slV kvs).ownBlock ∨ w.heap.size ≤ g) ∧ w' = (w1.setCell ⟨v.1, v.2, none⟩ (slV kvs')).drew
theorem getKV_any {kvs a : Sl} {uk : Bool} {str : ByteArray} {t : Int} {base m : Nat} {xs : List Value} (h : Cs w v.1 v.2 (vc kvs uk a str t)) (hO : w.ownsRow base tKv 2 (slV kvs) m xs) (hb : base ≤ w.heap.size) (hv : ∀ g : Addr, kvs.1 = some g → g.block ≠ v.1) (hm : m ≤ 1000000) :
    Calls Tryz.prog 73 #[.pointer (some ⟨v.1, v.2, none⟩)] w (KvPost base m xs kvs v w) := by
  obtain ⟨c0, f0⟩ := h 0 _ rfl
  have hlen := (owns_blk hO).1
  have hvl : v.1 < w.heap.size := h.lt
  refine fastjson_Object_getKV.calls _ ?_
  unfold fastjson_Object_getKV.t
  refine s_drew (s_ptr (s_load kvs (by rw [addr_add]; exact c0) (s_ptr (s_load kvs (by rw [addr_add]; exact c0) (s_iteD (fun g => ?_) (fun g => ?_))))))
  · refine s_drew (s_ptr (s_load kvs (by rw [addr_add]; exact c0) (s_ptr (s_load kvs (by rw [addr_add]; exact c0) ?_))))
    have ew : IntKind.wrap IntKind.i64 (((kvs.2.1 : Nat) : Int) + (1 : Int)) = ((m + 1 : Nat) : Int) := by rw [wrap_in (by omega) (by omega)]; omega
    rw [ew, Int.toNat_natCast]
    refine s_chk (by omega) (s_ptr (s_store (by rw [addr_add]; exact c0) (by rw [addr_add]; exact f0) ?_))
    obtain ⟨h1, ⟨h2, h3⟩ | ⟨gk, cap, cur, e', hbg, hg, hnc, hmx, hs, ht⟩⟩ := hO
    · obtain ⟨p, l, c⟩ := kvs
      simp only [slV, Value.slice.injEq] at h2
      obtain ⟨rfl, rfl, rfl⟩ := h2
      exact absurd g (by decide)
    obtain ⟨p, l, c⟩ := kvs
    simp only [slV, Value.slice.injEq] at e'
    obtain ⟨rfl, rfl, rfl⟩ := e'
    have g : l < c := by have g : ((c : Nat) : Int) > ((l : Nat) : Int) := g; omega
    rw [if_neg (show ¬ c = 0 by omega)]
    have ev : (Value.slice (Option.map (fun (y9 : Addr) => (Addr.add y9 0)) (some ⟨gk, 0, none⟩)) (l + 1 - 0) (c - 0)) = slV (some ⟨gk, 0, none⟩, l + 1, c) := by
      show Value.slice (some (Addr.add ⟨gk, 0, none⟩ 0)) (l + 1) c = _
      rw [addr_add]; rfl
    show sat _ _ _ (w.drew.drew.setCell (Addr.add ⟨v.1, v.2, none⟩ 0) (Value.slice (Option.map (fun (y9 : Addr) => (Addr.add y9 0)) (some ⟨gk, 0, none⟩)) (l + 1 - 0) (c - 0)))
    rw [ev, addr_add, Nat.add_zero]
    have c2 : (w.drew.drew.setCell ⟨v.1, v.2, none⟩ (slV (some ⟨gk, 0, none⟩, l + 1, c))).cell? ⟨v.1, v.2, none⟩ = some (slV (some ⟨gk, 0, none⟩, l + 1, c)) := set_same (w := w.drew.drew) c0
    refine s_drew (s_ptr (s_load (some ⟨gk, 0, none⟩, l + 1, c) (by rw [addr_add]; exact c2) (s_ptr (s_load (some ⟨gk, 0, none⟩, l + 1, c) (by rw [addr_add]; exact c2) ?_))))
    have ew2 : IntKind.wrap IntKind.i64 (((l + 1 : Nat) : Int) - (1 : Int)) = (l : Int) := by rw [wrap_in (by omega) (by omega)]; omega
    show sat _ (.chk (((0 : Int) ≤ IntKind.wrap IntKind.i64 (((l + 1 : Nat) : Int) - (1 : Int))) ∧ (IntKind.wrap IntKind.i64 (((l + 1 : Nat) : Int) - (1 : Int)) < ((l + 1 : Nat) : Int))) _) _ _
    have hget : ∀ i, i < 2 → ∃ u, cur[l * 2 + i]? = some u := fun i hi => ⟨cur[l * 2 + i]'(by omega), Array.getElem?_eq_getElem (by omega)⟩
    obtain ⟨u0, hu0⟩ := hget 0 (by decide)
    obtain ⟨u1, hu1⟩ := hget 1 (by decide)
    refine s_chk (by rw [ew2]; omega) (s_ptr (s_leaf ⟨rfl, (some ⟨gk, 0, none⟩, l + 1, c), gk, u0, u1, w.drew.drew, ?_, rfl, ⟨?_, .inr ⟨gk, c, cur, rfl, hbg, hg, g, hmx, hs, ?_⟩⟩, ((Kp.refl _ w).drew).drew, .inl rfl, rfl⟩))
    · show Ending.returned (Value.pointer (some (Addr.add ⟨gk, 0, none⟩ (Int.toNat (IntKind.wrap IntKind.i64 (((l + 1 : Nat) : Int) - (1 : Int))) * 2)))) = _
      rw [ew2, Int.toNat_natCast, addr_add, Nat.zero_add]
    · rw [List.length_append, h1]
      show l * 2 + 2 = (l + 1) * 2
      omega
    · rw [← ht, show (l + 1) * 2 = l * 2 + 1 + 1 by omega, List.take_add_one, List.take_add_one, Array.getElem?_toList, Array.getElem?_toList, hu1, show cur[l * 2]? = some u0 from hu0]
      simp
  · refine s_ptr (s_load kvs (by rw [addr_add]; exact c0) ?_)
    have hO' : w.drew.ownsRow base tKv 2 (slV kvs) m xs := owns_kp hO ((Kp.refl Off w).drew) fun _ _ => id
    have hti := info_some (P := Tryz.prog) (t := tKv) (by kernel_rfl)
    have hb1 := Nt.build1 (P := Tryz.prog) (w := w.drew) (t := tKvs) (size := 2) (z0 := .agg #[.string (ByteArray.mk #[]), .pointer none]) Tryz.underlying88 hti (by kernel_rfl) (by kernel_rfl) (by decide) (by decide) (.agg #[.string (ByteArray.mk #[]), .pointer none]) [.string (ByteArray.mk #[]), .pointer none] rfl rfl
    obtain ⟨w1, h2, sa, sc, w2, h3, h4, h5, h6⟩ := push_run (P := Tryz.prog) (t := tKvs) (size := 2) (z0 := .agg #[.string (ByteArray.mk #[]), .pointer none]) Tryz.underlying88 hti (by kernel_rfl) (by kernel_rfl) (of_decide_eq_true (by kernel_rfl)) rfl (by decide) (by decide) hO' (.agg #[.string (ByteArray.mk #[]), .pointer none]) [.string (ByteArray.mk #[]), .pointer none] rfl rfl
      (by intro u hu; simp at hu; rcases hu with rfl | rfl <;> rfl) (by omega) hb
    refine s_eff (some ⟨w.drew.heap.size, 0, none⟩, 1, 1) h2 (s_eff (sa, m + 1, sc) h3 ?_)
    have k2 : Kp (fun k => some k = (slV kvs).ownBlock) w w2 := ((Kp.refl _ w).drew).trans h5
    have hvb : ¬ some v.1 = (slV kvs).ownBlock := fun e => by
      obtain ⟨p, l, c⟩ := kvs
      cases p with
      | none => cases e
      | some g' =>
        have e : some v.1 = some g'.block := e
        exact hv g' rfl (Option.some.inj e).symm
    obtain ⟨q1, q2⟩ := same_block (off := v.2) (k2.block v.1 hvl hvb)
    refine s_ptr (s_store (by rw [addr_add]; exact q1.trans c0) (by rw [addr_add]; exact q2.trans f0) ?_)
    show sat _ _ _ (w2.setCell (Addr.add ⟨v.1, v.2, none⟩ 0) (slV (sa, m + 1, sc)))
    rw [addr_add, Nat.add_zero]
    have c2 : (w2.setCell ⟨v.1, v.2, none⟩ (slV (sa, m + 1, sc))).cell? ⟨v.1, v.2, none⟩ = some (slV (sa, m + 1, sc)) := set_same (q1.trans c0)
    refine s_drew (s_ptr (s_load (sa, m + 1, sc) (by rw [addr_add]; exact c2) (s_ptr (s_load (sa, m + 1, sc) (by rw [addr_add]; exact c2) ?_))))
    have ew2 : IntKind.wrap IntKind.i64 (((m + 1 : Nat) : Int) - (1 : Int)) = (m : Int) := by rw [wrap_in (by omega) (by omega)]; omega
    show sat _ (.chk (((0 : Int) ≤ IntKind.wrap IntKind.i64 (((m + 1 : Nat) : Int) - (1 : Int))) ∧ (IntKind.wrap IntKind.i64 (((m + 1 : Nat) : Int) - (1 : Int)) < ((m + 1 : Nat) : Int))) _) _ _
    rcases (owns_blk (a := (sa, m + 1, sc)) h4).2.2 with ⟨_, g0⟩ | ⟨gk, g1, _⟩
    · omega
    have g1 : sa = some ⟨gk, 0, none⟩ := g1
    subst g1
    refine s_chk (by rw [ew2]; omega) (s_ptr (s_leaf ⟨rfl, (some ⟨gk, 0, none⟩, m + 1, sc), gk, _, _, w2, ?_, rfl, h4, k2, h6 gk rfl, rfl⟩))
    show Ending.returned (Value.pointer (some (Addr.add ⟨gk, 0, none⟩ (Int.toNat (IntKind.wrap IntKind.i64 (((m + 1 : Nat) : Int) - (1 : Int))) * 2)))) = _
    rw [ew2, Int.toNat_natCast, addr_add, Nat.zero_add]
end Go.Proofs.YtkpnomdmnhhaoaaGreatDoor.Zv
