/- fastjson's cache: getValue, and the resets of what is empty. No statement of the set is proved here. -/
import Derived.Test.YtkpnomdmnhhaoaaGreatDoorZm
import Derived.Test.YtkpnomdmnhhaoaaGreatDoorZn
import Derived.Test.YtkpnomdmnhhaoaaGreatDoorTf
namespace Go.Proofs.YtkpnomdmnhhaoaaGreatDoor.Zv
open Go Go.Proofs Go.RowKit Go.Proofs.YtkpnomdmnhhaoaaGreatDoor.Rx Go.Proofs.YtkpnomdmnhhaoaaGreatDoor.Tr Go.Proofs.YtkpnomdmnhhaoaaGreatDoor.Pl Go.Proofs.YtkpnomdmnhhaoaaGreatDoor.Pw
open Go.Proofs.YtkpnomdmnhhaoaaGreatDoor.Sr (Sl slV)

abbrev tV : TypeId := 92
abbrev tVs : TypeId := 44
variable {w w' w'' : World} {gp o : Nat} {x x1 x2 : Sl}
/-- The cache: the row's used part and behind it zeros. -/
structure CS (w : World) (gp o : Nat) (x : Sl) : Prop where
  cell : w.cell? ⟨gp, o, none⟩ = some (slV x)
  free : w.frozen? ⟨gp, o, none⟩ = false
  row : x = (none, 0, 0) ∨ ∃ (gb n cap : Nat) (cur : Array Value), x = (some ⟨gb, 0, none⟩, n, cap) ∧ gb ≠ gp ∧ n ≤ cap ∧ w.heap[gb]? = some (.cells cur tV) ∧ cur.size = cap * 5 ∧ ∀ j, n * 5 ≤ j → j < cap * 5 → cur[j]? = vz[j % 5]?
theorem CS.lt (h : CS w gp o x) : gp < w.heap.size := Ms.cell_lt h.cell
theorem CS.ne (h : CS w gp o x) : ∀ a : Addr, x.1 = some a → a.block ≠ gp ∧ a.block < w.heap.size := fun a ha => by
  rcases h.row with rfl | ⟨gb, n, cap, cur, rfl, h1, h2, h3, h4, h5⟩
  · cases ha
  · cases ha
    refine ⟨h1, ?_⟩
    rcases Nat.lt_or_ge gb w.heap.size with g | g
    · exact g
    · rw [Array.getElem?_eq_none g] at h3; cases h3
/-- Another block is written, or a used value. -/
theorem CS.kp {S : Nat → Prop} (h : CS w gp o x) (k : Kp S w w') (hg : ¬ S gp) (hx : ∀ a : Addr, x.1 = some a → ¬ S a.block) : CS w' gp o x := by
  obtain ⟨c1, c2⟩ := same_block (off := o) (k.block gp h.lt hg)
  refine ⟨c1.trans h.cell, c2.trans h.free, ?_⟩
  rcases h.row with hx0 | ⟨gb, n, cap, cur, e, h1, h2, h3, h4, h5⟩
  · exact .inl hx0
  · refine .inr ⟨gb, n, cap, cur, e, h1, h2, ?_, h4, h5⟩
    have hlt := (h.ne ⟨gb, 0, none⟩ (by rw [e])).2
    rw [k.block gb hlt (hx ⟨gb, 0, none⟩ (by rw [e]))]; exact h3
theorem CS.off (h : CS w gp o x) (k : Kp Off w w') : CS w' gp o x := h.kp k id fun _ _ => id
theorem CS.put (h : CS w gp o x) {b off : Nat} (hb : b ≠ gp) (ho : Old x w.heap.size (b, off)) (u : Value) : CS (w.setCell ⟨b, off, none⟩ u) gp o x := by
  refine ⟨(set_other (fun e => hb e.1.symm) u).trans h.cell, (set_frozen u).trans h.free, ?_⟩
  rcases h.row with hx0 | ⟨gb, n, cap, cur, e, h1, h2, h3, h4, h5⟩
  · exact .inl hx0
  · by_cases hbb : gb = b
    · subst hbb
      have ho2 : off < n * 5 := by
        have := ho.2 ⟨gb, 0, none⟩ (by rw [e]) rfl
        rw [e] at this; exact this
      refine .inr ⟨gb, n, cap, cur.setIfInBounds off u, e, h1, h2, ?_, by simpa using h4, fun j g1 g2 => ?_⟩
      · simp [World.setCell, Array.getElem?_modify, h3]
      · rw [Array.getElem?_setIfInBounds, if_neg (by omega)]; exact h5 j g1 g2
    · exact .inr ⟨gb, n, cap, cur, e, h1, h2, by rw [Below.heap_setCell _ _ _ _ hbb]; exact h3, h4, h5⟩
/-- The new value's own cells are new. -/
theorem own_reg {z z1 : Nat} {v : Nat × Nat} (ha : Adv x z x1 z1) (h1 : x1.2.1 = x.2.1 + 1) (h2 : x1.1 = some ⟨v.1, 0, none⟩) (h3 : v.2 = x.2.1 * 5) (hz : v.1 < z1) : ∀ y, own v y → Reg x z x1 z1 y := by
  rintro y ⟨y1, y2, y3⟩
  refine ⟨fun c => ?_, by omega, fun a had _ => by omega⟩
  rcases ha.2 with ⟨e, _⟩ | ⟨a, e, hb⟩
  · have := c.2 ⟨v.1, 0, none⟩ (by rw [← e]; exact h2) y1
    omega
  · rw [h2] at e
    cases e
    have := c.1
    have hb : z ≤ v.1 := hb
    omega
theorem vz_get {j : Nat} (i : Nat) (hj : j < 5) : vz[(i * 5 + j) % 5]? = vz[j]? := by
  rw [show (i * 5 + j) % 5 = j by omega]
theorem new_at (w : World) (ob : Obj) : (w.alloc ob).heap[w.heap.size]? = some ob := by
  show (w.heap.push _)[w.heap.size]? = _
  simp
/-- What getValue says. -/
def GvPost (gp o : Nat) (x : Sl) (w : World) (e : Ending) (w' : World) : Prop :=
  ∃ (x1 : Sl) (v : Nat × Nat), e = .returned (ptrV v) ∧ CS w' gp o x1 ∧ x1.2.1 = x.2.1 + 1 ∧ x1.1 = some ⟨v.1, 0, none⟩ ∧ v.2 = x.2.1 * 5 ∧ Cs w' v.1 v.2 vz ∧ Adv x w.heap.size x1 w'.heap.size ∧ Kc (On gp) x w w'
theorem zero_get (m j : Nat) (hj : j < m * 5) : (Builtin.zeroCells (Value.agg vz.toArray).cells m)[j]? = vz[j % 5]? := by
  have hs : (Value.agg vz.toArray).cells = vz.toArray := rfl
  rw [hs]
  unfold Builtin.zeroCells
  have h5 : vz.toArray.size = 5 := rfl
  rw [h5, Array.getElem?_map, Array.getElem?_range, if_pos hj, Option.map_some]
  have hm : j % 5 < 5 := Nat.mod_lt _ (by decide)
  rw [List.getElem?_eq_getElem (show j % 5 < vz.length from hm)]
  congr 1
  rw [getElem!_pos vz.toArray (j % 5) hm]
  rfl
/-- The row grows: a new block, its spare part zeros. -/
theorem grow_run (h : CS w gp o x) (hfull : ¬ x.2.1 < x.2.2) (hn : x.2.1 ≤ 1000000) :
    ∃ w1, (Instr.buildSlice tVs 1 #[(0, .agg vz.toArray)]).run Tryz.prog w = .ok (.slice (some ⟨w.heap.size, 0, none⟩) 1 1) w1 ∧
      ∃ (g c : Nat) (cur : Array Value) (w2 : World), (Builtin.append_ #[tVs, tVs] tVs #[slV x, .slice (some ⟨w.heap.size, 0, none⟩) 1 1]).run Tryz.prog w1 = .ok (.slice (some ⟨g, 0, none⟩) (x.2.1 + 1) c) w2 ∧ w.heap.size ≤ g ∧ x.2.1 + 1 ≤ c ∧
        w2.heap[g]? = some (.cells cur tV) ∧ cur.size = c * 5 ∧ (∀ j, x.2.1 * 5 ≤ j → j < c * 5 → cur[j]? = vz[j % 5]?) ∧ Kp Off w w2 := by
  have hti := info_some (P := Tryz.prog) (t := tV) (by kernel_rfl)
  have hz : ((Tryz.prog.info? tV).get (by kernel_rfl)).zero = some (.agg vz.toArray) := by kernel_rfl
  have hsz : ((Tryz.prog.info? tV).get (by kernel_rfl)).size = 5 := by kernel_rfl
  have hby : ((Tryz.prog.info? tV).get (by kernel_rfl)).bytes ≤ 1024 := of_decide_eq_true (by kernel_rfl)
  generalize (Tryz.prog.info? tV).get (by kernel_rfl) = i at hti hz hsz hby
  have hb := Nt.build1 (P := Tryz.prog) (w := w) Tryz.underlying44 hti hz hsz (by decide) (by decide) (.agg vz.toArray) vz rfl rfl
  refine ⟨_, hb, ?_⟩
  have hc : ∀ j u, vz[j]? = some u → (w.alloc (.cells vz.toArray tV)).cell? ((⟨w.heap.size, 0, none⟩ : Addr).add j) = some u := by
    intro j u hj
    have := (Blk.new w vz tV).cell j
    simp only [addr_add, Nat.zero_add]
    rw [this]; exact hj
  have hbytes : (x.2.1 + 1) * i.bytes ≤ 140737488355328 := by
    have : (x.2.1 + 1) * i.bytes ≤ 1000001 * 1024 := Nat.mul_le_mul (by omega) hby
    omega
  have k1 : Kp Off w (w.alloc (.cells vz.toArray tV)) := (Kp.refl _ w).alloc _
  have hzz := h.row
  rcases hzz with hx0 | ⟨gb, n, cap, cur, e, h1, h2, h3, h4, h5⟩
  · subst hx0
    have hr := run_append_nil (P := Tryz.prog) (w.alloc (.cells vz.toArray tV)) tVs tVs tV i _ Tryz.underlying44 hti hz ⟨w.heap.size, 0, none⟩ 1 1 vz (by rw [hsz]; rfl) hc (by decide) (by decide) (by omega)
    refine ⟨_, _, _, _, hr, by simp, grownCap_ge _ _ _ _, new_at (World.drew _) _, ?_, ?_, (k1.drew).alloc _⟩
    · rw [Array.size_append, size_zeroCells]
      have := grownCap_ge (w.alloc (.cells vz.toArray tV)) 1 0 tV
      show 5 + (_ - 1) * 5 = _ * 5
      omega
    · intro j g1 g2
      rcases Nat.lt_or_ge j 5 with g | g
      · rw [Array.getElem?_append_left (show j < vz.toArray.size from g), Nat.mod_eq_of_lt g, List.getElem?_toArray]
      · rw [Array.getElem?_append_right (show vz.toArray.size ≤ j from g)]
        exact (zero_get _ (j - 5) (by omega)).trans (congrArg (fun q => vz[q]?) (by omega))
  · subst e
    have hcn : n = cap := by
      have hfull : ¬ n < cap := hfull
      omega
    subst hcn
    have holds : ∀ j u, cur.toList[j]? = some u → (w.alloc (.cells vz.toArray tV)).cell? ((⟨gb, 0, none⟩ : Addr).add j) = some u := by
      intro j u hj
      have hlt := (h.ne ⟨gb, 0, none⟩ rfl).2
      simp only [addr_add, Nat.zero_add]
      have : (w.alloc (.cells vz.toArray tV)).cell? ⟨gb, j, none⟩ = w.cell? ⟨gb, j, none⟩ := (same_block (k1.block gb hlt id)).1
      rw [this]
      unfold World.cell?
      rw [h3]
      rw [Array.getElem?_toList] at hj
      exact hj
    have hr := run_append_grow (P := Tryz.prog) (w.alloc (.cells vz.toArray tV)) tVs tVs tV i _ Tryz.underlying44 hti hz ⟨gb, 0, none⟩ n n cur.toList (by rw [hsz, Array.length_toList]; exact h4) holds ⟨w.heap.size, 0, none⟩ 1 1 vz (by rw [hsz]; rfl) hc (by omega) (by have hn : n ≤ 1000000 := hn; omega) (growslice_fits (by omega) hbytes)
    refine ⟨_, _, _, _, hr, by simp, grownCap_ge _ _ _ _, new_at (World.drew _) _, ?_, ?_, (k1.drew).alloc _⟩
    · rw [Array.size_append, Array.size_append, size_zeroCells]
      have := grownCap_ge (w.alloc (.cells vz.toArray tV)) (n + 1) n tV
      show cur.toList.toArray.size + 5 + (_ - (n + 1)) * 5 = _ * 5
      rw [Array.toArray_toList, h4]
      omega
    · intro j g1 g2
      have g1 : n * 5 ≤ j := g1
      have hsa : (cur.toList.toArray ++ vz.toArray).size = n * 5 + 5 := by rw [Array.size_append, Array.toArray_toList, h4]; rfl
      rcases Nat.lt_or_ge j (n * 5 + 5) with g | g
      · rw [Array.getElem?_append_left (by omega), Array.getElem?_append_right (by rw [Array.toArray_toList]; omega), Array.toArray_toList, h4]
        rw [List.getElem?_toArray]
        exact congrArg (fun q => vz[q]?) (by omega)
      · rw [Array.getElem?_append_right (by omega), hsa]
        exact (zero_get _ _ (by omega)).trans (congrArg (fun q => vz[q]?) (by omega))
theorem getValue_any (h : CS w gp o x) (hn : x.2.1 ≤ 1000000) : Calls Tryz.prog 47 #[.pointer (some ⟨gp, o, none⟩)] w (GvPost gp o x w) := by
  have hcap : x.2.1 ≤ x.2.2 := by
    rcases h.row with hx0 | ⟨gb, n, cap, cur, e, h1, h2, _⟩
    · rw [hx0]; exact Nat.le_refl _
    · rw [e]; exact h2
  refine fastjson_cache_getValue.calls _ ?_
  unfold fastjson_cache_getValue.t
  refine s_drew (s_ptr (s_load x (by rw [addr_add]; exact h.cell) (s_ptr (s_load x (by rw [addr_add]; exact h.cell) (s_iteD (fun g => ?_) (fun g => ?_))))))
  · -- room
    have hd : CS w.drew gp o x := h.off ((Kp.refl Off w).drew)
    refine s_drew (s_ptr (s_load x (by rw [addr_add]; exact h.cell) (s_ptr (s_load x (by rw [addr_add]; exact h.cell) ?_))))
    have ew : IntKind.wrap IntKind.i64 (((x.2.1 : Nat) : Int) + (1 : Int)) = ((x.2.1 + 1 : Nat) : Int) := by rw [wrap_in (by omega) (by omega)]; omega
    rw [ew, Int.toNat_natCast]
    refine s_chk (by omega) (s_ptr (s_store (by rw [addr_add]; exact h.cell) (by rw [addr_add]; exact h.free) ?_))
    rcases h.row with hx0 | ⟨gb, n, cap, cur, e, h1, h2, h3, h4, h5⟩
    · rw [hx0] at g; exact absurd g (by decide)
    subst e
    have g : n < cap := by have g : ((cap : Nat) : Int) > ((n : Nat) : Int) := g; omega
    rw [if_neg (show ¬ cap = 0 by omega)]
    have ev : (Value.slice (Option.map (fun (y9 : Addr) => (Addr.add y9 0)) (some ⟨gb, 0, none⟩)) (n + 1 - 0) (cap - 0)) = slV (some ⟨gb, 0, none⟩, n + 1, cap) := by
      show Value.slice (some (Addr.add ⟨gb, 0, none⟩ 0)) (n + 1) cap = _
      rw [addr_add]; rfl
    show sat _ _ _ (w.drew.drew.setCell (Addr.add ⟨gp, o, none⟩ 0) (Value.slice (Option.map (fun (y9 : Addr) => (Addr.add y9 0)) (some ⟨gb, 0, none⟩)) (n + 1 - 0) (cap - 0)))
    rw [ev, addr_add, Nat.add_zero]
    have hc2 : (w.drew.drew.setCell ⟨gp, o, none⟩ (slV (some ⟨gb, 0, none⟩, n + 1, cap))).cell? ⟨gp, o, none⟩ = some (slV (some ⟨gb, 0, none⟩, n + 1, cap)) := set_same (w := w.drew.drew) h.cell
    have hf2 : (w.drew.drew.setCell ⟨gp, o, none⟩ (slV (some ⟨gb, 0, none⟩, n + 1, cap))).frozen? ⟨gp, o, none⟩ = false := (set_frozen (w := w.drew.drew) _).trans h.free
    have hh2 : (w.drew.drew.setCell ⟨gp, o, none⟩ (slV (some ⟨gb, 0, none⟩, n + 1, cap))).heap[gb]? = some (.cells cur tV) := (Below.heap_setCell _ _ _ _ h1).trans h3
    have k2 : Kp (On gp) w (w.drew.drew.setCell ⟨gp, o, none⟩ (slV (some ⟨gb, 0, none⟩, n + 1, cap))) := (((Kp.refl (On gp) w).drew).drew).on o _
    generalize w.drew.drew.setCell ⟨gp, o, none⟩ (slV (some ⟨gb, 0, none⟩, n + 1, cap)) = w2 at hc2 hf2 hh2 k2
    refine s_drew (s_ptr (s_load (some ⟨gb, 0, none⟩, n + 1, cap) (by rw [addr_add]; exact hc2) (s_ptr (s_load (some ⟨gb, 0, none⟩, n + 1, cap) (by rw [addr_add]; exact hc2) ?_))))
    have hn : n ≤ 1000000 := hn
    have ew2 : IntKind.wrap IntKind.i64 (((n + 1 : Nat) : Int) - (1 : Int)) = (n : Int) := by rw [wrap_in (by omega) (by omega)]; omega
    show sat _ (.chk (((0 : Int) ≤ IntKind.wrap IntKind.i64 (((n + 1 : Nat) : Int) - (1 : Int))) ∧ (IntKind.wrap IntKind.i64 (((n + 1 : Nat) : Int) - (1 : Int)) < ((n + 1 : Nat) : Int))) _) _ _
    refine s_chk (by rw [ew2]; omega) (s_ptr (s_leaf ⟨rfl, (some ⟨gb, 0, none⟩, n + 1, cap), (gb, n * 5), ?_, ?_, rfl, rfl, rfl, ?_, ?_, ?_⟩))
    · show Ending.returned (Value.pointer (some (Addr.add ⟨gb, 0, none⟩ (Int.toNat (IntKind.wrap IntKind.i64 (((n + 1 : Nat) : Int) - (1 : Int))) * 5)))) = _
      rw [ew2, Int.toNat_natCast, addr_add, Nat.zero_add]; rfl
    · exact ⟨hc2, hf2, .inr ⟨gb, n + 1, cap, cur, rfl, h1, g, hh2, h4, fun j g1 g2 => h5 j (by omega) g2⟩⟩
    · intro j u hj
      have hj5 : j < 5 := (List.getElem?_eq_some_iff.1 hj).1
      have := h5 (n * 5 + j) (by omega) (by omega)
      rw [vz_get n hj5, hj] at this
      refine ⟨?_, ?_⟩
      · show World.cell? w2 _ = _
        unfold World.cell?; rw [hh2]; exact this
      · show World.frozen? w2 _ = _
        unfold World.frozen?; rw [hh2]; simp
    · exact ⟨k2.size, .inl ⟨rfl, Nat.le_succ n⟩⟩
    · exact Kc.of k2.drew
  · -- none
    have hfull : ¬ x.2.1 < x.2.2 := by omega
    have hd : CS w.drew gp o x := h.off ((Kp.refl Off w).drew)
    refine s_ptr (s_load x (by rw [addr_add]; exact h.cell) ?_)
    obtain ⟨w1, hb, g2, c, cur, w2, ha, hg2, hc, hh2, hs2, hzr, k2⟩ := grow_run hd hfull hn
    refine s_eff (some ⟨w.drew.heap.size, 0, none⟩, 1, 1) hb (s_eff (some ⟨g2, 0, none⟩, x.2.1 + 1, c) ha ?_)
    have k2' : Kp Off w w2 := ((Kp.refl Off w).drew).trans k2
    have hcs := h.off k2'
    have hgp : g2 ≠ gp := fun e => by have := h.lt; have hg2 : w.heap.size ≤ g2 := hg2; omega
    refine s_ptr (s_store (by rw [addr_add]; exact hcs.cell) (by rw [addr_add]; exact hcs.free) ?_)
    show sat _ _ _ (w2.setCell (Addr.add ⟨gp, o, none⟩ 0) (slV (some ⟨g2, 0, none⟩, x.2.1 + 1, c)))
    rw [addr_add, Nat.add_zero]
    have hc2 : (w2.setCell ⟨gp, o, none⟩ (slV (some ⟨g2, 0, none⟩, x.2.1 + 1, c))).cell? ⟨gp, o, none⟩ = some (slV (some ⟨g2, 0, none⟩, x.2.1 + 1, c)) := set_same hcs.cell
    have hf2 : (w2.setCell ⟨gp, o, none⟩ (slV (some ⟨g2, 0, none⟩, x.2.1 + 1, c))).frozen? ⟨gp, o, none⟩ = false := (set_frozen _).trans hcs.free
    have hh3 : (w2.setCell ⟨gp, o, none⟩ (slV (some ⟨g2, 0, none⟩, x.2.1 + 1, c))).heap[g2]? = some (.cells cur tV) := (Below.heap_setCell _ _ _ _ hgp).trans hh2
    have k3 : Kp (On gp) w (w2.setCell ⟨gp, o, none⟩ (slV (some ⟨g2, 0, none⟩, x.2.1 + 1, c))) := (Kp.off k2').on o _
    generalize w2.setCell ⟨gp, o, none⟩ (slV (some ⟨g2, 0, none⟩, x.2.1 + 1, c)) = w3 at hc2 hf2 hh3 k3
    refine s_drew (s_ptr (s_load (some ⟨g2, 0, none⟩, x.2.1 + 1, c) (by rw [addr_add]; exact hc2) (s_ptr (s_load (some ⟨g2, 0, none⟩, x.2.1 + 1, c) (by rw [addr_add]; exact hc2) ?_))))
    have ew2 : IntKind.wrap IntKind.i64 (((x.2.1 + 1 : Nat) : Int) - (1 : Int)) = (x.2.1 : Int) := by rw [wrap_in (by omega) (by omega)]; omega
    show sat _ (.chk (((0 : Int) ≤ IntKind.wrap IntKind.i64 (((x.2.1 + 1 : Nat) : Int) - (1 : Int))) ∧ (IntKind.wrap IntKind.i64 (((x.2.1 + 1 : Nat) : Int) - (1 : Int)) < ((x.2.1 + 1 : Nat) : Int))) _) _ _
    have hlt3 : g2 < w3.heap.size := by
      rcases Nat.lt_or_ge g2 w3.heap.size with g' | g'
      · exact g'
      · rw [Array.getElem?_eq_none g'] at hh3; cases hh3
    refine s_chk (by rw [ew2]; omega) (s_ptr (s_leaf ⟨rfl, (some ⟨g2, 0, none⟩, x.2.1 + 1, c), (g2, x.2.1 * 5), ?_, ?_, rfl, rfl, rfl, ?_, ?_, ?_⟩))
    · show Ending.returned (Value.pointer (some (Addr.add ⟨g2, 0, none⟩ (Int.toNat (IntKind.wrap IntKind.i64 (((x.2.1 + 1 : Nat) : Int) - (1 : Int))) * 5)))) = _
      rw [ew2, Int.toNat_natCast, addr_add, Nat.zero_add]; rfl
    · exact ⟨hc2, hf2, .inr ⟨g2, x.2.1 + 1, c, cur, rfl, hgp, hc, hh3, hs2, fun j g1 g2 => hzr j (by omega) g2⟩⟩
    · intro j u hj
      have hj5 : j < 5 := (List.getElem?_eq_some_iff.1 hj).1
      have := hzr (x.2.1 * 5 + j) (by omega) (by omega)
      rw [vz_get x.2.1 hj5, hj] at this
      refine ⟨?_, ?_⟩
      · show World.cell? w3 _ = _
        unfold World.cell?; rw [hh3]; exact this
      · show World.frozen? w3 _ = _
        unfold World.frozen?; rw [hh3]; simp
    · exact ⟨k3.size, .inr ⟨⟨g2, 0, none⟩, rfl, hg2⟩⟩
    · exact Kc.of k3.drew
end Go.Proofs.YtkpnomdmnhhaoaaGreatDoor.Zv
