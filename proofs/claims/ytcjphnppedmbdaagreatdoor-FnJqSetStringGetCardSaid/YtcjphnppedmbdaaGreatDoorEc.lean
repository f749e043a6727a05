/- Appends to a row of bytes that may begin as a part of an array. No statement of the set is proved here. -/
import Derived.Test.YtcjphnppedmbdaaGreatDoorMD
import Derived.Deep.AppendSrc
namespace Go.Proofs.YtcjphnppedmbdaaGreatDoor.Bw
open Go Go.Proofs Go.RowKit Go.Proofs.YtcjphnppedmbdaaGreatDoor.Rx Go.Proofs.YtcjphnppedmbdaaGreatDoor.Pl
open Go.Proofs.YtcjphnppedmbdaaGreatDoor.Sr

/-- A row of bytes with room behind it, in block g, from base on. -/
structure RB (w : World) (base : Nat) (x : Sl) (l : List UInt8) : Prop where
  lt : base ≤ w.heap.size
  row : ∃ g cap, x = (some ⟨g, 0, none⟩, l.length, cap) ∧ base ≤ g ∧ g < w.heap.size ∧ l.length ≤ cap ∧ (∀ j u, l[j]? = some u → w.cell? ⟨g, j, none⟩ = some (bv u)) ∧ ∀ j, j < cap → (w.cell? ⟨g, j, none⟩).isSome = true ∧ w.frozen? ⟨g, j, none⟩ = false
theorem RB.len {w : World} {base : Nat} {x : Sl} {l : List UInt8} (h : RB w base x l) : x.2.1 = l.length := by obtain ⟨_, _, rfl, _⟩ := h.row; rfl
theorem kp_setCells {S : Nat → Prop} (g : Nat) (hg : S g) : ∀ (vs : List Value) (o : Nat) (w : World), Kp S w (w.setCells g o vs)
  | [], o, w => Kp.refl S w
  | v :: vs, o, w => by
    show Kp S w ((w.setCell ⟨g, o, none⟩ v).setCells g (o + 1) vs)
    exact ((Kp.refl S w).set (a := ⟨g, o, none⟩) hg v).trans (kp_setCells g hg vs (o + 1) _)
/-- n bytes more. -/
theorem RB.app {w : World} {base : Nat} {x : Sl} {l : List UInt8} (h : RB w base x l) {tx : TypeId} {v : Value} {bs : List UInt8} (hs : Src Tryz.prog 1 tx v bs.length (bs.map bv) w) (hn : l.length + bs.length ≤ 4294967296) :
    ∃ (x' : Sl) (w' : World), (Builtin.append_ #[tBs, tx] tBs #[slV x, v]).run Tryz.prog w = .ok (slV x') w' ∧ RB w' base x' (l ++ bs) ∧ Kp (fun q => base ≤ q) w w' := by
  obtain ⟨g, cap, rfl, hbg, hg, hlc, hc, ht⟩ := h.row
  have hi := info_some (P := Tryz.prog) (t := tB) (by kernel_rfl)
  generalize hI : (Tryz.prog.info? tB).get (by kernel_rfl) = ti at hi
  have hs1 : ti.size = 1 := by rw [← hI]; kernel_rfl
  have hb1 : ti.bytes = 1 := by rw [← hI]; kernel_rfl
  have hz0 : ti.zero = some (.int .u8 0) := by rw [← hI]; kernel_rfl
  have hs' : Src Tryz.prog ti.size tx v bs.length (bs.map bv) w := by rw [hs1]; exact hs
  by_cases hroom : l.length + bs.length ≤ cap
  · have hr := run_append_room_src (P := Tryz.prog) w tBs tx tBs tB ti Tryz.underlying66 hi g 0 l.length cap v bs.length (bs.map bv) hs' hroom (fun j hj => by
      rw [hs1, Nat.mul_one, Nat.zero_add]
      rw [List.length_map] at hj
      exact (ht _ (by omega)).1) (fun j hj => by
      rw [hs1, Nat.mul_one, Nat.zero_add]
      rw [List.length_map] at hj
      exact (ht _ (by omega)).2)
    rw [hs1, Nat.mul_one, Nat.zero_add] at hr
    have k := kp_setCells (S := fun q => base ≤ q) g hbg (bs.map bv) l.length w
    refine ⟨(some ⟨g, 0, none⟩, l.length + bs.length, cap), _, hr, ⟨Nat.le_trans h.lt k.size, g, cap, by rw [List.length_append], hbg, Nat.lt_of_lt_of_le hg k.size, by rw [List.length_append]; exact hroom, fun j u hj => ?_, fun j hj => ?_⟩, k⟩
    · rcases Nat.lt_or_ge j l.length with g1 | g1
      · rw [List.getElem?_append_left g1] at hj
        rw [World.cell?_setCells_out g _ _ _ _ (fun _ _ => .inl g1)]
        exact hc j u hj
      · rw [List.getElem?_append_right g1] at hj
        have hj2 : j - l.length < bs.length := (List.getElem?_eq_some_iff.1 hj).1
        have := World.cell?_setCells_in g (bs.map bv) l.length w (fun i hi => (ht _ (by rw [List.length_map] at hi; omega)).1) (j - l.length) (by rw [List.length_map]; exact hj2)
        rw [show l.length + (j - l.length) = j by omega] at this
        rw [this, List.getElem_map]
        exact congrArg (fun z => some (bv z)) (List.getElem?_eq_some_iff.1 hj).2
    · refine ⟨?_, by rw [World.frozen?_setCells]; exact (ht j hj).2⟩
      by_cases g1 : l.length ≤ j ∧ j < l.length + bs.length
      · have := World.cell?_setCells_in g (bs.map bv) l.length w (fun i hi => (ht _ (by rw [List.length_map] at hi; omega)).1) (j - l.length) (by rw [List.length_map]; omega)
        rw [show l.length + (j - l.length) = j by omega] at this
        rw [this]; rfl
      · rw [World.cell?_setCells_out g _ _ _ _ (fun _ _ => by rw [List.length_map]; show j < l.length ∨ l.length + bs.length ≤ j; omega)]
        exact (ht j hj).1
  · have hold : (Builtin.firstCells ti.size l.length (.slice (some ⟨g, 0, none⟩) l.length cap)).run Tryz.prog w.drew = .ok (l.map bv).toArray w.drew :=
      run_firstCells_some w.drew ti.size l.length ⟨g, 0, none⟩ l.length cap (l.map bv) (by rw [List.length_map, hs1, Nat.mul_one]) (fun j u hj => by
        rw [List.getElem?_map] at hj
        cases hu : l[j]? with
        | none => rw [hu] at hj; cases hj
        | some b =>
          rw [hu] at hj; cases hj
          rw [addr_add, Nat.zero_add]
          exact hc j b hu)
    have hr := run_append_grow_src (P := Tryz.prog) w tBs tx tBs tB ti (.int .u8 0) Tryz.underlying66 hi hz0 (some ⟨g, 0, none⟩) l.length cap (l.map bv) hold v bs.length (bs.map bv) hs' (by omega) (by omega) (growslice_fits (by omega) (by rw [hb1]; omega))
    have hge := grownCap_ge w (l.length + bs.length) cap tB
    generalize grownCap w (l.length + bs.length) cap tB = c' at hr hge
    generalize hO : ((l.map bv ++ bs.map bv).toArray ++ Builtin.zeroCells (Value.int .u8 0).cells (c' - (l.length + bs.length))) = O at hr
    have hOs : O.size = c' := by
      rw [← hO, Array.size_append, List.size_toArray, size_zeroCells, List.length_append, List.length_map, List.length_map]
      show _ + _ * 1 = _
      omega
    have k : Kp (fun q => base ≤ q) w (w.drew.alloc (.cells O tB)) := (Kp.refl _ w).drew.alloc _
    refine ⟨(some ⟨w.heap.size, 0, none⟩, l.length + bs.length, c'), _, hr, ⟨Nat.le_trans h.lt k.size, w.heap.size, c', by rw [List.length_append], h.lt, by simp, by rw [List.length_append]; exact hge, fun j u hj => ?_, fun j hj => ?_⟩, k⟩
    · have hh : (w.drew.alloc (.cells O tB)).heap[w.heap.size]? = some (.cells O tB) := heap_alloc_new w.drew _
      simp only [World.cell?, hh]
      have hj1 : j < (l ++ bs).length := (List.getElem?_eq_some_iff.1 hj).1
      rw [List.length_append] at hj1
      rw [← hO, Array.getElem?_append_left (by simp; omega), List.getElem?_toArray, ← List.map_append, List.getElem?_map, hj]; rfl
    · have hh : (w.drew.alloc (.cells O tB)).heap[w.heap.size]? = some (.cells O tB) := heap_alloc_new w.drew _
      simp only [World.cell?, World.frozen?, hh]
      rw [Array.getElem?_eq_getElem (by omega)]
      exact ⟨rfl, rfl⟩
theorem RB.alloc {w : World} {base : Nat} {x : Sl} {l : List UInt8} (h : RB w base x l) (o : Obj) : RB (w.alloc o) base x l := by
  obtain ⟨g, cap, rfl, hbg, hg, hlc, hc, ht⟩ := h.row
  have k : Kp Off w (w.alloc o) := (Kp.refl _ w).alloc _
  have hb := k.block g hg id
  exact ⟨Nat.le_trans h.lt k.size, g, cap, rfl, hbg, Nat.lt_of_lt_of_le hg k.size, hlc, fun j u hj => (World.cell?_of_block (a := ⟨g, j, none⟩) hb).trans (hc j u hj), fun j hj => ⟨by rw [World.cell?_of_block (a := ⟨g, j, none⟩) hb]; exact (ht j hj).1, (World.frozen?_of_block (a := ⟨g, j, none⟩) hb).trans (ht j hj).2⟩⟩
/-- Some bytes behind it. -/
theorem s_putB {Q : Nat → List Value → World → Prop} {w : World} {base : Nat} {x : Sl} {l : List UInt8} {ats : Array TypeId} {k : Nat} {parts : Array (Nat × Value)} {K : Sh.slice.Ty → T} (h : RB w base x l) (bs : List UInt8) (hn : l.length + bs.length ≤ 4294967296)
    (ha : ats = #[tBs, tBs]) (hp : parts = (bs.zipIdx.map fun q => (q.2, bv q.1)).toArray) (hk : k = bs.length) (h0 : bs ≠ []) (hz : bs.length ≤ 4096)
    (hK : ∀ (x' : Sl) (w' : World), RB w' base x' (l ++ bs) → Kp (fun q => base ≤ q) w w' → sat Tryz.prog (K x') Q w') :
    sat Tryz.prog (.eff (Instr.buildSlice tBs k parts) .slice fun z3 => .eff (Builtin.append_ ats tBs #[(Value.slice (x).1 ((x).2).1 ((x).2).2), (Value.slice (z3).1 ((z3).2).1 ((z3).2).2)]) .slice K) Q w := by
  subst ha; subst hp; subst hk
  refine s_eff (some ⟨w.heap.size, 0, none⟩, bs.length, bs.length) (make_run bs h0 hz) ?_
  have hB := h.alloc (.cells (bs.map bv).toArray tB)
  obtain ⟨x', w', h1, h2, h3⟩ := hB.app (tx := tBs) (v := .slice (some ⟨w.heap.size, 0, none⟩) bs.length bs.length) (bs := bs) (Src.ofSlice _ Tryz.underlying66 _ _ _ _ (by simp) (fun j u hj => by
    have := (Blk.new w (bs.map bv) tB).cell j
    simp only [addr_add, Nat.zero_add]
    rw [this, hj]) (fun u hu => by
    simp only [List.mem_map] at hu
    obtain ⟨b, _, rfl⟩ := hu; rfl)) hn
  exact s_eff x' h1 (hK x' w' h2 (((Kp.refl _ w).alloc _).trans h3))
theorem s_putT {Q : Nat → List Value → World → Prop} {w : World} {base : Nat} {x : Sl} {l : List UInt8} {ats : Array TypeId} {s : ByteArray} {K : Sh.slice.Ty → T} (h : RB w base x l) (hn : l.length + s.size ≤ 4294967296)
    (ha : ats = #[tBs, 9])
    (hK : ∀ (x' : Sl) (w' : World), RB w' base x' (l ++ s.data.toList) → Kp (fun q => base ≤ q) w w' → sat Tryz.prog (K x') Q w') :
    sat Tryz.prog (.eff (Builtin.append_ ats tBs #[(Value.slice (x).1 ((x).2).1 ((x).2).2), (Value.string s)]) .slice K) Q w := by
  subst ha
  have hsrc : Src Tryz.prog 1 9 (.string s) s.data.toList.length (s.data.toList.map bv) w := by
    have := Src.ofString (P := Tryz.prog) w (tx := 9) Tryz.underlying9 s
    have hz : s.data.toList.length = s.size := by rw [Array.length_toList]; rfl
    rw [hz]
    exact this
  have hz : s.data.toList.length = s.size := by rw [Array.length_toList]; rfl
  obtain ⟨x', w', h1, h2, h3⟩ := h.app hsrc (by rw [hz]; exact hn)
  exact s_eff x' h1 (hK x' w' h2 h3)
end Go.Proofs.YtcjphnppedmbdaaGreatDoor.Bw
