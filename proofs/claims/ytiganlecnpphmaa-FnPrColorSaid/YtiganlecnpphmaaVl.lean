/- The reference's reader: values, members and elements: what they say is what 'val' says. No statement of the set is proved here. -/
import Derived.Test.YtiganlecnpphmaaSs
import Derived.Test.YtiganlecnpphmaaPm
import Derived.Test.YtiganlecnpphmaaTv
namespace Go.Proofs.Ytiganlecnpphmaa.Sr
open Go Go.Proofs Go.Proofs.Ytiganlecnpphmaa.Rx Go.Proofs.Ytiganlecnpphmaa.Tr Go.Proofs.Ytiganlecnpphmaa.Pl

abbrev tP : TypeId := 29
abbrev tPs : TypeId := 27
abbrev tN : TypeId := 66
abbrev tNs : TypeId := 26
theorem push_place {w : World} {base : Nat} {x : Sl} {n : Nat} {xs : List Value} (hown : w.ownsRow base tP 5 (slV x) n xs) (k b e : Int) (na ka : Sl) (hn : n + 1 ≤ 4294967296) (hbase : base ≤ w.heap.size) :
    ∃ w1, (Instr.buildSlice tPs 1 #[(0, .agg (pc k b e na ka).toArray)]).run Try.prog w = .ok (.slice (some ⟨w.heap.size, 0, none⟩) 1 1) w1 ∧
      ∃ (x' : Sl) (w2 : World), (Builtin.append_ #[tPs, tPs] tPs #[slV x, .slice (some ⟨w.heap.size, 0, none⟩) 1 1]).run Try.prog w1 = .ok (slV x') w2 ∧ w2.ownsRow base tP 5 (slV x') (n + 1) (xs ++ pc k b e na ka) ∧
        Kp (fun q => some q = (slV x).ownBlock) w w2 ∧ (∀ q, some q = (slV x').ownBlock → some q = (slV x).ownBlock ∨ w.heap.size ≤ q) := by
  obtain ⟨w1, h1, a, c, w2, h2, h3, h4, h5⟩ := push_run (P := Try.prog) (t := tPs) (e := tP) (z0 := .agg (pc 0 0 0 (none, 0, 0) (none, 0, 0)).toArray) Try.underlying27 (info_some (by kernel_rfl)) (by kernel_rfl) (by kernel_rfl)
    (of_decide_eq_true (by kernel_rfl)) rfl (by decide) (by decide) hown (.agg (pc k b e na ka).toArray) (pc k b e na ka) rfl rfl (pc_oneC _ _ _ _ _) hn hbase
  exact ⟨w1, h1, (a, n + 1, c), w2, h2, h3, h4, h5⟩
theorem push_span {w : World} {base : Nat} {x : Sl} {n : Nat} {xs : List Value} (hown : w.ownsRow base tN 2 (slV x) n xs) (b e : Nat) (hn : n + 1 ≤ 4294967296) (hbase : base ≤ w.heap.size) :
    ∃ w1, (Instr.buildSlice tNs 1 #[(0, .agg #[.int .i64 b, .int .i64 e])]).run Try.prog w = .ok (.slice (some ⟨w.heap.size, 0, none⟩) 1 1) w1 ∧
      ∃ (x' : Sl) (w2 : World), (Builtin.append_ #[tNs, tNs] tNs #[slV x, .slice (some ⟨w.heap.size, 0, none⟩) 1 1]).run Try.prog w1 = .ok (slV x') w2 ∧ w2.ownsRow base tN 2 (slV x') (n + 1) (xs ++ spanC (b, e)) ∧
        Kp (fun q => some q = (slV x).ownBlock) w w2 ∧ (∀ q, some q = (slV x').ownBlock → some q = (slV x).ownBlock ∨ w.heap.size ≤ q) := by
  obtain ⟨w1, h1, a, c, w2, h2, h3, h4, h5⟩ := push_run (P := Try.prog) (t := tNs) (e := tN) (z0 := .agg #[.int .i64 0, .int .i64 0]) Try.underlying26 (info_some (by kernel_rfl)) (by kernel_rfl) (by kernel_rfl)
    (of_decide_eq_true (by kernel_rfl)) rfl (by decide) (by decide) hown (.agg #[.int .i64 b, .int .i64 e]) (spanC (b, e)) rfl rfl (by intro u hu; simp [spanC] at hu; rcases hu with rfl | rfl <;> rfl) hn hbase
  exact ⟨w1, h1, (a, n + 1, c), w2, h2, h3, h4, h5⟩
theorem loadP {w : World} {g : Nat} {k b e : Int} {na ka : Sl} (h : Blk w g (pc k b e na ka) tP) : (Instr.loadAt tP (.pointer (some ⟨g, 0, none⟩))).run Try.prog w = .ok (.agg (pc k b e na ka).toArray) w :=
  loadAt_run (by kernel_rfl) (info_some (by kernel_rfl)) (by kernel_rfl) h
theorem storeP {w : World} {g : Nat} {cs : List Value} (h : Blk w g cs tP) (hl : cs.length = 5) (k b e : Int) (na ka : Sl) :
    ∃ w', (Instr.storeAt tP (.pointer (some ⟨g, 0, none⟩)) (.agg (pc k b e na ka).toArray)).run Try.prog w = .ok () w' ∧ Blk w' g (pc k b e na ka) tP ∧ Kp (On g) w w' :=
  storeAt_run (P := Try.prog) (t := tP) (pc k b e na ka) h (info_some (by kernel_rfl)) (by kernel_rfl) (by rw [hl]; rfl) rfl

def ValPost (g : Nat) (s : ByteArray) (w : World) (r : Option PT) (e : Ending) (w' : World) : Prop :=
  ∃ (k b e1 : Int) (na ka : Sl) (j : Nat), e = .returned (.tuple #[.agg (pc k b e1 na ka).toArray, .bool r.isSome]) ∧ j ≤ s.size ∧ RdAt w' g s j ∧ Kp (On g) w w' ∧ ∀ p, r = some p → j = p.e ∧ PlAt (fun q => w.heap.size ≤ q) w' p (pc k b e1 na ka)
def elems0 (s : ByteArray) (i : Nat) : Option (List PT × Nat) := if bt s (bl s (i + 1)) = 93 then some ([], bl s (i + 1) + 1) else elems s (bl s (i + 1))
def mems0 (s : ByteArray) (i : Nat) : Option (List (Nat × Nat) × List PT × Nat) := if bt s (bl s (i + 1)) = 125 then some ([], [], bl s (i + 1) + 1) else mems s (bl s (i + 1))
def ElPost (g : Nat) (s : ByteArray) (w : World) (r : Option (List PT × Nat)) (e : Ending) (w' : World) : Prop :=
  ∃ (ka : Sl) (j : Nat), e = .returned (.tuple #[slV ka, .bool r.isSome]) ∧ j ≤ s.size ∧ RdAt w' g s j ∧ Kp (On g) w w' ∧
    ∀ x, r = some x → j = x.2 ∧ ∃ xs, RowIn (fun q => w.heap.size ≤ q) w' ka x.1.length xs 5 ∧ AllAt (fun q => w.heap.size ≤ q) w' x.1 xs
def MePost (g : Nat) (s : ByteArray) (w : World) (r : Option (List (Nat × Nat) × List PT × Nat)) (e : Ending) (w' : World) : Prop :=
  ∃ (na ka : Sl) (j : Nat), e = .returned (.tuple #[slV na, slV ka, .bool r.isSome]) ∧ j ≤ s.size ∧ RdAt w' g s j ∧ Kp (On g) w w' ∧
    ∀ x, r = some x → j = x.2.2 ∧ RowIn (fun q => w.heap.size ≤ q) w' na x.1.length (x.1.flatMap spanC) 2 ∧ ∃ xs, RowIn (fun q => w.heap.size ≤ q) w' ka x.2.1.length xs 5 ∧ AllAt (fun q => w.heap.size ≤ q) w' x.2.1 xs
/-- What is asked of 'value' at a place. -/
def ValAt (g : Nat) (s : ByteArray) (i : Nat) : Prop := ∀ w, RdAt w g s i → Calls Try.prog 15 #[.pointer (some ⟨g, 0, none⟩)] w (ValPost g s w (val s i))

/-- How 'value' ends. -/
theorem v_end {w : World} {Q : Nat → List Value → World → Prop} {g z0 z3 j : Nat} {s : ByteArray} {k b0 e0 : Int} {na ka : Sl} {c0 : List Value} {b : Bool} (hR : RdAt w g s j) (h3 : Blk w z3 (pc k b0 e0 na ka) tP) (h0 : Blk w z0 c0 tP) (hl : c0.length = 5)
    (hz : z0 ≠ z3) (hQ : ∀ w', Kp (fun q => q = z3 ∨ q = z0) w w' → Q 0 [.agg (pc k b0 j na ka).toArray, .bool b] w') :
    sat Try.prog (.ptr (some ⟨g, 0, none⟩) fun (z22 : Addr) =>
      .load (Addr.add z22 1) (.int .i64) fun (i23 : Int) =>
      .store (Addr.add ⟨z3, 0, none⟩ 2) (Value.int IntKind.i64 i23) <|
      .eff (Instr.loadAt tP (Value.pointer (some ⟨z3, 0, none⟩))) (.agg (.cons (.int .i64) (.cons (.int .i64) (.cons (.int .i64) (.cons .slice (.cons .slice .nil)))))) fun (z24 : (Int × (Int × (Int × (((Option Addr) × (Nat × Nat)) × (((Option Addr) × (Nat × Nat)) × PUnit)))))) =>
      .effU (Instr.storeAt tP (Value.pointer (some ⟨z0, 0, none⟩)) (Value.agg #[(Value.int IntKind.i64 (z24).1), (Value.int IntKind.i64 ((z24).2).1), (Value.int IntKind.i64 (((z24).2).2).1), (Value.slice (((((z24).2).2).2).1).1 ((((((z24).2).2).2).1).2).1 ((((((z24).2).2).2).1).2).2), (Value.slice ((((((z24).2).2).2).2).1).1 (((((((z24).2).2).2).2).1).2).1 (((((((z24).2).2).2).2).1).2).2)])) <|
      .effS (Instr.loadAt tP (Value.pointer (some ⟨z0, 0, none⟩))) (.agg (.cons (.int .i64) (.cons (.int .i64) (.cons (.int .i64) (.cons .slice (.cons .slice .nil)))))) fun (z25 : (Int × (Int × (Int × (((Option Addr) × (Nat × Nat)) × (((Option Addr) × (Nat × Nat)) × PUnit)))))) =>
      .leaf 0 [(Value.agg #[(Value.int IntKind.i64 (z25).1), (Value.int IntKind.i64 ((z25).2).1), (Value.int IntKind.i64 (((z25).2).2).1), (Value.slice (((((z25).2).2).2).1).1 ((((((z25).2).2).2).1).2).1 ((((((z25).2).2).2).1).2).2), (Value.slice ((((((z25).2).2).2).2).1).1 (((((((z25).2).2).2).2).1).2).1 (((((((z25).2).2).2).2).1).2).2)]), (Value.bool b)]) Q w := by
  refine s_ptr ?_
  simp only [addr_add, Nat.zero_add]
  refine s_load (j : Int) (hR.cell 1) (s_store (h3.cell 2) (h3.free 2) ?_)
  have h3' : Blk _ z3 (pc k b0 j na ka) tP := h3.set 2 (.int .i64 j)
  have h0' := h0.setOther (a := ⟨z3, 2, none⟩) (fun e => hz e.symm) (.int .i64 j)
  have k1 : Kp (fun q => q = z3 ∨ q = z0) w _ := (Kp.refl _ w).set (a := ⟨z3, 2, none⟩) (Or.inl rfl) (.int .i64 j)
  refine s_eff (k, b0, (j : Int), na, ka, ()) (loadP h3') ?_
  obtain ⟨w2, h4, h5, h6⟩ := storeP h0' hl k b0 j na ka
  refine s_effU h4 ?_
  refine s_effS (k, b0, (j : Int), na, ka, ()) (loadP h5) (s_leaf ?_)
  exact hQ w2 (k1.trans (h6.mono fun q _ e => .inr e))

theorem val_arr {s : ByteArray} {i : Nat} (h : bt s i = 91) : val s i = (elems0 s i).map fun x => .mk 5 i x.2 [] x.1 := by
  rw [val, dif_neg (by omega), dif_pos h, elems0]
  split
  · rfl
  · cases elems s (bl s (i + 1)) <;> rfl
theorem val_obj {s : ByteArray} {i : Nat} (h : bt s i = 123) : val s i = (mems0 s i).map fun x => .mk 6 i x.2.2 x.1 x.2.1 := by
  rw [val, dif_pos h, mems0]
  split
  · rfl
  · cases mems s (bl s (i + 1)) <;> rfl
theorem elems_none {s : ByteArray} {i : Nat} (h : val s i = none) : elems s i = none := by rw [elems, h]
theorem elems_last {s : ByteArray} {i : Nat} {p : PT} (h : val s i = some p) (h' : bt s (bl s p.e) = 93) : elems s i = some ([p], bl s p.e + 1) := by
  rw [elems, h]; simp only; rw [if_pos h']
theorem elems_more {s : ByteArray} {i : Nat} {p : PT} (hi : i ≤ s.size) (h : val s i = some p) (h' : bt s (bl s p.e) = 44) : elems s i = (elems s (bl s (bl s p.e + 1))).map fun x => (p :: x.1, x.2) := by
  rw [elems, h]; simp only
  have := (val_end hi h).2.1
  have := bl_ge s p.e
  rw [if_neg (by omega), dif_pos ⟨h', by omega⟩]
  cases elems s (bl s (bl s p.e + 1)) <;> rfl
theorem elems_bad {s : ByteArray} {i : Nat} {p : PT} (h : val s i = some p) (h1 : bt s (bl s p.e) ≠ 93) (h2 : bt s (bl s p.e) ≠ 44) : elems s i = none := by
  rw [elems, h]; simp only; rw [if_neg h1, dif_neg (fun e => h2 e.1)]
theorem mems_q {s : ByteArray} {i : Nat} (h : bt s i ≠ 34) : mems s i = none := by rw [mems, if_neg h]
theorem mems_s {s : ByteArray} {i : Nat} (h : bt s i = 34) (h' : strE s (i + 1) = none) : mems s i = none := by rw [mems, if_pos h, h']
theorem mems_c {s : ByteArray} {i n : Nat} (h : bt s i = 34) (h' : strE s (i + 1) = some n) (h2 : bt s (bl s n) ≠ 58) : mems s i = none := by rw [mems, if_pos h, h']; simp only; rw [dif_neg (fun e => h2 e.1)]
theorem mems_v {s : ByteArray} {i n : Nat} (h : bt s i = 34) (h' : strE s (i + 1) = some n) (h2 : bt s (bl s n) = 58) : mems s i = match val s (bl s (bl s n + 1)) with
    | none => none
    | some p =>
      if bt s (bl s p.e) = 125 then some ([(i, n)], [p], bl s p.e + 1)
      else if bt s (bl s p.e) = 44 then (mems s (bl s (bl s p.e + 1))).map fun x => ((i, n) :: x.1, p :: x.2.1, x.2.2)
      else none := by
  have h3 := strE_le h'
  have h4 := bl_ge s n
  have h5 : bl s n < s.size := lt_of_bt (by omega)
  have h6 := bl_ge s (bl s n + 1)
  rw [mems, if_pos h, h']; simp only; rw [dif_pos ⟨h2, by omega⟩]
  cases hv : val s (bl s (bl s n + 1)) with
  | none => rfl
  | some p =>
    simp only
    have h7 : bl s (bl s n + 1) < p.e := (val_end (bl_le s _ h5) hv).2.1
    have h8 := bl_ge s p.e
    split
    · rfl
    · by_cases hc : bt s (bl s p.e) = 44
      · rw [dif_pos ⟨hc, by omega⟩, if_pos hc]
        cases mems s (bl s (bl s p.e + 1)) <;> rfl
      · rw [dif_neg (fun e => hc e.1), if_neg hc]
end Go.Proofs.Ytiganlecnpphmaa.Sr
