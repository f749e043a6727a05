/- The reference's Places. No statement of the set is proved here. -/
import Derived.Test.YtiganlecnpphmaaVv
namespace Go.Proofs.Ytiganlecnpphmaa.Sr
open Go Go.Proofs Go.Proofs.Ytiganlecnpphmaa.Rx Go.Proofs.Ytiganlecnpphmaa.Tr Go.Proofs.Ytiganlecnpphmaa.Pl

abbrev zp : List Value := pc 0 0 0 (none, 0, 0) (none, 0, 0)
/-- A place that is handed on: loaded, laid into the result's cells, loaded again. -/
theorem p_yes {w : World} {Q : Nat → List Value → World → Prop} {z0 z3 : Nat} {k b e : Int} {na ka : Sl} {c0 : List Value} (h3 : Blk w z3 (pc k b e na ka) tP) (h0 : Blk w z0 c0 tP) (hl : c0.length = 5)
    (hQ : ∀ w', Kp (On z0) w w' → Q 0 [.agg (pc k b e na ka).toArray, .bool true] w') :
    sat Try.prog (.eff (Instr.loadAt tP (Value.pointer (some ⟨z3, 0, none⟩))) (.agg (.cons (.int .i64) (.cons (.int .i64) (.cons (.int .i64) (.cons .slice (.cons .slice .nil)))))) fun (z24 : (Int × (Int × (Int × (((Option Addr) × (Nat × Nat)) × (((Option Addr) × (Nat × Nat)) × PUnit)))))) =>
      .effU (Instr.storeAt tP (Value.pointer (some ⟨z0, 0, none⟩)) (Value.agg #[(Value.int IntKind.i64 (z24).1), (Value.int IntKind.i64 ((z24).2).1), (Value.int IntKind.i64 (((z24).2).2).1), (Value.slice (((((z24).2).2).2).1).1 ((((((z24).2).2).2).1).2).1 ((((((z24).2).2).2).1).2).2), (Value.slice ((((((z24).2).2).2).2).1).1 (((((((z24).2).2).2).2).1).2).1 (((((((z24).2).2).2).2).1).2).2)])) <|
      .effS (Instr.loadAt tP (Value.pointer (some ⟨z0, 0, none⟩))) (.agg (.cons (.int .i64) (.cons (.int .i64) (.cons (.int .i64) (.cons .slice (.cons .slice .nil)))))) fun (z25 : (Int × (Int × (Int × (((Option Addr) × (Nat × Nat)) × (((Option Addr) × (Nat × Nat)) × PUnit)))))) =>
      .leaf 0 [(Value.agg #[(Value.int IntKind.i64 (z25).1), (Value.int IntKind.i64 ((z25).2).1), (Value.int IntKind.i64 (((z25).2).2).1), (Value.slice (((((z25).2).2).2).1).1 ((((((z25).2).2).2).1).2).1 ((((((z25).2).2).2).1).2).2), (Value.slice ((((((z25).2).2).2).2).1).1 (((((((z25).2).2).2).2).1).2).1 (((((((z25).2).2).2).2).1).2).2)]), (Value.bool true)]) Q w := by
  refine s_eff (k, b, e, na, ka, ()) (loadP h3) ?_
  obtain ⟨w2, h4, h5, h6⟩ := storeP h0 hl k b e na ka
  refine s_effU h4 ?_
  exact s_effS (k, b, e, na, ka, ()) (loadP h5) (s_leaf (hQ w2 h6))
theorem p_no {w : World} {Q : Nat → List Value → World → Prop} {z0 : Nat} {c0 : List Value} (h0 : Blk w z0 c0 tP) (hl : c0.length = 5)
    (hQ : ∀ w', Kp (On z0) w w' → Q 0 [.agg zp.toArray, .bool false] w') :
    sat Try.prog (.effU (Instr.storeAt tP (Value.pointer (some ⟨z0, 0, none⟩)) (Value.agg #[(Value.int IntKind.i64 (0 : Int)), (Value.int IntKind.i64 (0 : Int)), (Value.int IntKind.i64 (0 : Int)), (Value.slice none 0 0), (Value.slice none 0 0)])) <|
      .effS (Instr.loadAt tP (Value.pointer (some ⟨z0, 0, none⟩))) (.agg (.cons (.int .i64) (.cons (.int .i64) (.cons (.int .i64) (.cons .slice (.cons .slice .nil)))))) fun (z25 : (Int × (Int × (Int × (((Option Addr) × (Nat × Nat)) × (((Option Addr) × (Nat × Nat)) × PUnit)))))) =>
      .leaf 0 [(Value.agg #[(Value.int IntKind.i64 (z25).1), (Value.int IntKind.i64 ((z25).2).1), (Value.int IntKind.i64 (((z25).2).2).1), (Value.slice (((((z25).2).2).2).1).1 ((((((z25).2).2).2).1).2).1 ((((((z25).2).2).2).1).2).2), (Value.slice ((((((z25).2).2).2).2).1).1 (((((((z25).2).2).2).2).1).2).1 (((((((z25).2).2).2).2).1).2).2)]), (Value.bool false)]) Q w := by
  obtain ⟨w2, h4, h5, h6⟩ := storeP h0 hl 0 0 0 (none, 0, 0) (none, 0, 0)
  refine s_effU h4 ?_
  exact s_effS ((0 : Int), (0 : Int), (0 : Int), (none, 0, 0), (none, 0, 0), ()) (loadP h5) (s_leaf (hQ w2 h6))

/-- What a function that gives a place says. -/
def PlPost (w : World) (r : Option PT) (e : Ending) (w' : World) : Prop :=
  ∃ (k b e1 : Int) (na ka : Sl), e = .returned (.tuple #[.agg (pc k b e1 na ka).toArray, .bool r.isSome]) ∧ Kp Off w w' ∧ ∀ p, r = some p → PlAt (fun q => w.heap.size ≤ q) w' p (pc k b e1 na ka)
/-- The value that a JSON text is. -/
def places (s : ByteArray) : Option PT := (val s (bl s 0)).bind fun p => if bl s p.e = s.size then some p else none

/-- How both begin: the result's cells, and the reader's. -/
theorem r_new {w : World} (s : ByteArray) : ∃ wr, wr = (w.alloc (.cells zp.toArray tP (0, 0))).alloc (.cells #[.string (ByteArray.mk #[]), .int .i64 0] 48 (0, 0)) ∧
    (w.alloc (.cells zp.toArray tP (0, 0))).heap.size = w.heap.size + 1 ∧
    ∃ w1, (Instr.storeAt 48 (.pointer (some ⟨w.heap.size + 1, 0, none⟩)) (.agg #[.string s, .int .i64 0])).run Try.prog wr = .ok () w1 ∧ RdAt w1 (w.heap.size + 1) s 0 ∧ Blk w1 w.heap.size zp tP ∧ Kp Off w w1 ∧ w.heap.size + 2 ≤ w1.heap.size := by
  refine ⟨_, rfl, by simp, ?_⟩
  have hb0 := (Blk.new w zp tP).alloc (.cells #[.string (ByteArray.mk #[]), .int .i64 0] 48 (0, 0))
  have hbr := Blk.new (w.alloc (.cells zp.toArray tP (0, 0))) [.string (ByteArray.mk #[]), .int .i64 0] 48
  have hz : (w.alloc (.cells zp.toArray tP (0, 0))).heap.size = w.heap.size + 1 := by simp
  rw [hz] at hbr
  obtain ⟨w1, h1, h2, h3⟩ := storeAt_run (P := Try.prog) (t := 48) [.string s, .int .i64 (0 : Nat)] hbr (info_some (by kernel_rfl)) (by kernel_rfl) rfl rfl
  refine ⟨w1, h1, h2, h3.blk hb0 (fun e => by have : w.heap.size = w.heap.size + 1 := e; omega), ?_, ?_⟩
  · exact (((Kp.refl Off w).alloc _).alloc _).then h3 fun q hq e => by have : q = w.heap.size + 1 := e; omega
  · have := h3.size; simp at this; omega

theorem places_any {s : ByteArray} {w : World} (hs : s.size < 4294967295) : Calls Try.prog 10 #[.string s] w (PlPost w (places s)) := by
  have hs' : s.size < 4611686018427387904 := by omega
  refine spec_Places.calls _ ?_
  unfold spec_Places.t
  obtain ⟨wr, hwr, hz, w1, h1, hR1, hd1, k1, hz1⟩ := r_new (w := w) s
  refine s_alloc (s_allocE (w.heap.size + 1) hz wr hwr.symm (s_effU h1 ?_))
  have ne0 : ¬ On (w.heap.size + 1) w.heap.size := fun e => by have : w.heap.size = w.heap.size + 1 := e; omega
  refine s_call (blanks_any hs' (Nat.zero_le _) hR1) ?_
  rintro e w2 ⟨rfl, hR2, k2⟩
  refine ⟨(), rfl, ?_⟩
  have hb2 := bl_le s 0 (Nat.zero_le _)
  refine s_call (value_at hs hb2 w2 hR2) ?_
  rintro e w3 ⟨k, b, e1, na, ka, j, rfl, hj, hR3, k3, hp⟩
  refine ⟨((k, b, e1, na, ka, ()), (val s (bl s 0)).isSome, ()), rfl, ?_⟩
  have k13 := k2.trans k3
  have hd3 := k13.blk hd1 ne0
  have k03 : Kp Off w w3 := k1.then k13 fun q hq e => by have : q = w.heap.size + 1 := e; omega
  have hz3 : w.heap.size + 2 ≤ w3.heap.size := Nat.le_trans hz1 k13.size
  have hz2 : w.heap.size + 2 ≤ w2.heap.size := Nat.le_trans hz1 k2.size
  -- the copy
  refine s_alloc ?_
  obtain ⟨w4, h4, hc4, k4⟩ := storeP (Blk.new w3 zp tP) rfl k b e1 na ka
  refine s_effU h4 ?_
  have kc : Kp Off w3 w4 := (((Kp.refl (fun q => q = w3.heap.size) w3).alloc _).trans (k4.mono fun q _ h => h)).mono fun q hq h => by omega
  have hd4 := kc.blk hd3 (id : ¬ Off w.heap.size)
  have hR4 : RdAt w4 (w.heap.size + 1) s j := kc.blk hR3 (id : ¬ Off (w.heap.size + 1))
  have k04 := k03.trans kc
  have up : ∀ q, q < w3.heap.size → w2.heap.size ≤ q → (w.heap.size ≤ q ∧ q ≠ w.heap.size ∧ q ≠ w.heap.size + 1) ∧ ¬ Off q := fun q _ h => ⟨by omega, id⟩
  have fin : ∀ {w5 w6 : World} {r : Option PT} {k b e1 : Int} {na ka : Sl} {x : Bool}, x = r.isSome → Kp (On (w.heap.size + 1)) w4 w5 → Kp (On w.heap.size) w5 w6 → (∀ p, r = some p → PlAt (fun q => w.heap.size ≤ q ∧ q ≠ w.heap.size ∧ q ≠ w.heap.size + 1) w4 p (pc k b e1 na ka)) →
      PlPost w r (.returned (retVal [.agg (pc k b e1 na ka).toArray, .bool x])) w6 := by
    rintro w5 w6 r k b e1 na ka x rfl k5 k6 hp
    refine ⟨k, b, e1, na, ka, rfl, (k04.then k5 fun q hq e => by have : q = w.heap.size + 1 := e; omega).then k6 fun q hq e => by have : q = w.heap.size := e; omega, fun p hpp => ?_⟩
    have a := (hp p hpp).kp (B' := fun q => w.heap.size ≤ q ∧ q ≠ w.heap.size ∧ q ≠ w.heap.size + 1) k5 fun q _ h => ⟨h, fun e => h.2.2 e⟩
    exact a.kp k6 fun q _ h => ⟨h.1, fun e => h.2.1 e⟩
  cases hv : val s (bl s 0) with
  | none =>
    refine sat_iteT.2 (p_no hd4 rfl fun w6 k6 => ⟨rfl, ?_⟩)
    exact fin (by rw [places, hv]; rfl) (Kp.refl _ _) k6 fun p hp => by rw [places, hv] at hp; cases hp
  | some p =>
    obtain ⟨rfl, hP⟩ := hp p hv
    have hP4 := (hP.kp (Kp.refl Off w3) up).kp (B' := fun q => w.heap.size ≤ q ∧ q ≠ w.heap.size ∧ q ≠ w.heap.size + 1) kc fun q _ h => ⟨h, fun e => e⟩
    refine sat_iteF.2 ?_
    refine s_call (blanks_any hs' hj hR4) ?_
    rintro e w5 ⟨rfl, hR5, k5⟩
    refine ⟨(), rfl, ?_⟩
    simp only [addr_add, Nat.zero_add]
    refine s_load ((bl s p.e : Nat) : Int) (hR5.cell 1) ?_
    have hd5 := k5.blk hd4 ne0
    have hc5 := k5.blk hc4 (fun e => by have : w3.heap.size = w.heap.size + 1 := e; omega)
    refine s_iteN (fun h => ?_) (fun h => ?_)
    · have hpl : places s = none := by rw [places, hv]; exact if_neg (by omega)
      refine p_no hd5 rfl fun w6 k6 => ⟨rfl, ?_⟩
      exact fin (by rw [hpl]; rfl) k5 k6 fun p hp => by rw [hpl] at hp; cases hp
    · have hpl : places s = some p := by rw [places, hv]; exact if_pos (by omega)
      refine p_yes hc5 hd5 rfl fun w6 k6 => ⟨rfl, ?_⟩
      exact fin (by rw [hpl]; rfl) k5 k6 fun p' hp => by rw [hpl] at hp; cases hp; exact hP4
end Go.Proofs.Ytiganlecnpphmaa.Sr
