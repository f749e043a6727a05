/- Just null, and what does not exist, count as null. No condition beyond the statement's own guards. -/
import Derived.Test.YtdjilnhalpmabaaRk
import Derived.Test.YtdjilnhalpmabaaTr
import Derived.Test.YtdjilnhalpmabaaAg
namespace Go.Proofs.Ytdjilnhalpmabaa.LawNullish
open Go Go.Proofs Go.Proofs.Ytdjilnhalpmabaa.Rx Go.Proofs.Ytdjilnhalpmabaa.Tr

def five (r0 : Int) (r1 r2 : ByteArray) (r3 : Nat) (r4 : Bool) : List Value := [.int .i64 r0, .string r1, .string r2, .float .f64 r3, .bool r4]
def six (r0 : Int) (r1 r2 : ByteArray) (r3 : Nat) : List Value := [.int .i64 r0, .string r1, .string r2, .float .f64 r3, .int .i64 0, .slice none 0 0]
theorem load5 {w : World} {g : Nat} {r0 : Int} {r1 r2 : ByteArray} {r3 : Nat} {r4 : Bool} (h : Blk w g (five r0 r1 r2 r3 r4) 24) :
    (Instr.loadAt 24 (.pointer (some ⟨g, 0, none⟩))).run Try.prog w = .ok (.agg (five r0 r1 r2 r3 r4).toArray) w :=
  loadAt_run (by kernel_rfl) (info_some (by kernel_rfl)) (by kernel_rfl) h
theorem load6 {w : World} {g : Nat} {r0 : Int} {r1 r2 : ByteArray} {r3 : Nat} (h : Blk w g (six r0 r1 r2 r3) 51) :
    (Instr.loadAt 51 (.pointer (some ⟨g, 0, none⟩))).run Try.prog w = .ok (.agg (six r0 r1 r2 r3).toArray) w :=
  loadAt_run (by kernel_rfl) (info_some (by kernel_rfl)) (by kernel_rfl) h
theorem fits_any (r0 : Int) (r1 r2 : ByteArray) (r3 : Nat) (r4 : Bool) (w : World) :
    Calls Try.prog 9 #[.agg (five r0 r1 r2 r3 r4).toArray] w fun e w' => (∃ b, e = .returned (.bool b)) ∧ Kp Off w w' := by
  refine laws_zzFits4.calls _ _ _ _ _ ?_
  unfold laws_zzFits4.t
  refine s_alloc ?_
  have hb := Blk.new w (five r0 r1 r2 r3 r4) 24
  have k : Kp Off w _ := (Kp.refl Off w).alloc (.cells (five r0 r1 r2 r3 r4).toArray 24 (0, 0))
  have c1 := hb.cell 1
  have c2 := hb.cell 2
  simp only [addr_add, Nat.zero_add]
  refine s_load r1 c1 ?_
  refine s_iteD (fun _ => s_leaf ⟨rfl, ⟨_, rfl⟩, k⟩) (fun _ => ?_)
  refine s_load r2 c2 ?_
  exact s_iteD (fun _ => s_leaf ⟨rfl, ⟨_, rfl⟩, k⟩) (fun _ => s_leaf ⟨rfl, ⟨_, rfl⟩, k⟩)
theorem gjOf_any (r0 : Int) (r1 r2 : ByteArray) (r3 : Nat) (r4 : Bool) (w : World) :
    Calls Try.prog 22 #[.agg (five r0 r1 r2 r3 r4).toArray] w fun e w' => e = .returned (.agg (six r0 r1 r2 r3).toArray) ∧ Kp Off w w' := by
  refine impl_gjOf.calls _ _ _ _ _ ?_
  unfold impl_gjOf.t
  refine s_alloc (s_alloc ?_)
  have hb := Blk.new w (five r0 r1 r2 r3 r4) 24
  have k : Kp Off w _ := (Kp.refl Off w).alloc (.cells (five r0 r1 r2 r3 r4).toArray 24 (0, 0))
  have hb1 := hb.alloc (.cells (six 0 (ByteArray.mk #[]) (ByteArray.mk #[]) 0).toArray 51 (0, 0))
  have hb2 := Blk.new (w.alloc (.cells (five r0 r1 r2 r3 r4).toArray 24 (0, 0))) (six 0 (ByteArray.mk #[]) (ByteArray.mk #[]) 0) 51
  have k1 := k.alloc (.cells (six 0 (ByteArray.mk #[]) (ByteArray.mk #[]) 0).toArray 51 (0, 0))
  simp only [addr_add, Nat.zero_add]
  refine s_load r0 (hb1.cell 0) (s_load r1 (hb1.cell 1) (s_load r2 (hb1.cell 2) (s_load r3 (hb1.cell 3) ?_)))
  obtain ⟨w1, h1, h2, h3⟩ := storeAt_run (P := Try.prog) (t := 51) (six r0 r1 r2 r3) hb2 (info_some (by kernel_rfl)) (by kernel_rfl) rfl rfl
  refine s_effU h1 ?_
  refine s_effS (r0, r1, r2, r3, (0 : Int), (none, 0, 0), ()) (load6 h2) ?_
  refine s_leaf ⟨rfl, rfl, ?_⟩
  refine (k1.mono (S' := fun k => k = w.heap.size + 1) fun _ _ c => c.elim).trans (h3.mono fun k _ h => ?_) |>.mono ?_
  · have : k = (w.alloc (.cells (five r0 r1 r2 r3 r4).toArray 24 (0, 0))).heap.size := h
    simpa using this
  · intro k hk h
    omega
theorem nullish_any (r0 : Int) (r1 r2 : ByteArray) (r3 : Nat) (r4 : Bool) (w : World) :
    Calls Try.prog 10 #[.agg (five r0 r1 r2 r3 r4).toArray] w fun e w' => e = .returned (.bool (r0 == 0)) ∧ Kp Off w w' := by
  refine impl_GjNullish.calls _ _ _ _ _ ?_
  unfold impl_GjNullish.t
  refine s_alloc ?_
  have hb := Blk.new w (five r0 r1 r2 r3 r4) 24
  have k : Kp Off w _ := (Kp.refl Off w).alloc (.cells (five r0 r1 r2 r3 r4).toArray 24 (0, 0))
  refine s_eff (r0, r1, r2, r3, r4, ()) (load5 hb) ?_
  refine s_call (gjOf_any r0 r1 r2 r3 r4 _) ?_
  rintro e w1 ⟨rfl, k1⟩
  refine ⟨(r0, r1, r2, r3, (0 : Int), (none, 0, 0), ()), rfl, ?_⟩
  refine s_call (R := fun e w' => e = .returned (.bool (r0 == 0)) ∧ Kp Off w1 w') ?_ ?_
  · refine gjson_DoorNullish.calls _ _ _ _ _ _ _ _ ?_
    unfold gjson_DoorNullish.t
    refine s_alloc ?_
    have hb := Blk.new w1 (six r0 r1 r2 r3) 51
    have k2 : Kp Off w1 _ := (Kp.refl Off w1).alloc (.cells (six r0 r1 r2 r3).toArray 51 (0, 0))
    refine s_eff (r0, r1, r2, r3, (0 : Int), (none, 0, 0), ()) (load6 hb) ?_
    refine s_call (R := fun e w' => e = .returned (.bool (r0 == 0)) ∧ Kp Off w1 w') ?_ ?_
    · refine gjson_nullish.calls _ _ _ _ _ _ _ _ ?_
      unfold gjson_nullish.t
      refine s_alloc ?_
      have hb := Blk.new (w1.alloc (.cells (six r0 r1 r2 r3).toArray 51 (0, 0))) (six r0 r1 r2 r3) 51
      have k3 := k2.alloc (.cells (six r0 r1 r2 r3).toArray 51 (0, 0))
      simp only [addr_add, Nat.zero_add]
      refine s_load r0 (hb.cell 0) ?_
      exact s_leaf ⟨rfl, rfl, k3⟩
    · rintro e w2 ⟨rfl, k4⟩
      exact ⟨_, rfl, s_leaf ⟨rfl, rfl, k4⟩⟩
  · rintro e w2 ⟨rfl, k2⟩
    exact ⟨_, rfl, s_leaf ⟨rfl, rfl, (k.trans k1).trans k2⟩⟩
theorem walk5 (r0 : Int) (r1 r2 : ByteArray) (r3 : Nat) (r4 : Bool) (w : World) :
    Calls Try.prog 3 #[.agg (five r0 r1 r2 r3 r4).toArray] w fun e w' => e = .returned (.bool true) ∧ RowKit.Below w.heap.size w w' := by
  refine laws_FnGjNullish.calls _ _ _ _ _ ?_
  unfold laws_FnGjNullish.t
  refine s_alloc ?_
  have hb := Blk.new w (five r0 r1 r2 r3 r4) 24
  have k : Kp Off w _ := (Kp.refl Off w).alloc (.cells (five r0 r1 r2 r3 r4).toArray 24 (0, 0))
  refine s_eff (r0, r1, r2, r3, r4, ()) (load5 hb) ?_
  refine s_call (fits_any r0 r1 r2 r3 r4 _) ?_
  rintro e w1 ⟨⟨b, rfl⟩, k1⟩
  refine ⟨b, rfl, ?_⟩
  have k2 := k.trans k1
  cases b with
  | false => exact sat_iteT.2 (s_leaf ⟨rfl, rfl, k2.belowOff⟩)
  | true =>
    refine sat_iteF.2 (s_drew ?_)
    have hb1 : Blk w1.drew w.heap.size (five r0 r1 r2 r3 r4) 24 := (k1.blk hb (fun h => h)).drew
    have k3 := k2.drew
    have grow : ∀ w', RowKit.Below w1.drew.heap.size w1.drew w' → Kp Off w w' := fun w' h => k3.trans (.of_below h)
    simp only [addr_add, Nat.zero_add]
    refine s_load r0 (hb1.cell 0) ?_
    refine s_iteD (fun _ => fun w' h => ⟨rfl, rfl, (grow w' h).belowOff⟩) (fun _ => ?_)
    refine s_load r0 (hb1.cell 0) ?_
    refine s_iteD (fun _ => fun w' h => ⟨rfl, rfl, (grow w' h).belowOff⟩) (fun _ => ?_)
    refine ⟨(r0, r1, r2, r3, r4, ()), fun w' h => ?_, ?_⟩
    · have kk : Kp Off w1.drew w' := .of_below h
      exact load5 (kk.blk hb1 (fun h => h))
    refine ⟨r0 == 0, fun w' h => ?_, ?_⟩
    · refine (nullish_any r0 r1 r2 r3 r4 w').mono ?_
      rintro e w'' ⟨rfl, k4⟩
      exact ⟨rfl, ((Kp.of_below (S := Off) h).trans k4).belowOff⟩
    refine s_load r0 (hb1.cell 0) ?_
    intro w' h
    refine ⟨rfl, ?_, (grow w' h).belowOff⟩
    simp [retVal]
open Go.ChangeShapes Go.WideShapes in
/-- The law's parameter opened. -/
theorem walk {H : Type} {enc : TypeId × Value → H} {base : Nat} {spare : Nat → Bool} {held : Bool} {r : Reach} {b0 : Nat} (v : Value) (W : World) {d : DataW H} {p : List MemPlace}
    (hv : Value.okWide Try.prog W r b0 24 v) (h : DataW.Trod enc Try.prog W base spare held 24 v d p) :
    Calls Try.prog 3 #[v] W fun e w' => e = .returned (.bool true) ∧ RowKit.Below W.heap.size W w' := by
  obtain ⟨cs, n, rfl, hl, hf⟩ := Ag.open_cells Try.underlying24 (by kernel_rfl) (by kernel_rfl) hv h
  match cs, hl with
  | [c0, c1, c2, c3, c4], _ =>
    obtain ⟨_, h0⟩ := hf 0 _ c0 rfl rfl
    obtain ⟨_, h1⟩ := hf 1 _ c1 rfl rfl
    obtain ⟨_, h2⟩ := hf 2 _ c2 rfl rfl
    obtain ⟨_, h3⟩ := hf 3 _ c3 rfl rfl
    obtain ⟨_, h4⟩ := hf 4 _ c4 rfl rfl
    obtain ⟨r0, e0, _⟩ := DataW.trod_int Try.underlying3 h0
    obtain ⟨r1, e1, _⟩ := DataW.trod_string Try.underlying9 h1
    obtain ⟨r2, e2, _⟩ := DataW.trod_string Try.underlying9 h2
    obtain ⟨r3, rfl⟩ := Ag.trod_float Try.underlying22 h3
    obtain ⟨r4, e4, _⟩ := DataW.trod_bool Try.underlying4 h4
    cases e0; cases e1; cases e2; cases e4
    exact walk5 r0 r1 r2 r3 r4 W
end Go.Proofs.Ytdjilnhalpmabaa.LawNullish
