/- The law FnFjNumberUint: its walk. No condition beyond the statement's own guards. -/
import Derived.Test.YtbmmpnjpejamaaaDoorNw
import Derived.Test.YtbmmpnjpejamaaaDoorRows
import Derived.Stop.LaidErr
import Derived.OpenShut
namespace Go.Proofs.YtbmmpnjpejamaaaDoor.LawFjNumberUint
open Go Go.Proofs Go.RowKit Go.Proofs.YtbmmpnjpejamaaaDoor.Rx Go.Proofs.YtbmmpnjpejamaaaDoor.Tr Go.Proofs.YtbmmpnjpejamaaaDoor.Pl Go.Proofs.YtbmmpnjpejamaaaDoor.Ui Go.Proofs.YtbmmpnjpejamaaaDoor.Nu

theorem new_blk {w w1 : World} {cs : List Value} {t : TypeId} (h : w.alloc (.cells cs.toArray t (0, 0)) = w1) : Blk w1 w.heap.size cs t ∧ Kp Off w w1 ∧ w1.heap.size = w.heap.size + 1 :=
  ⟨by rw [← h]; exact Blk.new w cs t, by rw [← h]; exact (Kp.refl _ w).alloc _, by rw [← h]; simp⟩
theorem s_allocE {P : Program} {Q : Nat → List Value → World → Prop} {w : World} {o : Obj} {k : Addr → T} (n : Nat) (hn : w.heap.size = n) (w' : World) (hw : w.alloc o = w') (h : sat P (k ⟨n, 0, none⟩) Q w') : sat P (.alloc o k) Q w := by
  subst hn; subst hw; exact h
theorem kp_then {S' : Nat → Prop} {w0 w w' : World} (h : Kp Off w0 w) (k : Kp S' w w') (hs : ∀ i, i < w0.heap.size → ¬ S' i) : Kp Off w0 w' :=
  ⟨k.os.trans h.os, k.tape.trans h.tape, k.output.trans h.output, Nat.le_trans h.size k.size, fun i hi _ => (k.block i (Nat.lt_of_lt_of_le hi h.size) (hs i hi)).trans (h.block i hi id)⟩
/-- A number's value in memory. -/
structure NumV (w : World) (v : Nat) (s : ByteArray) : Prop where
  s : w.cell? ⟨v, 3, none⟩ = some (.string s)
  t : w.cell? ⟨v, 4, none⟩ = some (.int .i64 4)
theorem newNum_any {w : World} {g : Nat} {s : ByteArray} {b : Value} (h : Blk w g [b, .slice none 0 0] tAr) :
    Calls Tryd.prog 32 #[.pointer (some ⟨g, 0, none⟩), .string s] w fun e w' => ∃ v, e = .returned (.pointer (some ⟨v, 0, none⟩)) ∧ NumV w' v s ∧ Kp (On g) w w' := by
  refine fastjson_Arena_NewNumberString.calls _ _ ?_
  unfold fastjson_Arena_NewNumberString.t
  refine s_ptr ?_
  simp only [addr_add, Nat.zero_add]
  refine s_call (getValue_any h) ?_
  rintro e w1 ⟨v, cur, u, rfl, hv, hb, htk, _, k1⟩
  have hlen : 5 ≤ cur.length := by
    have := congrArg List.length htk
    rw [List.length_take] at this
    have e : vz.length = 5 := rfl
    omega
  refine ⟨some ⟨v, 0, none⟩, rfl, s_ptr ?_⟩
  simp only [addr_add, Nat.zero_add]
  have c4 : w1.cell? ⟨v, 4, none⟩ = some cur[4] := by rw [hb.cell, List.getElem?_eq_getElem]
  refine s_store c4 (hb.free 4) (s_ptr ?_)
  have hb2 := hb.set 4 (.int .i64 4)
  have hl2 : (cur.set 4 (.int .i64 4)).length = cur.length := List.length_set
  simp only [addr_add, Nat.zero_add]
  have c3 : (w1.setCell ⟨v, 4, none⟩ (.int .i64 4)).cell? ⟨v, 3, none⟩ = some (cur.set 4 (.int .i64 4))[3] := by rw [hb2.cell, List.getElem?_eq_getElem]
  refine s_store c3 (hb2.free 3) (s_leaf ⟨rfl, v, rfl, ⟨?_, ?_⟩, (k1.setNew (a := ⟨v, 4, none⟩) hv _).setNew (a := ⟨v, 3, none⟩) hv _⟩)
  · rw [(hb2.set 3 (.string s)).cell, List.getElem?_set_self (by omega)]
  · rw [(hb2.set 3 (.string s)).cell, List.getElem?_set_ne (by decide), List.getElem?_set_self (by omega)]
theorem type_any {w : World} {v : Nat} {s : ByteArray} (h : NumV w v s) : Calls Tryd.prog 55 #[.pointer (some ⟨v, 0, none⟩)] w fun e w' => e = .returned (.int .i64 4) ∧ w' = w := by
  refine fastjson_Value_Type.calls _ ?_
  unfold fastjson_Value_Type.t
  refine s_ptr ?_
  simp only [addr_add, Nat.zero_add]
  refine s_load (4 : Int) h.t ?_
  refine s_iteE (fun hh => absurd hh (by decide)) (fun _ => s_ptr ?_)
  simp only [addr_add, Nat.zero_add]
  exact s_load (4 : Int) h.t (s_leaf ⟨rfl, rfl, rfl⟩)
theorem uint64_any {w : World} {v : Nat} {s : ByteArray} (h : NumV w v s) (hs : s.size ≤ 1000) (hS : Ev w gSyn) (hR : Ev w gRng) :
    Calls Tryd.prog 33 #[.pointer (some ⟨v, 0, none⟩)] w fun e w' => NPost s e ∧ Kp Off w w' := by
  refine fastjson_Value_Uint64.calls _ ?_
  unfold fastjson_Value_Uint64.t
  refine s_call (type_any h) ?_
  rintro e w1 ⟨rfl, rfl⟩
  refine ⟨(4 : Int), rfl, s_iteN (fun hh => absurd rfl hh) (fun _ => s_ptr ?_)⟩
  simp only [addr_add, Nat.zero_add]
  refine s_load s h.s (s_call (fast_any hs hS hR) ?_)
  rintro e w2 ⟨hP, k⟩
  unfold NPost at hP
  cases hu : u64O s with
  | some u => rw [hu] at hP; subst hP; exact ⟨((u : Int), Value.nilIface, ()), rfl, s_leaf ⟨rfl, by unfold NPost; rw [hu]; rfl, k⟩⟩
  | none => rw [hu] at hP; obtain ⟨x, t, p, rfl⟩ := hP; exact ⟨(x, Value.iface t p, ()), rfl, s_leaf ⟨rfl, .bad hu, k⟩⟩
theorem uint_any {w : World} {v : Nat} {s : ByteArray} (h : NumV w v s) (hs : s.size ≤ 1000) (hS : Ev w gSyn) (hR : Ev w gRng) :
    Calls Tryd.prog 34 #[.pointer (some ⟨v, 0, none⟩)] w fun e w' => NPost s e ∧ Kp Off w w' := by
  refine fastjson_Value_Uint.calls _ ?_
  unfold fastjson_Value_Uint.t
  refine s_call (type_any h) ?_
  rintro e w1 ⟨rfl, rfl⟩
  refine ⟨(4 : Int), rfl, s_iteN (fun hh => absurd rfl hh) (fun _ => s_ptr ?_)⟩
  simp only [addr_add, Nat.zero_add]
  refine s_load s h.s (s_call (fast_any hs hS hR) ?_)
  rintro e w2 ⟨hP, k⟩
  unfold NPost at hP
  cases hu : u64O s with
  | some u =>
    rw [hu] at hP; subst hP
    refine ⟨((u : Int), Value.nilIface, ()), rfl, s_chk rfl (sat_iteF.2 ?_)⟩
    refine s_iteN (fun hh => absurd rfl hh) (fun _ => s_leaf ⟨rfl, by unfold NPost; rw [hu]; rfl, k⟩)
  | none =>
    rw [hu] at hP; obtain ⟨x, t, p, rfl⟩ := hP
    exact ⟨(x, Value.iface t p, ()), rfl, s_chk rfl (sat_iteT.2 (s_leaf ⟨rfl, .bad hu, k⟩))⟩
/-- What the thin package says. -/
def IPost (s : ByteArray) (e : Ending) : Prop := match u64O s with
  | some u => e = .returned (.tuple #[.int .u64 u, .bool true])
  | none => ∃ x, e = .returned (.tuple #[.int .u64 x, .bool false])
theorem impl64_any {w : World} {s : ByteArray} (hs : s.size ≤ 1000) (hS : Ev w gSyn) (hR : Ev w gRng) :
    Calls Tryd.prog 14 #[.string s] w fun e w' => IPost s e ∧ Kp Off w w' := by
  refine impl_FjNumberUint64.calls _ ?_
  unfold impl_FjNumberUint64.t
  obtain ⟨w1, hw1⟩ : ∃ w1, w.alloc (.cells [Value.slice none 0 0, .slice none 0 0].toArray tAr (0, 0)) = w1 := ⟨_, rfl⟩
  obtain ⟨b1, k1, z1⟩ := new_blk hw1
  refine s_allocE w.heap.size rfl w1 hw1 ?_
  refine s_call (newNum_any b1) ?_
  rintro e w2 ⟨v, rfl, hN, k2⟩
  have k12 : Kp Off w w2 := kp_then k1 k2 fun i hi e => by have e : i = w.heap.size := e; omega
  refine ⟨some ⟨v, 0, none⟩, rfl, ?_⟩
  refine s_call (uint64_any hN hs (hS.kp k12 id) (hR.kp k12 id)) ?_
  rintro e w3 ⟨hP, k3⟩
  unfold NPost at hP
  unfold IPost
  cases hu : u64O s with
  | some u => rw [hu] at hP; subst hP; exact ⟨((u : Int), Value.nilIface, ()), rfl, s_drew (s_chk rfl (s_leaf ⟨rfl, rfl, (k12.trans k3).drew⟩))⟩
  | none => rw [hu] at hP; obtain ⟨x, t, p, rfl⟩ := hP; exact ⟨(x, Value.iface t p, ()), rfl, s_drew (s_chk rfl (s_leaf ⟨rfl, ⟨x, rfl⟩, (k12.trans k3).drew⟩))⟩
theorem impl_any {w : World} {s : ByteArray} (hs : s.size ≤ 1000) (hS : Ev w gSyn) (hR : Ev w gRng) :
    Calls Tryd.prog 15 #[.string s] w fun e w' => IPost s e ∧ Kp Off w w' := by
  refine impl_FjNumberUint.calls _ ?_
  unfold impl_FjNumberUint.t
  obtain ⟨w1, hw1⟩ : ∃ w1, w.alloc (.cells [Value.slice none 0 0, .slice none 0 0].toArray tAr (0, 0)) = w1 := ⟨_, rfl⟩
  obtain ⟨b1, k1, z1⟩ := new_blk hw1
  refine s_allocE w.heap.size rfl w1 hw1 ?_
  refine s_call (newNum_any b1) ?_
  rintro e w2 ⟨v, rfl, hN, k2⟩
  have k12 : Kp Off w w2 := kp_then k1 k2 fun i hi e => by have e : i = w.heap.size := e; omega
  refine ⟨some ⟨v, 0, none⟩, rfl, ?_⟩
  refine s_call (uint_any hN hs (hS.kp k12 id) (hR.kp k12 id)) ?_
  rintro e w3 ⟨hP, k3⟩
  unfold NPost at hP
  unfold IPost
  cases hu : u64O s with
  | some u => rw [hu] at hP; subst hP; exact ⟨((u : Int), Value.nilIface, ()), rfl, s_drew (s_chk rfl (s_leaf ⟨rfl, rfl, (k12.trans k3).drew⟩))⟩
  | none => rw [hu] at hP; obtain ⟨x, t, p, rfl⟩ := hP; exact ⟨(x, Value.iface t p, ()), rfl, s_drew (s_chk rfl (s_leaf ⟨rfl, ⟨x, rfl⟩, (k12.trans k3).drew⟩))⟩
def sevW : ByteArray := ByteArray.mk #[55]
theorem sev_u : u64O sevW = some 7 := by
  have h : allD sevW 0 sevW.size := fun k h1 h2 => by
    have : k = 0 := by
      have : sevW.size = 1 := rfl
      omega
    subst this; decide
  have := u64O_ok (s := sevW) (by decide) h (by decide)
  exact this
abbrev tE : TypeId := 61
abbrev tPE : TypeId := 118
theorem star : "*" ++ "errors.errorString" = "*errors.errorString" := by decide
theorem type_errS (u : TypeId) (h : Tryd.prog.typeName? 3 u = some "*errors.errorString") : u = tPE :=
  typeName_ptr_named (nm := "errors.errorString") (by rw [star]; kernel_rfl) (by kernel_rfl) (by decide) u (by rw [star]; exact h)
theorem laid_of_H {P : Program} {l : List (String × DataW Unit)} {W : World} (h : laidMetH P l W) (hn : (l.filter fun x => x.2.handleName?.isSome) = []) : laidMet P l W := by
  unfold laidMetH at h; rw [hn] at h; exact h
theorem vars {w : World} (hL : laidMet Tryd.prog Rows.fnFjNumberUintRow.laid w) : Ev w gSyn ∧ Ev w gRng := by
  have h4 := laidMet.tail (laidMet.tail (laidMet.tail hL))
  have h5 := laidMet.tail h4
  constructor
  · obtain ⟨a, s, h, _⟩ := laid_sentinel h5 (g := gSyn) (by kernel_rfl) (by kernel_rfl : _ = some tE) Tryd.underlying61 type_errS Tryd.underlying118 Tryd.underlying120 rfl rfl Tryd.underlying9 (by kernel_rfl) (by kernel_rfl)
    exact ⟨_, _, World.var?_cell (by kernel_rfl) h 0⟩
  · obtain ⟨a, s, h, _⟩ := laid_sentinel h4 (g := gRng) (by kernel_rfl) (by kernel_rfl : _ = some tE) Tryd.underlying61 type_errS Tryd.underlying118 Tryd.underlying120 rfl rfl Tryd.underlying9 (by kernel_rfl) (by kernel_rfl)
    exact ⟨_, _, World.var?_cell (by kernel_rfl) h 0⟩
theorem walk (s : ByteArray) (w : World) (hs : s.size ≤ 140737488351232) (hL : laidMetH Tryd.prog Rows.fnFjNumberUintRow.laid w) :
    Calls Tryd.prog 6 #[.string s] w fun e w' => e = .returned (.bool true) ∧ RowKit.Below w.heap.size w w' := by
  obtain ⟨hS, hR⟩ := vars (laid_of_H hL (by kernel_rfl))
  refine laws_FnFjNumberUint.calls _ ?_
  unfold laws_FnFjNumberUint.t
  have done : ∀ (w1 : World), Kp Off w w1 → (Ending.returned (retVal [.bool true]) = .returned (.bool true) ∧ RowKit.Below w.heap.size w w1) := fun w1 h => ⟨rfl, h.belowOff⟩
  refine s_iteD (fun _ => s_leaf ⟨rfl, done w (Kp.refl _ _)⟩) (fun _ => ?_)
  refine s_iteD (fun _ => s_leaf ⟨rfl, done w (Kp.refl _ _)⟩) (fun hz => ?_)
  have hz : s.size ≤ 1000 := by omega
  refine s_call (impl64_any hz hS hR) ?_
  rintro e w1 ⟨hP, k1⟩
  have two := impl_any (w := w1) hz (hS.kp k1 id) (hR.kp k1 id)
  have last : ∀ {w2 : World} {Q : Nat → List Value → World → Prop} {k : (Int × (Bool × PUnit)) → T}, Kp Off w w2 → (∀ w3, Kp Off w w3 → sat Tryd.prog (k ((7 : Int), true, ())) Q w3) →
      sat Tryd.prog (.call 14 #[.string (ByteArray.mk #[(55 : UInt8)])] (.tuple (.cons (.int .u64) (.cons .bool .nil))) k) Q w2 := fun {w2 Q k} k2 hk => by
    refine s_call (impl64_any (s := sevW) (by decide) (hS.kp k2 id) (hR.kp k2 id)) ?_
    rintro e w3 ⟨hP3, k3⟩
    unfold IPost at hP3
    rw [sev_u] at hP3
    subst hP3
    exact ⟨((7 : Int), true, ()), rfl, hk w3 (k2.trans k3)⟩
  have three : ∀ (w2 : World), Calls Tryd.prog 16 #[.string s] w2 (U64Post s w2) := fun w2 => u64_any (by omega)
  unfold IPost at hP
  unfold IPost at two
  unfold U64Post at three
  cases hu : u64O s with
  | some u =>
    rw [hu] at hP two three
    subst hP
    refine ⟨((u : Int), true, ()), rfl, s_call two ?_⟩
    rintro e w2 ⟨rfl, k2⟩
    refine ⟨((u : Int), true, ()), rfl, s_call (three w2) ?_⟩
    rintro e w2 ⟨rfl, rfl⟩
    refine ⟨((u : Int), true, ()), rfl, last (k1.trans k2) fun w3 k3 => ?_⟩
    refine sat_iteT.2 (sat_iteT.2 (sat_iteF.2 ?_))
    exact s_iteE (fun _ => s_iteE (fun _ => s_leaf ⟨rfl, done w3 k3⟩) (fun hh => absurd rfl hh)) (fun hh => absurd rfl hh)
  | none =>
    rw [hu] at hP two three
    obtain ⟨x, rfl⟩ := hP
    refine ⟨(x, false, ()), rfl, s_call two ?_⟩
    rintro e w2 ⟨⟨y, rfl⟩, k2⟩
    refine ⟨(y, false, ()), rfl, s_call (three w2) ?_⟩
    rintro e w2 ⟨rfl, rfl⟩
    refine ⟨((0 : Int), false, ()), rfl, last (k1.trans k2) fun w3 k3 => ?_⟩
    exact sat_iteT.2 (sat_iteT.2 (sat_iteT.2 (s_leaf ⟨rfl, done w3 k3⟩)))
end Go.Proofs.YtbmmpnjpejamaaaDoor.LawFjNumberUint
