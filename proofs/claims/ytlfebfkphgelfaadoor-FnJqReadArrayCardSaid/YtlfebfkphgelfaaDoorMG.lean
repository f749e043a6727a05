/- jsonparser's Unescape (the texts Je Jf Jg Jh Ji Jj Jp of this repo put together). No statement of the set is proved here. -/
import Derived.Test.YtlfebfkphgelfaaDoorME
import Derived.Test.YtlfebfkphgelfaaDoorTu
import Derived.Test.YtlfebfkphgelfaaDoorMF
import Derived.Test.YtlfebfkphgelfaaDoorSh
import Derived.Laws.CopyRow
import Derived.Laws.MakeOwn
namespace Go.Proofs.YtlfebfkphgelfaaDoor.Je
open Go Go.Proofs Go.RowKit Go.Proofs.YtlfebfkphgelfaaDoor.Rx Go.Proofs.YtlfebfkphgelfaaDoor.Tr Go.Proofs.YtlfebfkphgelfaaDoor.Pl Go.Proofs.YtlfebfkphgelfaaDoor.Ut Go.Proofs.YtlfebfkphgelfaaDoor.Ch Go.Proofs.YtlfebfkphgelfaaDoor.Bw Go.Proofs.YtlfebfkphgelfaaDoor.Uq

theorem h2I_any {n : Nat} {w : World} (hn : n < 256) : Calls Tryd.prog 101 #[.int .u8 n] w fun e w' => e = .returned (.int .i64 (match hv n with | some d => (d : Int) | none => -1)) ∧ w' = w := by
  refine jsonparser_h2I.calls _ ?_
  unfold jsonparser_h2I.t
  refine s_cut (fun x w' => x = (decide (48 ≤ n ∧ n ≤ 57), ()) ∧ w = w') ?_ ?_
  · refine s_iteD (fun h => s_leaf ?_) (fun h => s_leaf ?_)
    · rw [if_pos rfl]
      refine ⟨(decide ((n : Int) ≤ 57), ()), rfl, bpair ?_, rfl⟩
      simp only [decide_eq_true_eq]; omega
    · rw [if_pos rfl]
      refine ⟨(false, ()), rfl, ?_, rfl⟩
      rw [decide_eq_false (by omega)]; rfl
  rintro x w1 ⟨rfl, rfl⟩
  simp only [jsonparser_h2I.t1]
  refine s_iteD (fun h => s_leaf ⟨rfl, ?_, rfl⟩) (fun h1 => ?_)
  · have e : hv n = some (n - 48) := by unfold hv; rw [if_pos h]
    rw [e, wrapB_in (by omega) (by omega), wrap_in (by omega) (by omega)]
    have : (n : Int) - 48 = ((n - 48 : Nat) : Int) := by omega
    rw [this]; rfl
  refine s_cut (fun x w' => x = (decide (65 ≤ n ∧ n ≤ 70), ()) ∧ w = w') ?_ ?_
  · refine s_iteD (fun h => s_leaf ?_) (fun h => s_leaf ?_)
    · rw [if_pos rfl]
      refine ⟨(decide ((n : Int) ≤ 70), ()), rfl, bpair ?_, rfl⟩
      simp only [decide_eq_true_eq]; omega
    · rw [if_pos rfl]
      refine ⟨(false, ()), rfl, ?_, rfl⟩
      rw [decide_eq_false (by omega)]; rfl
  rintro x w1 ⟨rfl, rfl⟩
  simp only [jsonparser_h2I.t2]
  refine s_iteD (fun h => s_leaf ⟨rfl, ?_, rfl⟩) (fun h2 => ?_)
  · have e : hv n = some (n - 55) := by unfold hv; rw [if_neg h1, if_neg (by omega), if_pos h]
    rw [e, wrapB_in (by omega) (by omega), wrap_in (n := (n : Int) - 65) (by omega) (by omega), wrap_in (by omega) (by omega)]
    have : (n : Int) - 65 + 10 = ((n - 55 : Nat) : Int) := by omega
    rw [this]; rfl
  have no : ¬ (97 ≤ n ∧ n ≤ 102) → hv n = none := fun h3 => by unfold hv; rw [if_neg h1, if_neg h3, if_neg h2]
  refine s_iteD (fun h3 => ?_) (fun h3 => s_leaf ⟨rfl, ?_, rfl⟩)
  · refine s_iteD (fun h4 => s_leaf ⟨rfl, ?_, rfl⟩) (fun h4 => s_leaf ⟨rfl, ?_, rfl⟩)
    · have e : hv n = some (n - 87) := by unfold hv; rw [if_neg h1, if_pos (by omega)]
      rw [e, wrapB_in (by omega) (by omega), wrap_in (n := (n : Int) - 97) (by omega) (by omega), wrap_in (by omega) (by omega)]
      have : (n : Int) - 97 + 10 = ((n - 87 : Nat) : Int) := by omega
      rw [this]; rfl
    · rw [no (by omega)]; rfl
  · rw [no (by omega)]; rfl
/-- The number of four hexadecimal digits behind two bytes. -/
def ds (s : ByteArray) (a : Nat) : Option Nat := if a + 6 ≤ s.size then hx s (a + 2) 4 else none
theorem ds_lt {s : ByteArray} {a n : Nat} (h : ds s a = some n) : n < 65536 ∧ a + 6 ≤ s.size := by
  unfold ds at h
  split at h
  · exact ⟨hx_lt h, by assumption⟩
  · cases h
/-- What a decoder says that may fail. -/
def opt (r : Option Nat) : Value := .tuple #[.int .i32 (match r with | some n => (n : Int) | none => 65533), .bool r.isSome]
theorem hv_iff (x : Option Nat) : ((match x with | some d => (d : Int) | none => -1) == -1) = x.isNone := by
  cases x with
  | none => rfl
  | some d => simp only [Option.isNone_some, beq_eq_false_iff_ne, ne_eq]; omega
theorem hx4 (s : ByteArray) (p : Nat) : hx s p 4 = (hv (bn s p)).bind fun a => (hv (bn s (p + 1))).bind fun b => (hv (bn s (p + 2))).bind fun c => (hv (bn s (p + 3))).map fun d => ((a * 16 + b) * 16 + c) * 16 + d := by
  simp only [hx]
  rw [show p + 0 = p from rfl]
  cases hv (bn s p) <;> cases hv (bn s (p + 1)) <;> cases hv (bn s (p + 2)) <;> cases hv (bn s (p + 3)) <;> simp
/-- A slice of the text's row, from a place on. -/
structure In (w : World) (s : ByteArray) (g y a n : Nat) : Prop where
  cell : ∀ {j : Nat}, j < n → w.cell? ⟨g, y + j, none⟩ = some (.int .u8 (bn s (a + j)))
  len : n = s.size - a
theorem In.of {w : World} {s : ByteArray} {g : Nat} (h : Byts w ⟨g, 0, none⟩ s) : In w s g 0 0 s.size :=
  ⟨fun {j} hj => by
    have h1 := h.2 j hj
    simp only [Nat.zero_add] at h1 ⊢
    rw [h1, bt_bn], rfl⟩
theorem In.fwd {w : World} {s : ByteArray} {g y a n : Nat} (h : In w s g y a n) (d : Nat) : In w s g (y + d) (a + d) (n - d) :=
  ⟨fun {j} hj => by
    have := h.cell (j := d + j) (by omega)
    rw [← Nat.add_assoc, ← Nat.add_assoc] at this
    exact this, by have := h.len; omega⟩
theorem In.kp {S : Nat → Prop} {w w' : World} {s : ByteArray} {g y a n : Nat} (h : In w s g y a n) (k : Kp S w w') (hS : ¬ S g) : In w' s g y a n :=
  ⟨fun {j} hj => by
    have h1 := h.cell hj
    rw [k.cell (Ms.cell_lt h1) hS]; exact h1, h.len⟩
theorem below_refl (w : World) : RowKit.Below w.heap.size w w := (Kp.refl Off w).belowOff
theorem single_any {w : World} {s : ByteArray} {g y a n cap : Nat} (h : In w s g y a n) (hs : s.size < 100000000000) :
    Calls Tryd.prog 93 #[.slice (some ⟨g, y, none⟩) n cap] w fun e w' => e = .returned (opt (ds s a)) ∧ Kp Off w w' := by
  refine jsonparser_decodeSingleUnicodeEscape.calls _ _ _ ?_
  unfold jsonparser_decodeSingleUnicodeEscape.t
  have hl := h.len
  refine s_iteD (fun h6 => s_leaf ⟨rfl, ?_, Kp.refl _ _⟩) (fun h6 => ?_)
  · have : ds s a = none := by unfold ds; rw [if_neg (by omega)]
    rw [this]; rfl
  have hds : ds s a = hx s (a + 2) 4 := by unfold ds; rw [if_pos (by omega)]
  refine s_drew ?_
  have c : ∀ j, j < n → w.drew.cell? (Addr.add ⟨g, y, none⟩ j) = some (.int .u8 (bn s (a + j))) := fun j hj => by
    rw [addr_add]; exact h.cell hj
  refine s_chk (by omega) (s_ptr (s_load ((bn s (a + 2) : Nat) : Int) (c 2 (by omega)) ?_))
  refine s_chk (by omega) (s_ptr (s_load ((bn s (a + 3) : Nat) : Int) (c 3 (by omega)) ?_))
  refine s_chk (by omega) (s_ptr (s_load ((bn s (a + 4) : Nat) : Int) (c 4 (by omega)) ?_))
  refine s_chk (by omega) (s_ptr (s_load ((bn s (a + 5) : Nat) : Int) (c 5 (by omega)) ?_))
  refine s_call (h2I_any (bn_lt s (a + 2))) ?_
  rintro e w1 ⟨rfl, rfl⟩
  refine ⟨_, rfl, below_refl _, ?_⟩
  refine s_call (h2I_any (bn_lt s (a + 3))) ?_
  rintro e w1 ⟨rfl, rfl⟩
  refine ⟨_, rfl, below_refl _, ?_⟩
  refine s_call (h2I_any (bn_lt s (a + 4))) ?_
  rintro e w1 ⟨rfl, rfl⟩
  refine ⟨_, rfl, below_refl _, ?_⟩
  refine s_call (h2I_any (bn_lt s (a + 5))) ?_
  rintro e w1 ⟨rfl, rfl⟩
  refine ⟨_, rfl, ?_⟩
  rw [hds, hx4]
  have l2 : ∀ d, hv (bn s (a + 2)) = some d → d < 16 := fun d => hv_lt
  have l3 : ∀ d, hv (bn s (a + 2 + 1)) = some d → d < 16 := fun d => hv_lt
  have l4 : ∀ d, hv (bn s (a + 2 + 2)) = some d → d < 16 := fun d => hv_lt
  have l5 : ∀ d, hv (bn s (a + 2 + 3)) = some d → d < 16 := fun d => hv_lt
  have e3 : a + 3 = a + 2 + 1 := rfl
  have e4 : a + 4 = a + 2 + 2 := rfl
  have e5 : a + 5 = a + 2 + 3 := rfl
  rw [e3, e4, e5]
  generalize hv (bn s (a + 2)) = x2 at *
  generalize hv (bn s (a + 2 + 1)) = x3 at *
  generalize hv (bn s (a + 2 + 2)) = x4 at *
  generalize hv (bn s (a + 2 + 3)) = x5 at *
  refine s_cut (fun x w' => x = (x2.isNone || x3.isNone || x4.isNone || x5.isNone, ()) ∧ w' = w.drew) ?_ ?_
  · refine s_ite (fun h2 => s_leaf ?_) (fun h2 => ?_)
    · rw [hv_iff] at h2
      rw [if_pos rfl]; exact ⟨(true, ()), rfl, by rw [h2]; rfl, rfl⟩
    refine s_ite (fun h3 => s_leaf ?_) (fun h3 => ?_)
    · rw [hv_iff] at h2 h3
      rw [if_pos rfl]; exact ⟨(true, ()), rfl, by rw [h2, h3]; rfl, rfl⟩
    refine s_ite (fun h4 => s_leaf ?_) (fun h4 => s_leaf ?_)
    · rw [hv_iff] at h2 h3 h4
      rw [if_pos rfl]; exact ⟨(true, ()), rfl, by rw [h2, h3, h4]; rfl, rfl⟩
    · rw [hv_iff] at h2 h3 h4
      rw [if_pos rfl]
      refine ⟨(x5.isNone, ()), ?_, by rw [h2, h3, h4]; rfl, rfl⟩
      rw [hv_iff]; rfl
  rintro x w1 ⟨rfl, rfl⟩
  simp only [jsonparser_decodeSingleUnicodeEscape.t1]
  have kd : Kp Off w w.drew := (Kp.refl _ w).drew
  cases x2 with
  | none => exact sat_iteT.2 (s_leaf ⟨rfl, rfl, kd⟩)
  | some d2 =>
  cases x3 with
  | none => exact sat_iteT.2 (s_leaf ⟨rfl, rfl, kd⟩)
  | some d3 =>
  cases x4 with
  | none => exact sat_iteT.2 (s_leaf ⟨rfl, rfl, kd⟩)
  | some d4 =>
  cases x5 with
  | none => exact sat_iteT.2 (s_leaf ⟨rfl, rfl, kd⟩)
  | some d5 =>
  have l2 := l2 _ rfl; have l3 := l3 _ rfl; have l4 := l4 _ rfl; have l5 := l5 _ rfl
  refine sat_iteF.2 (s_chk (by decide) (s_chk (by decide) (s_chk (by decide) (s_leaf ⟨rfl, ?_, kd⟩))))
  have e : IntKind.wrap .i32 (IntKind.wrap .i64 ((IntKind.wrap .i64 ((IntKind.wrap .i64 ((IntKind.wrap .i64 ((d2 : Int) * (4096 : Int))) + (IntKind.wrap .i64 ((d3 : Int) * (256 : Int))))) + (IntKind.wrap .i64 ((d4 : Int) * (16 : Int))))) + (d5 : Int))) = ((((d2 * 16 + d3) * 16 + d4) * 16 + d5 : Nat) : Int) := by
    rw [wrap_in (n := (d2 : Int) * 4096) (by omega) (by omega), wrap_in (n := (d3 : Int) * 256) (by omega) (by omega), wrap_in (n := (d4 : Int) * 16) (by omega) (by omega), wrap_in (n := (d2 : Int) * 4096 + (d3 : Int) * 256) (by omega) (by omega), wrap_in (n := (d2 : Int) * 4096 + (d3 : Int) * 256 + (d4 : Int) * 16) (by omega) (by omega), wrap_in (by omega) (by omega), IntKind.wrap_i32]
    omega
  show Ending.returned (retVal [.int .i32 (IntKind.wrap .i32 (IntKind.wrap .i64 ((IntKind.wrap .i64 ((IntKind.wrap .i64 ((IntKind.wrap .i64 ((d2 : Int) * (4096 : Int))) + (IntKind.wrap .i64 ((d3 : Int) * (256 : Int))))) + (IntKind.wrap .i64 ((d4 : Int) * (16 : Int))))) + (d5 : Int)))), .bool true]) = _
  rw [e]
  rfl
/-- An escape \uXXXX, or two that are a surrogate pair: how long it is, and its character. -/
def due (s : ByteArray) (a : Nat) : Option (Nat × Nat) :=
  match ds s a with
  | none => none
  | some n =>
    if ¬ (55296 ≤ n ∧ n ≤ 57343) then some (6, n)
    else if 56320 ≤ n then some (6, 65533)
    else if s.size - a < 8 ∨ bn s (a + 6) ≠ 92 ∨ bn s (a + 7) ≠ 117 then some (6, 65533)
    else match ds s (a + 6) with
      | none => none
      | some m => if 56320 ≤ m ∧ m ≤ 57343 then some (12, 65536 + (n - 55296) * 1024 + (m - 56320)) else some (6, 65533)
def dueV (r : Option (Nat × Nat)) : Value := match r with
  | some (k, n) => .tuple #[.int .i32 n, .int .i64 k]
  | none => .tuple #[.int .i32 65533, .int .i64 (-1)]
theorem decode_any {w : World} {s : ByteArray} {g y a n cap : Nat} (h : In w s g y a n) (hs : s.size < 100000000000) (hc : n ≤ cap) :
    Calls Tryd.prog 86 #[.slice (some ⟨g, y, none⟩) n cap] w fun e w' => e = .returned (dueV (due s a)) ∧ Kp Off w w' := by
  refine jsonparser_decodeUnicodeEscape.calls _ _ _ ?_
  unfold jsonparser_decodeUnicodeEscape.t
  have hl := h.len
  refine s_call (single_any h hs) ?_
  rintro e w1 ⟨rfl, k1⟩
  cases hd : ds s a with
  | none =>
    refine ⟨((65533 : Int), false, ()), rfl, sat_iteT.2 (s_leaf ⟨rfl, ?_, k1⟩)⟩
    unfold due; rw [hd]; rfl
  | some m1 =>
  have hm1 := ds_lt hd
  refine ⟨((m1 : Int), true, ()), rfl, sat_iteF.2 ?_⟩
  refine s_call (R := fun e w' => e = .returned (.bool (decide (55296 ≤ m1 ∧ m1 ≤ 57343))) ∧ w' = w1) ?_ ?_
  · refine jsonparser_isUTF16EncodedRune.calls _ ?_
    unfold jsonparser_isUTF16EncodedRune.t
    refine s_iteD (fun h1 => s_leaf ⟨rfl, ?_, rfl⟩) (fun h1 => s_leaf ⟨rfl, ?_, rfl⟩)
    · show Ending.returned (.bool (decide ((m1 : Int) ≤ 57343))) = _
      congr 2; rw [decide_eq_decide]; omega
    · rw [decide_eq_false (by omega)]; rfl
  rintro e w1 ⟨rfl, rfl⟩
  refine ⟨_, rfl, ?_⟩
  by_cases hsu : 55296 ≤ m1 ∧ m1 ≤ 57343
  rotate_left
  · rw [decide_eq_false hsu]
    refine sat_iteT.2 (s_leaf ⟨rfl, ?_, k1⟩)
    unfold due; rw [hd]; simp only; rw [if_pos hsu]; rfl
  rw [decide_eq_true hsu]
  refine sat_iteF.2 ?_
  refine s_iteD (fun h2 => s_leaf ⟨rfl, ?_, k1⟩) (fun h2 => ?_)
  · unfold due; rw [hd]; simp only; rw [if_neg (by omega), if_pos (by omega)]; rfl
  have due0 : due s a = if s.size - a < 8 ∨ bn s (a + 6) ≠ 92 ∨ bn s (a + 7) ≠ 117 then some (6, 65533)
    else match ds s (a + 6) with
      | none => none
      | some m => if 56320 ≤ m ∧ m ≤ 57343 then some (12, 65536 + (m1 - 55296) * 1024 + (m - 56320)) else some (6, 65533) := by
    unfold due; rw [hd]; simp only; rw [if_neg (by omega), if_neg (by omega)]
  have h1 := h.kp k1 id
  refine s_cut (fun x w' => x = (decide (s.size - a < 8 ∨ bn s (a + 6) ≠ 92 ∨ bn s (a + 7) ≠ 117), ()) ∧ w1 = w') ?_ ?_
  · refine s_iteD (fun h3 => s_leaf ?_) (fun h3 => s_chk (by omega) (s_ptr ?_))
    · rw [if_pos rfl]; exact ⟨(true, ()), rfl, by rw [decide_eq_true (by omega)]; rfl, rfl⟩
    simp only [addr_add]
    refine s_load ((bn s (a + 6) : Nat) : Int) (h1.cell (by omega)) ?_
    refine s_iteN (fun h4 => s_leaf ?_) (fun h4 => s_chk (by omega) (s_ptr ?_))
    · have h4 : ((bn s (a + 6) : Nat) : Int) ≠ 92 := h4
      rw [if_pos rfl]; exact ⟨(true, ()), rfl, by rw [decide_eq_true (by omega)]; rfl, rfl⟩
    have h4 : ((bn s (a + 6) : Nat) : Int) = 92 := h4
    refine s_load ((bn s (a + 7) : Nat) : Int) (h1.cell (by omega)) (s_leaf ?_)
    rw [if_pos rfl]
    refine ⟨(((bn s (a + 7) : Nat) : Int) != 117, ()), rfl, bpair ?_, rfl⟩
    simp only [bne_iff_ne, ne_eq, decide_eq_true_eq]; omega
  rintro x w1' ⟨rfl, rfl⟩
  simp only [jsonparser_decodeUnicodeEscape.t1]
  refine s_iteD (fun h3 => s_leaf ⟨rfl, ?_, k1⟩) (fun h3 => ?_)
  · rw [due0, if_pos h3]; rfl
  rw [if_neg h3] at due0
  refine s_chk (by omega) ?_
  rw [if_neg (by omega), Int.toNat_natCast]
  simp only [Option.map_some, addr_add]
  have h6 : In w1 s g (y + 6) (a + 6) (n - 6) := h1.fwd 6
  refine s_call (single_any h6 hs) ?_
  rintro e w2 ⟨rfl, k2⟩
  have k12 := k1.trans k2
  cases hd6 : ds s (a + 6) with
  | none =>
    refine ⟨((65533 : Int), false, ()), rfl, sat_iteT.2 (s_leaf ⟨rfl, ?_, k12⟩)⟩
    rw [due0, hd6]; rfl
  | some m2 =>
  rw [hd6] at due0
  simp only at due0
  have hm2 := ds_lt hd6
  refine ⟨((m2 : Int), true, ()), rfl, sat_iteF.2 ?_⟩
  refine s_iteD (fun h7 => s_leaf ⟨rfl, ?_, k12⟩) (fun h7 => ?_)
  · have h7 : (m2 : Int) < 56320 := h7
    rw [due0, if_neg (by omega)]; rfl
  have h7 : ¬ (m2 : Int) < 56320 := h7
  refine s_iteD (fun h8 => s_leaf ⟨rfl, ?_, k12⟩) (fun h8 => ?_)
  · have h8 : (m2 : Int) > 57343 := h8
    rw [due0, if_neg (by omega)]; rfl
  have h8 : ¬ (m2 : Int) > 57343 := h8
  rw [if_pos (by omega)] at due0
  refine s_call (R := fun e w' => e = .returned (.int .i32 ((65536 + (m1 - 55296) * 1024 + (m2 - 56320) : Nat) : Int)) ∧ w' = w2) ?_ ?_
  · refine jsonparser_combineUTF16Surrogates.calls _ _ ?_
    unfold jsonparser_combineUTF16Surrogates.t
    refine s_chk (by decide) (s_leaf ⟨rfl, ?_, rfl⟩)
    show Ending.returned (.int .i32 (IntKind.wrap IntKind.i32 ((IntKind.wrap IntKind.i32 ((65536 : Int) + (IntKind.wrap IntKind.i32 ((IntKind.wrap IntKind.i32 ((m1 : Int) - (55296 : Int))) * (1024 : Int))))) + (IntKind.wrap IntKind.i32 ((m2 : Int) - (56320 : Int)))))) = _
    congr 2
    simp only [IntKind.wrap_i32]
    omega
  rintro e w3 ⟨rfl, rfl⟩
  refine ⟨_, rfl, s_leaf ⟨rfl, ?_, k12⟩⟩
  rw [due0]; rfl
end Go.Proofs.YtlfebfkphgelfaaDoor.Je
namespace Go.Proofs.YtlfebfkphgelfaaDoor.Je
open Go Go.Proofs Go.RowKit Go.Proofs.YtlfebfkphgelfaaDoor.Rx Go.Proofs.YtlfebfkphgelfaaDoor.Tr Go.Proofs.YtlfebfkphgelfaaDoor.Pl Go.Proofs.YtlfebfkphgelfaaDoor.Ut Go.Proofs.YtlfebfkphgelfaaDoor.Ch Go.Proofs.YtlfebfkphgelfaaDoor.Bw Go.Proofs.YtlfebfkphgelfaaDoor.Uq

def cb (l : List UInt8) : List Value := l.map bv
theorem cb_len (l : List UInt8) : (cb l).length = l.length := List.length_map _
/-- Bytes laid over others. -/
def put (l : List UInt8) (c : Nat) : List UInt8 → List UInt8
  | [] => l
  | b :: e => put (l.set c b) (c + 1) e
theorem put_len (l : List UInt8) (c : Nat) : ∀ e, (put l c e).length = l.length
  | [] => rfl
  | b :: e => by unfold put; rw [put_len (l.set c b) (c + 1) e, List.length_set]
termination_by e => e.length
theorem put_take (e : List UInt8) : ∀ (l : List UInt8) (c : Nat), c + e.length ≤ l.length → (put l c e).take (c + e.length) = l.take c ++ e := by
  induction e with
  | nil => intro l c _; simp [put]
  | cons b e ih =>
    intro l c h
    simp only [List.length_cons] at h
    have := ih (l.set c b) (c + 1) (by rw [List.length_set]; omega)
    unfold put
    rw [show c + (b :: e).length = c + 1 + e.length by simp only [List.length_cons]; omega, this]
    have e1 : (l.set c b).take (c + 1) = l.take c ++ [b] := by
      have hc : c < l.length := by omega
      rw [List.take_add_one, List.take_set, List.set_eq_of_length_le (by rw [List.length_take]; exact Nat.min_le_left _ _), List.getElem?_set_self hc]; rfl
    rw [e1]; simp
theorem s_stb {Q : Nat → List Value → World → Prop} {w : World} {g c j : Nat} {T' : TypeId} {l : List UInt8} {x : Int} {K : T} (b : UInt8) (hb : Blk w g (cb l) T') (hj : c + j < l.length) (hx : x = (b.toNat : Int))
    (h : ∀ w', Blk w' g (cb (l.set (c + j) b)) T' → Kp (On g) w w' → sat Tryd.prog K Q w') : sat Tryd.prog (.store (Addr.add ⟨g, c, none⟩ j) (.int .u8 x) K) Q w := by
  subst hx
  rw [addr_add]
  have h1 : w.cell? ⟨g, c + j, none⟩ = some (bv l[c + j]) := by
    rw [hb.cell, cb, List.getElem?_map, List.getElem?_eq_getElem hj]; rfl
  refine s_store h1 (hb.free _) (h _ ?_ ((Kp.refl (On g) w).on _ _))
  have := hb.set (c + j) (bv b)
  have e : (cb l).set (c + j) (bv b) = cb (l.set (c + j) b) := by unfold cb; rw [List.map_set]
  rw [e] at this
  exact this
theorem or192 : ∀ q, q < 32 → 192 ||| q = 192 + q := by decide
theorem or224 : ∀ q, q < 16 → 224 ||| q = 224 + q := by decide
theorem or240 : ∀ q, q < 8 → 240 ||| q = 240 + q := by decide
theorem or128 : ∀ q, q < 64 → 128 ||| q = 128 + q := by decide
theorem or8 {a b : Nat} (ha : a < 256) (hb : b < 256) (hab : a ||| b < 256) : IntKind.wrap .u8 (((BitVec.toNat ((BitVec.ofInt 8 (a : Int)) ||| (BitVec.ofInt 8 (IntKind.wrap .u8 (b : Int)))) : Nat)) : Int) = ((a ||| b : Nat) : Int) := by
  rw [wrapB_in (n := (b : Int)) (by omega) (by omega), BitVec.ofInt_natCast, BitVec.ofInt_natCast, BitVec.toNat_or, BitVec.toNat_ofNat, BitVec.toNat_ofNat, Nat.mod_eq_of_lt (by omega : a < 2 ^ 8), Nat.mod_eq_of_lt (by omega : b < 2 ^ 8), wrapB_in (by omega) (by omega)]
theorem and63 (x : Nat) : IntKind.wrap .u8 (((BitVec.toNat ((BitVec.ofInt 8 (IntKind.wrap .u8 (x : Int))) &&& (BitVec.ofInt 8 (63 : Int)))) : Nat) : Int) = ((x % 64 : Nat) : Int) := by
  have h1 : IntKind.wrap .u8 (x : Int) = ((x % 256 : Nat) : Int) := by rw [IntKind.wrap_u8]; omega
  have h2 : BitVec.ofInt 8 (63 : Int) = BitVec.ofNat 8 63 := by decide
  have h3 : x % 256 &&& 63 = x % 256 % 64 := Nat.and_two_pow_sub_one_eq_mod _ 6
  rw [h1, h2, BitVec.ofInt_natCast, BitVec.toNat_and, BitVec.toNat_ofNat, BitVec.toNat_ofNat, Nat.mod_eq_of_lt (by omega : x % 256 < 2 ^ 8), Nat.mod_eq_of_lt (by decide : 63 < 2 ^ 8), h3, wrapB_in (by omega) (by omega)]
  omega
theorem cnt (x : Nat) : IntKind.wrap .u8 (((BitVec.toNat ((BitVec.ofInt 8 (128 : Int)) ||| (BitVec.ofInt 8 (IntKind.wrap IntKind.u8 (((BitVec.toNat ((BitVec.ofInt 8 (IntKind.wrap IntKind.u8 (x : Int))) &&& (BitVec.ofInt 8 (63 : Int)))) : Nat) : Int))))) : Nat) : Int) = ((128 + x % 64 : Nat) : Int) := by
  rw [and63]
  have h := or128 (x % 64) (Nat.mod_lt _ (by decide))
  have h2 := or8 (a := 128) (b := x % 64) (by decide) (by omega) (by omega)
  rw [wrapB_in (n := ((x % 64 : Nat) : Int)) (by omega) (by omega)] at h2
  have h2 : IntKind.wrap .u8 (((BitVec.toNat ((BitVec.ofInt 8 (128 : Int)) ||| (BitVec.ofInt 8 ((x % 64 : Nat) : Int)))) : Nat) : Int) = ((128 ||| x % 64 : Nat) : Int) := h2
  rw [h2, h]
theorem fd (n d : Nat) : Int.fdiv (n : Int) (d : Int) = ((n / d : Nat) : Int) := by rw [Int.ofNat_fdiv]
theorem byte_of {n : Nat} {x : Int} (h : x = (n : Int)) (hn : n < 256) : x = ((UInt8.ofNat n).toNat : Int) := by
  rw [h, UInt8.toNat_ofNat_of_lt' (by simpa using hn)]
theorem encode_any {w : World} {h c m cap T' : Nat} {l : List UInt8} {n : Nat} (hb : Blk w h (cb l) T') (hn : n ≤ 1114111) (hs : ¬ (55296 ≤ n ∧ n ≤ 57343)) (hm : (enc n).length ≤ m) (hc : c + m ≤ l.length) :
    Calls Tryd.prog 87 #[.slice (some ⟨h, c, none⟩) m cap, .int .i32 n] w fun e w' => e = .returned (.int .i64 ((enc n).length : Nat)) ∧ Blk w' h (cb (put l c (enc n))) T' ∧ Kp (On h) w w' := by
  refine utf8_EncodeRune.calls _ _ _ _ ?_
  unfold utf8_EncodeRune.t
  have wu : IntKind.wrap IntKind.u32 (n : Int) = (n : Int) := by rw [IntKind.wrap_u32]; omega
  rw [wu]
  refine s_iteD (fun h1 => ?_) (fun h1 => ?_)
  · have en : enc n = [UInt8.ofNat n] := by unfold enc; rw [if_pos (by omega)]
    rw [en] at hm ⊢
    simp only [List.length_cons, List.length_nil] at hm
    refine s_chk (by omega) (s_ptr ?_)
    refine s_stb (UInt8.ofNat n) hb (by omega) (byte_of (by rw [wrapB_in (by omega) (by omega)]) (by omega)) fun w1 b1 k1 => s_leaf ⟨rfl, rfl, b1, k1⟩
  refine s_call (R := fun e w' => e = .returned (.int .i64 ((enc n).length : Nat)) ∧ Blk w' h (cb (put l c (enc n))) T' ∧ Kp (On h) w w') ?_ ?_
  rotate_left
  · rintro e w1 ⟨rfl, b1, k1⟩
    exact ⟨_, rfl, s_leaf ⟨rfl, rfl, b1, k1⟩⟩
  refine utf8_encodeRuneNonASCII.calls _ _ _ _ ?_
  unfold utf8_encodeRuneNonASCII.t
  rw [wu]
  have f6 : Int.fdiv (n : Int) (64 : Int) = ((n / 64 : Nat) : Int) := fd n 64
  have f12 : Int.fdiv (n : Int) (4096 : Int) = ((n / 4096 : Nat) : Int) := fd n 4096
  have f18 : Int.fdiv (n : Int) (262144 : Int) = ((n / 262144 : Nat) : Int) := fd n 262144
  have ld : ∀ {w1 : World} {l1 : List UInt8} {j : Nat}, Blk w1 h (cb l1) T' → l1.length = l.length → c + j < l.length → ∃ x : Int, w1.cell? (Addr.add ⟨h, c, none⟩ j) = some (.int .u8 x) := fun {w1 l1 j} b hl hj => by
    rw [addr_add, b.cell, cb, List.getElem?_map, List.getElem?_eq_getElem (by omega)]; exact ⟨_, rfl⟩
  refine s_iteD (fun h2 => ?_) (fun h2 => ?_)
  · have en : enc n = [UInt8.ofNat (192 + n / 64), UInt8.ofNat (128 + n % 64)] := by unfold enc; rw [if_neg (by omega), if_pos (by omega)]
    rw [en] at hm ⊢
    simp only [List.length_cons, List.length_nil] at hm
    have hq : n / 64 < 32 := by omega
    have o := or8 (a := 192) (b := n / 64) (by decide) (by omega) (by rw [or192 _ hq]; omega)
    rw [or192 _ hq] at o
    refine s_chk (by omega) (s_ptr ?_)
    obtain ⟨x, hx⟩ := ld (j := 1) hb rfl (by omega)
    refine s_load x hx (s_chk (by decide) (s_chk (by omega) (s_ptr ?_)))
    rw [f6]
    refine s_stb (UInt8.ofNat (192 + n / 64)) hb (by omega) (byte_of o (by omega)) fun w1 b1 k1 => s_chk (by omega) (s_ptr ?_)
    refine s_stb (UInt8.ofNat (128 + n % 64)) b1 (by rw [List.length_set]; omega) (byte_of (cnt n) (by omega)) fun w2 b2 k2 => s_leaf ⟨rfl, rfl, b2, k1.trans k2⟩
  -- whether three bytes
  refine s_cut (fun x w' => x = (decide (n < 55296 ∨ (57343 < n ∧ n ≤ 65535)), (0 : Int), ()) ∧ w = w') ?_ ?_
  · refine s_iteD (fun h3 => s_leaf ?_) (fun h3 => ?_)
    · rw [if_pos rfl]
      have e : decide ((n : Int) < 55296) = decide (n < 55296 ∨ (57343 < n ∧ n ≤ 65535)) := by rw [decide_eq_decide]; omega
      rw [e]
      generalize decide (n < 55296 ∨ (57343 < n ∧ n ≤ 65535)) = d
      exact ⟨(d, (0 : Int), ()), rfl, rfl, rfl⟩
    refine s_cut (fun x w' => x = (decide (57343 < n ∧ n ≤ 65535), ()) ∧ w = w') ?_ ?_
    · refine s_iteD (fun h4 => s_leaf ?_) (fun h4 => s_leaf ?_)
      · rw [if_pos rfl]
        refine ⟨(decide ((n : Int) ≤ 65535), ()), rfl, bpair ?_, rfl⟩
        simp only [decide_eq_true_eq]; omega
      · rw [if_pos rfl]
        exact ⟨(false, ()), rfl, by rw [decide_eq_false (by omega)]; rfl, rfl⟩
    rintro x w1 ⟨rfl, rfl⟩
    simp only [utf8_encodeRuneNonASCII.t1]
    refine s_leaf ?_
    rw [if_pos rfl]
    refine ⟨(decide (57343 < n ∧ n ≤ 65535), (0 : Int), ()), rfl, ?_, rfl⟩
    have e : decide (57343 < n ∧ n ≤ 65535) = decide (n < 55296 ∨ (57343 < n ∧ n ≤ 65535)) := by rw [decide_eq_decide]; omega
    exact congrArg (fun b => (b, (0 : Int), ())) e
  rintro x w1 ⟨rfl, rfl⟩
  simp only [utf8_encodeRuneNonASCII.t2, wu]
  refine s_cut (fun _ _ => False) ?_ (fun _ _ h => h.elim)
  refine s_iteD (fun h3 => ?_) (fun h3 => ?_)
  · have en : enc n = [UInt8.ofNat (224 + n / 4096), UInt8.ofNat (128 + n / 64 % 64), UInt8.ofNat (128 + n % 64)] := by unfold enc; rw [if_neg (by omega), if_neg (by omega), if_neg hs, if_pos (by omega)]
    rw [en] at hm ⊢
    simp only [List.length_cons, List.length_nil] at hm
    have hq : n / 4096 < 16 := by omega
    have o := or8 (a := 224) (b := n / 4096) (by decide) (by omega) (by rw [or224 _ hq]; omega)
    rw [or224 _ hq] at o
    refine s_chk (by omega) (s_ptr ?_)
    obtain ⟨x, hx⟩ := ld (j := 2) hb rfl (by omega)
    refine s_load x hx (s_chk (by decide) (s_chk (by omega) (s_ptr ?_)))
    rw [f6, f12]
    refine s_stb (UInt8.ofNat (224 + n / 4096)) hb (by omega) (byte_of o (by omega)) fun w1 b1 k1 => s_chk (by decide) (s_chk (by omega) (s_ptr ?_))
    refine s_stb (UInt8.ofNat (128 + n / 64 % 64)) b1 (by rw [List.length_set]; omega) (byte_of (cnt (n / 64)) (by omega)) fun w2 b2 k2 => s_chk (by omega) (s_ptr ?_)
    refine s_stb (UInt8.ofNat (128 + n % 64)) b2 (by rw [List.length_set, List.length_set]; omega) (byte_of (cnt n) (by omega)) fun w3 b3 k3 => s_leaf ?_
    rw [if_neg (by decide)]
    exact ⟨rfl, rfl, b3, (k1.trans k2).trans k3⟩
  refine s_cut (fun x w' => x = (true, ()) ∧ w = w') ?_ ?_
  · refine s_iteD (fun h4 => s_leaf ?_) (fun h4 => by omega)
    rw [if_pos rfl]
    have e : decide ((n : Int) ≤ 1114111) = true := decide_eq_true (by omega)
    exact ⟨(decide ((n : Int) ≤ 1114111), ()), rfl, congrArg (fun b => (b, ())) e, rfl⟩
  rintro x w1 ⟨rfl, rfl⟩
  simp only [utf8_encodeRuneNonASCII.t3]
  refine sat_iteT.2 ?_
  have en : enc n = [UInt8.ofNat (240 + n / 262144), UInt8.ofNat (128 + n / 4096 % 64), UInt8.ofNat (128 + n / 64 % 64), UInt8.ofNat (128 + n % 64)] := by unfold enc; rw [if_neg (by omega), if_neg (by omega), if_neg hs, if_neg (by omega)]
  rw [en] at hm ⊢
  simp only [List.length_cons, List.length_nil] at hm
  have hq : n / 262144 < 8 := by omega
  have o := or8 (a := 240) (b := n / 262144) (by decide) (by omega) (by rw [or240 _ hq]; omega)
  rw [or240 _ hq] at o
  refine s_chk (by omega) (s_ptr ?_)
  obtain ⟨x, hx⟩ := ld (j := 3) hb rfl (by omega)
  refine s_load x hx (s_chk (by decide) (s_chk (by omega) (s_ptr ?_)))
  rw [f6, f12, f18]
  refine s_stb (UInt8.ofNat (240 + n / 262144)) hb (by omega) (byte_of o (by omega)) fun w1 b1 k1 => s_chk (by decide) (s_chk (by omega) (s_ptr ?_))
  refine s_stb (UInt8.ofNat (128 + n / 4096 % 64)) b1 (by rw [List.length_set]; omega) (byte_of (cnt (n / 4096)) (by omega)) fun w2 b2 k2 => s_chk (by decide) (s_chk (by omega) (s_ptr ?_))
  refine s_stb (UInt8.ofNat (128 + n / 64 % 64)) b2 (by rw [List.length_set, List.length_set]; omega) (byte_of (cnt (n / 64)) (by omega)) fun w3 b3 k3 => s_chk (by omega) (s_ptr ?_)
  refine s_stb (UInt8.ofNat (128 + n % 64)) b3 (by rw [List.length_set, List.length_set, List.length_set]; omega) (byte_of (cnt n) (by omega)) fun w4 b4 k4 => s_leaf ?_
  rw [if_neg (by decide)]
  exact ⟨rfl, rfl, b4, ((k1.trans k2).trans k3).trans k4⟩
/-- An escape at a place: how long it is, and its bytes. -/
def stp (s : ByteArray) (a : Nat) : Option (Nat × List UInt8) :=
  if a + 2 ≤ s.size ∧ bn s a = 92 then
    if isX (bt s ((a + 1 : Nat) : Int)) then some (2, [sh (gb s (a + 1))])
    else if bn s (a + 1) = 117 then (due s a).map fun p => (p.1, enc p.2)
    else none
  else none
theorem due_le {s : ByteArray} {a k n : Nat} (h : due s a = some (k, n)) : 6 ≤ k ∧ a + k ≤ s.size ∧ n ≤ 1114111 ∧ ¬ (55296 ≤ n ∧ n ≤ 57343) ∧ k ≤ 12 := by
  unfold due at h
  split at h
  · cases h
  · rename_i m hm
    have := ds_lt hm
    split at h
    · cases h; omega
    split at h
    · cases h; omega
    split at h
    · cases h; omega
    split at h
    · cases h
    · rename_i m2 hm2
      have := ds_lt hm2
      split at h
      · have h := Option.some.inj h
        have h1 := congrArg Prod.fst h
        have h2 := congrArg Prod.snd h
        simp only at h1 h2
        omega
      · cases h; omega
theorem stp_le {s : ByteArray} {a k : Nat} {o : List UInt8} (h : stp s a = some (k, o)) : 2 ≤ k ∧ a + k ≤ s.size ∧ 1 ≤ o.length ∧ o.length ≤ k ∧ k ≤ 12 := by
  unfold stp at h
  split at h
  · split at h
    · cases h; simp; omega
    split at h
    · cases hd : due s a with
      | none => rw [hd] at h; cases h
      | some p =>
        rw [hd] at h
        obtain ⟨k', n⟩ := p
        cases h
        have := due_le hd
        have := enc_len n
        simp only; omega
    · cases h
  · cases h
def stV (r : Option (Nat × List UInt8)) : Value := match r with
  | some (k, o) => .tuple #[.int .i64 k, .int .i64 (o.length : Nat)]
  | none => .tuple #[.int .i64 (-1), .int .i64 (-1)]
/-- What is written. -/
def stL (l : List UInt8) (c : Nat) (r : Option (Nat × List UInt8)) : List UInt8 := match r with
  | some (_, o) => put l c o
  | none => l
def gT : Nat := 11
/-- The table of the letters. -/
def Lt (w : World) : Prop := ∀ b : UInt8, isX (b.toNat : Int) = true → w.cell? ⟨gT, b.toNat, none⟩ = some (bv (sh b))
end Go.Proofs.YtlfebfkphgelfaaDoor.Je
namespace Go.Proofs.YtlfebfkphgelfaaDoor.Je
open Go Go.Proofs Go.RowKit Go.Proofs.YtlfebfkphgelfaaDoor.Rx Go.Proofs.YtlfebfkphgelfaaDoor.Tr Go.Proofs.YtlfebfkphgelfaaDoor.Pl Go.Proofs.YtlfebfkphgelfaaDoor.Ut Go.Proofs.YtlfebfkphgelfaaDoor.Ch Go.Proofs.YtlfebfkphgelfaaDoor.Bw Go.Proofs.YtlfebfkphgelfaaDoor.Uq
open Go.Proofs.YtlfebfkphgelfaaDoor.Sr (s_allocE isX_ask)

abbrev tC : TypeId := 73
/-- The configuration that is taken where none is given. -/
def cfg : List Value := [.bool false, .bool false, .int .i64 0]
theorem new_blk {w w1 : World} {cs : List Value} {t : TypeId} (h : w.alloc (.cells cs.toArray t (0, 0)) = w1) : Blk w1 w.heap.size cs t ∧ Kp Off w w1 ∧ w1.heap.size = w.heap.size + 1 :=
  ⟨by rw [← h]; exact Blk.new w cs t, by rw [← h]; exact (Kp.refl _ w).alloc _, by rw [← h]; simp⟩
theorem Lt.off {w w' : World} {h : Nat} (hL : Lt w) (k : Kp (On h) w w') (hh : h ≠ gT) : Lt w' := fun b hb => by
  have h1 := hL b hb
  rw [k.cell (Ms.cell_lt h1) (fun e => by have e : gT = h := e; omega)]; exact h1
theorem Lt.off' {w w' : World} (hL : Lt w) (k : Kp Off w w') : Lt w' := fun b hb => by
  have h1 := hL b hb
  rw [k.cell (Ms.cell_lt h1) id]; exact h1
theorem step_any {w : World} {s : ByteArray} {g y a n cap h c m cap2 y2 T' : Nat} {l : List UInt8} (hI : In w s g y a n) (hcap : n ≤ cap) (hs : s.size < 100000000000) (hb : Blk w h (cb l) T') (hL : Lt w) (hm : n ≤ m) (hc : c + m ≤ l.length) (hy2 : 0 < m → y2 = c) :
    Calls Tryd.prog 82 #[.agg cfg.toArray, .slice (some ⟨g, y, none⟩) n cap, .slice (some ⟨h, y2, none⟩) m cap2] w
      fun e w' => e = .returned (stV (stp s a)) ∧ Blk w' h (cb (stL l c (stp s a))) T' ∧ Kp (On h) w w' := by
  refine jsonparser_unescapeToUTF8Config.calls _ _ _ _ _ _ _ _ _ ?_
  unfold jsonparser_unescapeToUTF8Config.t
  have hlen := hI.len
  obtain ⟨w1, hw1⟩ : ∃ w1, w.alloc (.cells cfg.toArray tC (0, 0)) = w1 := ⟨_, rfl⟩
  obtain ⟨b0, k1, z1⟩ := new_blk hw1
  have hI1 := hI.kp k1 id
  have hb1 := k1.blk hb id
  have hL1 := hL.off' k1
  have k1' : Kp (On h) w w1 := k1.mono fun _ _ c => c.elim
  refine s_allocE w.heap.size rfl w1 hw1 ?_
  have cell : ∀ j, j < n → w1.cell? (Addr.add ⟨g, y, none⟩ j) = some (.int .u8 (bn s (a + j))) := fun j hj => by
    rw [addr_add]; exact hI1.cell hj
  have none_ : stp s a = none → ∀ w', Kp Off w1 w' → (Ending.returned (retVal [.int .i64 (-1), .int .i64 (-1)]) = .returned (stV (stp s a)) ∧ Blk w' h (cb (stL l c (stp s a))) T' ∧ Kp (On h) w w') := fun e w' k => by
    rw [e]; exact ⟨rfl, k.blk hb1 id, k1'.trans (k.mono fun _ _ c => c.elim)⟩
  refine s_cut (fun x w' => x = (decide (¬ (a + 2 ≤ s.size ∧ bn s a = 92)), ()) ∧ w1 = w') ?_ ?_
  · refine s_iteD (fun h1 => s_leaf ?_) (fun h1 => s_chk (by omega) (s_ptr (s_load ((bn s a : Nat) : Int) (cell 0 (by omega)) (s_leaf ?_))))
    · rw [if_pos rfl]
      have e : true = decide (¬ (a + 2 ≤ s.size ∧ bn s a = 92)) := (decide_eq_true (by omega)).symm
      exact ⟨(true, ()), rfl, congrArg (fun b => (b, ())) e, rfl⟩
    · rw [if_pos rfl]
      refine ⟨(((bn s a : Nat) : Int) != 92, ()), rfl, bpair ?_, rfl⟩
      simp only [bne_iff_ne, ne_eq, decide_eq_true_eq]; omega
  rintro x w1' ⟨rfl, rfl⟩
  simp only [jsonparser_unescapeToUTF8Config.t1]
  refine s_iteD (fun h1 => s_leaf ⟨rfl, none_ (by unfold stp; rw [if_neg h1]) _ (Kp.refl _ _)⟩) (fun h1 => ?_)
  have h1 : a + 2 ≤ s.size ∧ bn s a = 92 := Decidable.not_not.1 h1
  have st0 : stp s a = if isX (bt s ((a + 1 : Nat) : Int)) then some (2, [sh (gb s (a + 1))]) else if bn s (a + 1) = 117 then (due s a).map fun p => (p.1, enc p.2) else none := by unfold stp; rw [if_pos h1]
  refine s_chk (by omega) (s_ptr (s_load ((bn s (a + 1) : Nat) : Int) (cell 1 (by omega)) ?_))
  have hbt : bt s ((a + 1 : Nat) : Int) = ((bn s (a + 1) : Nat) : Int) := bt_bn s (a + 1)
  have hy2 := hy2 (by omega)
  subst hy2
  refine s_cut (fun _ w' => stp s a = none ∧ w1 = w') ?_ ?_
  rotate_left
  · rintro x w1' ⟨e, rfl⟩
    simp only [jsonparser_unescapeToUTF8Config.t11, addr_add, Nat.zero_add]
    refine s_load false (b0.cell 1) (sat_iteF.2 (s_leaf ⟨rfl, none_ e _ (Kp.refl _ _)⟩))
  refine s_cut (fun x w' => x = (isX (bt s ((a + 1 : Nat) : Int)), ()) ∧ w1 = w') ?_ ?_
  · rw [hbt]
    generalize ((bn s (a + 1) : Nat) : Int) = c
    have y1 : isX c = true → (∃ x, [Value.bool true] = (Sh.cons .bool .nil).vals x ∧ x = (isX c, ()) ∧ w1 = w1) := fun h => ⟨(true, ()), rfl, by rw [h]; rfl, rfl⟩
    refine isX_ask (fun h => ?_) (fun h1 => ?_)
    · rw [if_pos rfl]; exact y1 (by subst h; rfl)
    refine s_cut (fun x w' => x = (isX c, ()) ∧ w1 = w') ?_ (by rintro x w' ⟨rfl, rfl⟩; refine s_leaf ?_; rw [if_pos rfl]; exact ⟨(_, ()), rfl, rfl, rfl⟩)
    refine isX_ask (fun h => ?_) (fun h2 => ?_)
    · rw [if_pos rfl]; exact y1 (by subst h; rfl)
    refine s_cut (fun x w' => x = (isX c, ()) ∧ w1 = w') ?_ (by rintro x w' ⟨rfl, rfl⟩; refine s_leaf ?_; rw [if_pos rfl]; exact ⟨(_, ()), rfl, rfl, rfl⟩)
    refine isX_ask (fun h => ?_) (fun h3 => ?_)
    · rw [if_pos rfl]; exact y1 (by subst h; rfl)
    refine s_cut (fun x w' => x = (isX c, ()) ∧ w1 = w') ?_ (by rintro x w' ⟨rfl, rfl⟩; refine s_leaf ?_; rw [if_pos rfl]; exact ⟨(_, ()), rfl, rfl, rfl⟩)
    refine isX_ask (fun h => ?_) (fun h4 => ?_)
    · rw [if_pos rfl]; exact y1 (by subst h; rfl)
    refine s_cut (fun x w' => x = (isX c, ()) ∧ w1 = w') ?_ (by rintro x w' ⟨rfl, rfl⟩; refine s_leaf ?_; rw [if_pos rfl]; exact ⟨(_, ()), rfl, rfl, rfl⟩)
    refine isX_ask (fun h => ?_) (fun h5 => ?_)
    · rw [if_pos rfl]; exact y1 (by subst h; rfl)
    refine s_cut (fun x w' => x = (isX c, ()) ∧ w1 = w') ?_ (by rintro x w' ⟨rfl, rfl⟩; refine s_leaf ?_; rw [if_pos rfl]; exact ⟨(_, ()), rfl, rfl, rfl⟩)
    refine isX_ask (fun h => ?_) (fun h6 => ?_)
    · rw [if_pos rfl]; exact y1 (by subst h; rfl)
    refine s_cut (fun x w' => x = (isX c, ()) ∧ w1 = w') ?_ (by rintro x w' ⟨rfl, rfl⟩; refine s_leaf ?_; rw [if_pos rfl]; exact ⟨(_, ()), rfl, rfl, rfl⟩)
    refine isX_ask (fun h => ?_) (fun h7 => ?_)
    · rw [if_pos rfl]; exact y1 (by subst h; rfl)
    refine s_leaf ?_
    rw [if_pos rfl]
    refine ⟨(c == 116, ()), rfl, ?_, rfl⟩
    have : isX c = (c == 116) := by simp [isX, h1, h2, h3, h4, h5, h6, h7]
    rw [this]; rfl
  rintro x w1' ⟨rfl, rfl⟩
  simp only [jsonparser_unescapeToUTF8Config.t8]
  refine s_cut (fun _ w' => stp s a = none ∧ w1 = w') ?_ (fun _ w' hh => by
    unfold jsonparser_unescapeToUTF8Config.t10; refine s_leaf ?_; rw [if_pos rfl]; exact ⟨(), rfl, hh⟩)
  cases hX : isX (bt s ((a + 1 : Nat) : Int)) with
  | true =>
    rw [hX, if_pos rfl] at st0
    refine sat_iteT.2 (s_chk ?_ ?_)
    · have := isX_iff.1 hX
      rw [hbt] at this; omega
    refine s_load ((sh (gb s (a + 1))).toNat : Int) ?_ (s_chk (by omega) (s_ptr ?_))
    · rw [Int.toNat_natCast, Nat.mul_one, addr_add, Nat.zero_add]
      exact hL1 (gb s (a + 1)) (by rw [gb_bn, ← hbt]; exact hX)
    refine s_stb (sh (gb s (a + 1))) hb1 (by omega) rfl fun w2 b2 k2 => s_leaf ?_
    rw [if_neg (by decide), if_neg (by decide), st0]
    exact ⟨rfl, rfl, b2, k1'.trans k2⟩
  | false =>
    rw [hX, if_neg (by decide)] at st0
    refine sat_iteF.2 ?_
    refine s_cut (fun _ w' => stp s a = none ∧ w1 = w') ?_ (fun _ w' hh => by
      unfold jsonparser_unescapeToUTF8Config.t9; refine s_leaf ?_; rw [if_pos rfl]; exact ⟨(false, ()), rfl, hh⟩)
    refine s_iteE (fun h39 => ?_) (fun h39 => ?_)
    · simp only [addr_add, Nat.zero_add]
      refine s_load false (b0.cell 0) (sat_iteF.2 (s_leaf ?_))
      rw [if_pos rfl]
      exact ⟨(), rfl, by rw [st0, if_neg (by omega)], rfl⟩
    refine s_iteE (fun hu => ?_) (fun hu => s_leaf ?_)
    rotate_left
    · rw [if_pos rfl]
      exact ⟨(), rfl, by rw [st0, if_neg (by omega)], rfl⟩
    rw [if_pos (by omega)] at st0
    refine s_call (decode_any hI1 hs hcap) ?_
    rintro e w2 ⟨rfl, k2⟩
    have k2' : Kp (On h) w w2 := k1'.trans (k2.mono fun _ _ c => c.elim)
    cases hd : due s a with
    | none =>
      rw [hd] at st0
      refine ⟨((65533 : Int), (-1 : Int), ()), rfl, sat_iteT.2 (s_leaf ?_)⟩
      rw [if_neg (by decide), if_neg (by decide), if_neg (by decide)]
      exact ⟨rfl, none_ st0 _ k2⟩
    | some p =>
      obtain ⟨k, r⟩ := p
      rw [hd] at st0
      have hle := due_le hd
      have stl : stp s a = some (k, enc r) := st0
      have hsl := stp_le stl
      refine ⟨((r : Int), (k : Int), ()), rfl, ?_⟩
      refine s_iteE (fun hk => (by have hk : (k : Int) = -1 := hk; omega)) (fun _ => ?_)
      refine s_call (encode_any (k2.blk hb1 id) hle.2.2.1 hle.2.2.2.1 (by omega) hc) ?_
      rintro e w3 ⟨rfl, b3, k3⟩
      refine ⟨(((enc r).length : Nat) : Int), rfl, s_leaf ?_⟩
      rw [if_neg (by decide), if_neg (by decide), if_neg (by decide), stl]
      exact ⟨rfl, rfl, b3, k2'.trans k3⟩
end Go.Proofs.YtlfebfkphgelfaaDoor.Je
namespace Go.Proofs.YtlfebfkphgelfaaDoor.Je
open Go Go.Proofs Go.RowKit Go.Proofs.YtlfebfkphgelfaaDoor.Rx Go.Proofs.YtlfebfkphgelfaaDoor.Tr Go.Proofs.YtlfebfkphgelfaaDoor.Pl Go.Proofs.YtlfebfkphgelfaaDoor.Ut Go.Proofs.YtlfebfkphgelfaaDoor.Ch Go.Proofs.YtlfebfkphgelfaaDoor.Bw Go.Proofs.YtlfebfkphgelfaaDoor.Uq Go.Proofs.YtlfebfkphgelfaaDoor.Ql

/-- What the text stands for from a place on; none if a backslash begins no escape. -/
def ue (s : ByteArray) (i : Nat) : Option (List UInt8) :=
  if i < s.size then
    if bn s i ≠ 92 then (ue s (i + 1)).map (gb s i :: ·)
    else match stp s i with
      | none => none
      | some p => if 0 < p.1 then (ue s (i + p.1)).map (p.2 ++ ·) else none
  else some []
termination_by s.size - i
theorem ue_end {s : ByteArray} {i : Nat} (h : s.size ≤ i) : ue s i = some [] := by rw [ue, if_neg (by omega)]
theorem ue_plain {s : ByteArray} {i : Nat} (h : i < s.size) (hb : bn s i ≠ 92) : ue s i = (ue s (i + 1)).map (gb s i :: ·) := by rw [ue, if_pos h, if_pos hb]
theorem ue_esc {s : ByteArray} {i k : Nat} {o : List UInt8} (hb : bn s i = 92) (hs : stp s i = some (k, o)) : ue s i = (ue s (i + k)).map (o ++ ·) := by
  have := stp_le hs
  rw [ue, if_pos (by omega), if_neg (by simp [hb]), hs]
  simp only
  rw [if_pos (by omega)]
theorem ue_bad {s : ByteArray} {i : Nat} (h : i < s.size) (hb : bn s i = 92) (hs : stp s i = none) : ue s i = none := by
  rw [ue, if_pos h, if_neg (by simp [hb]), hs]
theorem ue_run {s : ByteArray} : ∀ (l : List UInt8) (i : Nat) (r : List UInt8), tl s i = l ++ r → (∀ x ∈ l, x ≠ 92) → ue s i = (ue s (i + l.length)).map (l ++ ·)
  | [], i, r, _, _ => by show ue s i = (ue s i).map (fun x => x); cases ue s i <;> rfl
  | c :: l, i, r, h, hl => by
    obtain ⟨h1, h2, h3⟩ := tl_cons (show tl s i = c :: (l ++ r) from h)
    have hc : bn s i ≠ 92 := fun e => hl c (by simp) (by rw [← h2]; exact gb_of e)
    have ih := ue_run l (i + 1) r h3 fun x hx => hl x (List.mem_cons_of_mem _ hx)
    rw [ue_plain h1 hc, ih, h2, show i + (c :: l).length = i + 1 + l.length by simp only [List.length_cons]; omega]
    cases ue s (i + 1 + l.length) <;> rfl
/-- Where a byte first stands. -/
theorem ix_cases (c : UInt8) : ∀ l : List UInt8, (Lib.indexByte l c = -1 ∧ ∀ x ∈ l, x ≠ c) ∨ ∃ k : Nat, Lib.indexByte l c = (k : Int) ∧ k < l.length ∧ (∀ x ∈ l.take k, x ≠ c) ∧ ∃ r, l.drop k = c :: r
  | [] => .inl ⟨rfl, by simp⟩
  | b :: l => by
    unfold Lib.indexByte
    by_cases hb : b = c
    · subst hb
      right
      refine ⟨0, by simp, by simp, by simp, l, rfl⟩
    · have hb' : (b == c) = false := by simpa using hb
      rw [hb']
      simp only [Bool.false_eq_true, if_false]
      rcases ix_cases c l with ⟨h1, h2⟩ | ⟨k, h1, h2, h3, r, h4⟩
      · left
        rw [h1]
        refine ⟨rfl, fun x hx => ?_⟩
        rcases List.mem_cons.1 hx with rfl | hx
        · exact hb
        · exact h2 x hx
      · right
        rw [h1]
        refine ⟨k + 1, ?_, by simp only [List.length_cons]; omega, fun x hx => ?_, r, h4⟩
        · have : ((k : Int) == -1) = false := by simp only [beq_eq_false_iff_ne, ne_eq]; omega
          rw [this]; simp
        · rw [List.take_succ_cons] at hx
          rcases List.mem_cons.1 hx with rfl | hx
          · exact hb
          · exact h3 x hx
theorem tl_len (s : ByteArray) (a : Nat) : (tl s a).length = s.size - a := by unfold tl; rw [List.length_drop, Array.length_toList]; rfl
theorem tl_get {s : ByteArray} {a j : Nat} (h : a + j < s.size) : (tl s a)[j]? = some (gb s (a + j)) := by
  show (s.data.toList.drop a)[j]? = some (s.data.toList.getD (a + j) 0)
  have hl : a + j < s.data.toList.length := by rw [Array.length_toList]; exact h
  rw [List.getElem?_drop, List.getD_eq_getElem?_getD, List.getElem?_eq_getElem hl]; rfl
theorem tl_drop (s : ByteArray) (a k : Nat) : tl s (a + k) = (tl s a).drop k := by
  show s.data.toList.drop (a + k) = (s.data.toList.drop a).drop k
  rw [List.drop_drop]
theorem index_any {w : World} {s : ByteArray} {g y a n cap : Nat} (hI : In w s g y a n) :
    Calls Tryd.prog 81 #[.slice (some ⟨g, y, none⟩) n cap, .int .u8 92] w fun e w' => e = .returned (.int .i64 (Lib.indexByte (tl s a) 92)) ∧ w' = w := by
  have hl := hI.len
  have h := Tryd.bytes_IndexByte g y n cap ((tl s a).map fun b => (b.toNat : Int)) 92 w (by rw [List.length_map, tl_len]; exact hl.symm) (fun i hi => by
    rw [hI.cell hi]
    congr 2
    rw [List.getD_eq_getElem?_getD, List.getElem?_map, tl_get (by omega)]
    rfl)
  have e : Lib.bytesOf ((tl s a).map fun b => (b.toNat : Int)) = tl s a := by
    unfold Lib.bytesOf
    rw [List.map_map]
    conv => rhs; rw [← List.map_id (tl s a)]
    apply List.map_congr_left
    intro b _
    show UInt8.ofNat ((b.toNat : Int)).toNat = b
    rw [Int.toNat_natCast, UInt8.ofNat_toNat]
  rw [e] at h
  exact h
theorem kp_row {w : World} {h : Nat} {cs : Array Value} : Kp (On h) w (w.setRow h cs) :=
  ⟨rfl, rfl, rfl, by show w.heap.size ≤ (w.heap.modify h _).size; rw [Array.size_modify]; exact Nat.le_refl _, fun k hk hn => by
    show (w.heap.modify h _)[k]? = _
    rw [Array.getElem?_modify, if_neg (fun e => hn e.symm)]⟩
theorem s_copy {Q : Nat → List Value → World → Prop} {w : World} {s : ByteArray} {h g y2 y a c m cap2 n N' cap T' : Nat} {l : List UInt8} {ats : Array TypeId} {t : TypeId} {K : Int → T}
    (hb : Blk w h (cb l) T') (ha : ats = #[Sr.tBs, Sr.tBs]) (hI : In w s g y a N') (hnN : n ≤ N') (hnm : n ≤ m) (hfit : c + n ≤ l.length) (hy2 : 0 < n → y2 = c)
    (hK : ∀ w', Blk w' h (cb (l.take c ++ (tl s a).take n ++ l.drop (c + n))) T' → Kp (On h) w w' → sat Tryd.prog (K (n : Int)) Q w') :
    sat Tryd.prog (.eff (Builtin.copy_ ats t #[.slice (some ⟨h, y2, none⟩) m cap2, .slice (some ⟨g, y, none⟩) n cap]) (.int .i64) K) Q w := by
  subst ha
  have hl := hI.len
  have htl : ((tl s a).take n).length = n := by rw [List.length_take, tl_len]; omega
  rcases Nat.eq_zero_or_pos n with h0 | h0
  · subst h0
    have hr := run_copy_none (P := Tryd.prog) w Sr.tBs Sr.tBs t Sr.tB (some ⟨h, y2, none⟩) (some ⟨g, y, none⟩) m cap2 0 cap Tryd.underlying36 (by kernel_rfl) (Nat.zero_min _)
    refine s_eff ((0 : Nat) : Int) hr (hK w ?_ (Kp.refl _ _))
    rw [List.take_zero, List.append_nil, Nat.add_zero, List.take_append_drop]; exact hb
  · have hy := hy2 h0
    subst hy
    have hcl : (cb ((tl s a).take n)).length = n := by rw [cb_len, htl]
    have hr := run_copy_row (P := Tryd.prog) w Sr.tBs Sr.tBs t Sr.tB h y2 m cap2 ⟨g, y, none⟩ n cap (cb l).toArray T' (cb ((tl s a).take n)) Tryd.underlying36 (by kernel_rfl) hb
      (by rw [hcl]; exact (Nat.min_eq_left hnm).symm) (fun j v hj => by
        have hjn : j < n := by
          have := (List.getElem?_eq_some_iff.1 hj).1
          rw [hcl] at this; exact this
        rw [addr_add, hI.cell (by omega)]
        unfold cb at hj
        rw [List.getElem?_map, List.getElem?_take_of_lt hjn, tl_get (by omega)] at hj
        exact hj) (by rw [hcl, List.size_toArray, cb_len]; exact hfit) (fun v hv => by
        unfold cb at hv
        obtain ⟨b, _, rfl⟩ := List.mem_map.1 hv
        rfl)
    rw [hcl] at hr
    refine s_eff (n : Int) hr (hK _ ?_ kp_row)
    have := setRow_heap w h (cb l).toArray (((cb l).toArray.toList.take y2 ++ cb ((tl s a).take n) ++ (cb l).toArray.toList.drop (y2 + n)).toArray) T' (0, 0) hb
    have e : (cb l).toArray.toList.take y2 ++ cb ((tl s a).take n) ++ (cb l).toArray.toList.drop (y2 + n) = cb (l.take y2 ++ (tl s a).take n ++ l.drop (y2 + n)) := by
      unfold cb
      simp only [List.map_append, List.map_take, List.map_drop]
    rw [e] at this ⊢
    exact this
theorem take_laid {l e : List UInt8} {c n : Nat} (he : e.length = n) (h : c + n ≤ l.length) : (l.take c ++ e ++ l.drop (c + n)).take (c + n) = l.take c ++ e ∧ (l.take c ++ e ++ l.drop (c + n)).length = l.length := by
  have h1 : (l.take c ++ e).length = c + n := by rw [List.length_append, List.length_take]; omega
  refine ⟨?_, ?_⟩
  · rw [List.take_append_of_le_length (by omega), List.take_of_length_le (by omega)]
  · rw [List.length_append, h1, List.length_drop]; omega
end Go.Proofs.YtlfebfkphgelfaaDoor.Je
namespace Go.Proofs.YtlfebfkphgelfaaDoor.Je
open Go Go.Proofs Go.RowKit Go.Proofs.YtlfebfkphgelfaaDoor.Rx Go.Proofs.YtlfebfkphgelfaaDoor.Tr Go.Proofs.YtlfebfkphgelfaaDoor.Pl Go.Proofs.YtlfebfkphgelfaaDoor.Ut Go.Proofs.YtlfebfkphgelfaaDoor.Ch Go.Proofs.YtlfebfkphgelfaaDoor.Bw Go.Proofs.YtlfebfkphgelfaaDoor.Uq Go.Proofs.YtlfebfkphgelfaaDoor.Ql
open Go.Proofs.YtlfebfkphgelfaaDoor.Sr (s_allocE slV tBs tB)

/-- An error stands in a variable. -/
def Ev (w : World) (g : Nat) : Prop := ∃ t v, w.cell? ⟨g, 0, none⟩ = some (.iface t v)
theorem Ev.kp {S : Nat → Prop} {w w' : World} {g : Nat} (h : Ev w g) (k : Kp S w w') (hS : ¬ S g) : Ev w' g := by
  obtain ⟨t, v, h⟩ := h
  exact ⟨t, v, by rw [k.cell (Ms.cell_lt h) hS]; exact h⟩
theorem sl_at (C k g y : Nat) : (if C = k then (some (⟨g, y, none⟩ : Addr)) else Option.map (fun z : Addr => Addr.add z (k * 1)) (some ⟨g, y, none⟩)) = some ⟨g, if C = k then y else y + k, none⟩ := by
  split
  · rfl
  · simp only [Option.map_some, addr_add, Nat.mul_one]
theorem sl_0 (C g y : Nat) : (if C = 0 then (some (⟨g, y, none⟩ : Addr)) else Option.map (fun z : Addr => Addr.add z 0) (some ⟨g, y, none⟩)) = some ⟨g, y, none⟩ := by
  split
  · rfl
  · simp only [Option.map_some, addr_add, Nat.add_zero]
theorem In.from {w : World} {s : ByteArray} {g y a n C k : Nat} (h : In w s g y a n) (hC : n ≤ C) : In w s g (if C = k then y else y + k) (a + k) (n - k) :=
  ⟨fun {j} hj => by rw [if_neg (by omega)]; exact (h.fwd k).cell hj, by have := h.len; omega⟩
theorem made_zero (n : Nat) (z : Array Value) (hz : z = #[.int .u8 0]) : madeCells z n = (cb (List.replicate n 0)).toArray := by
  subst hz
  unfold madeCells
  apply Array.ext
  · simp [cb]
  · intro i h1 h2
    simp [cb, bv, Nat.mod_one]
theorem loadC {w : World} {g : Nat} (h : Blk w g cfg tC) : (Instr.loadAt tC (.pointer (some ⟨g, 0, none⟩))).run Tryd.prog w = .ok (.agg cfg.toArray) w :=
  loadAt_run (by kernel_rfl) (info_some (by kernel_rfl)) (by kernel_rfl) h
def gE : Nat := 10
/-- A slice that holds bytes. -/
def Sb (w : World) (x : Sr.Sl) (r : List UInt8) : Prop := ∃ g o : Nat, x.1 = some ⟨g, o, none⟩ ∧ x.2.1 = r.length ∧ ∀ j (hj : j < r.length), w.cell? ⟨g, o + j, none⟩ = some (.int .u8 (r[j].toNat : Int))
def UPost (s : ByteArray) (e : Ending) (w' : World) : Prop := match ue s 0 with
  | none => ∃ t v, e = .returned (.tuple #[.slice none 0 0, .iface t v])
  | some r => ∃ x : Sr.Sl, e = .returned (.tuple #[slV x, .nilIface]) ∧ Sb w' x r
theorem back {w : World} {g y cap : Nat} {l : List UInt8} (hc : ∀ j (hj : j < l.length), w.cell? ⟨g, y + j, none⟩ = some (.int .u8 (l[j].toNat : Int))) : (convert tBs 9 (.slice (some ⟨g, y, none⟩) l.length cap)).run Tryd.prog w = .ok (.string ⟨l.toArray⟩) w :=
  run_convert_bytes_back w tBs 9 tB ⟨g, y, none⟩ cap l Tryd.underlying36 Tryd.underlying5 Tryd.underlying9 (fun j hj => by rw [addr_add]; exact hc j hj)
theorem Sb.conv {w : World} {x : Sr.Sl} {r : List UInt8} (h : Sb w x r) : (convert tBs 9 (slV x)).run Tryd.prog w = .ok (.string ⟨r.toArray⟩) w := by
  obtain ⟨g, o, h1, h2, h3⟩ := h
  show (convert tBs 9 (.slice x.1 x.2.1 x.2.2)).run Tryd.prog w = _
  rw [h1, h2]
  exact back h3
theorem blk_back {w : World} {g cap T' : Nat} {l : List UInt8} (hb : Blk w g (cb l) T') (n : Nat) (hn : n ≤ l.length) : Sb w (some ⟨g, 0, none⟩, n, cap) (l.take n) := by
  have hlen : (l.take n).length = n := by rw [List.length_take]; omega
  refine ⟨g, 0, rfl, hlen.symm, fun j hj => ?_⟩
  rw [Nat.zero_add, hb.cell, cb, List.getElem?_map, List.getElem_take, List.getElem?_eq_getElem (by omega)]; rfl
/-- The loop: from an escape on. -/
theorem loop_any {W : World} {s : ByteArray} {g h z0 co0 T' a0 N : Nat} {b0 i0 : Sr.Sl} (hs : s.size ≤ 8000000000) (hNs : s.size ≤ N) (hgh : g ≠ h) (hT : h ≠ gT) (hE : h ≠ gE) (hz : h ≠ z0) (hz0 : Blk W z0 cfg tC) (hL : Lt W) (hEv : Ev W gE) (hco : s.size ≤ co0)
    (Q : Nat → List Value → World → Prop) (hQ : ∀ vs w', UPost s (.returned (retVal vs)) w' → Kp (On h) W w' → (∃ l, l.length = N ∧ Blk w' h (cb l) T') → Q 0 vs w')
    (init : ∃ a c y y2 ci co l, a0 = s.size - a ∧ b0 = (some ⟨h, y2, none⟩, s.size - c, co) ∧ i0 = (some ⟨g, y, none⟩, s.size - a, ci) ∧ c ≤ a ∧ In W s g y a (s.size - a) ∧ s.size - a ≤ ci ∧ (0 < s.size - c → y2 = c) ∧ s.size - c ≤ co ∧ Blk W h (cb l) T' ∧ l.length = N ∧ ue s 0 = (ue s a).map (l.take c ++ ·) ∧ a < s.size ∧ bn s a = 92) :
    sat Tryd.prog (.loop 1 (.cons .slice (.cons .slice .nil)) [.slice b0.1 b0.2.1 b0.2.2, .slice i0.1 i0.2.1 i0.2.2] (fun z => jsonparser_unescapeConfig.t2 ⟨z0, 0, none⟩ (some ⟨h, 0, none⟩, s.size, co0) z.1 z.2.1)) Q W := by
  refine s_loop (fun n x w' => ∃ a c y y2 ci co l, n = s.size - a ∧ x = ((some ⟨h, y2, none⟩, s.size - c, co), (some ⟨g, y, none⟩, s.size - a, ci), ()) ∧ c ≤ a ∧ In w' s g y a (s.size - a) ∧ s.size - a ≤ ci ∧ (0 < s.size - c → y2 = c) ∧ s.size - c ≤ co ∧ Blk w' h (cb l) T' ∧ l.length = N ∧ ue s 0 = (ue s a).map (l.take c ++ ·) ∧ a < s.size ∧ bn s a = 92 ∧ Kp (On h) W w') a0 (b0, i0, ()) rfl ?_ ?_
  · obtain ⟨a, c, y, y2, ci, co, l, rfl, rfl, rfl, r⟩ := init
    exact ⟨a, c, y, y2, ci, co, l, rfl, rfl, r.1, r.2.1, r.2.2.1, r.2.2.2.1, r.2.2.2.2.1, r.2.2.2.2.2.1, r.2.2.2.2.2.2.1, r.2.2.2.2.2.2.2.1, r.2.2.2.2.2.2.2.2.1, r.2.2.2.2.2.2.2.2.2, Kp.refl _ _⟩
  rintro n x w1 ⟨a, c, y, y2, ci, co, l, rfl, rfl, hca, hI, hci, hy2, hcoc, hb, hl, hue, ha, h92, k1⟩
  simp only [jsonparser_unescapeConfig.t2]
  have ng : ¬ On h g := fun e => hgh e
  have nz : ¬ On h z0 := fun e => by have e : z0 = h := e; exact hz e.symm
  have nE : ¬ On h gE := fun e => by have e : gE = h := e; exact hE e.symm
  refine s_eff (false, false, (0 : Int), ()) (loadC (k1.blk hz0 nz)) ?_
  refine s_call (step_any hI hci (by omega) hb (hL.off k1 hT) (by omega) (by omega) hy2) ?_
  rintro e w2 ⟨rfl, hb2, k2⟩
  have k12 := k1.trans k2
  cases hst : stp s a with
  | none =>
    refine ⟨((-1 : Int), (-1 : Int), ()), rfl, sat_iteT.2 (s_drew ?_)⟩
    obtain ⟨t, v, hv⟩ := hEv.kp k12.drew nE
    refine s_load (Value.iface t v) hv (s_leaf ?_)
    rw [if_neg (by decide)]
    rw [hst] at hb2
    refine hQ _ _ ?_ k12.drew ⟨_, hl, (Kp.refl Off w2).drew.blk hb2 id⟩
    unfold UPost
    rw [hue, ue_bad ha h92 hst]
    exact ⟨t, v, rfl⟩
  | some p =>
    obtain ⟨k, o⟩ := p
    have hle := stp_le hst
    rw [hst] at hb2
    have hb2 : Blk w2 h (cb (put l c o)) T' := hb2
    have hpl := put_len l c o
    have hpt := put_take o l c (by omega)
    generalize put l c o = l2 at hb2 hpl hpt
    have hue2 : ue s 0 = (ue s (a + k)).map (l2.take (c + o.length) ++ ·) := by
      rw [hue, ue_esc h92 hst, hpt]
      cases ue s (a + k) <;> simp
    refine ⟨((k : Int), ((o.length : Nat) : Int), ()), rfl, ?_⟩
    refine s_iteE (fun hk => (by have hk : (k : Int) = -1 := hk; omega)) (fun _ => ?_)
    simp only [Int.toNat_natCast, sl_at, Nat.sub_zero, Nat.add_zero, ite_self]
    refine s_chk (by omega) (s_chk (by omega) ?_)
    have hI2 := (hI.kp k2 ng).from (k := k) hci
    refine s_call (index_any hI2) ?_
    rintro e w2 ⟨rfl, rfl⟩
    refine ⟨_, rfl, ?_⟩
    have htl := tl_len s (a + k)
    rcases ix_cases 92 (tl s (a + k)) with ⟨e1, e2⟩ | ⟨m, e1, e2, e3, r, e4⟩
    · rw [e1]
      refine s_iteE (fun _ => ?_) (fun hh => absurd rfl hh)
      refine s_copy hb2 rfl hI2 (Nat.le_refl _) (by omega) (by omega) (c := c + o.length) (fun h0 => by
        rw [if_neg (by omega)]; have := hy2 (by omega); omega) fun w3 hb3 k3 => ?_
      have htk : (tl s (a + k)).take (s.size - a - k) = tl s (a + k) := List.take_of_length_le (by omega)
      rw [htk] at hb3
      have hlaid := take_laid (l := l2) (e := tl s (a + k)) (c := c + o.length) (n := s.size - a - k) (by omega) (by omega)
      generalize hl3 : l2.take (c + o.length) ++ tl s (a + k) ++ l2.drop (c + o.length + (s.size - a - k)) = l3 at hb3 hlaid
      have hw : IntKind.wrap IntKind.i64 (((s.size : Nat) : Int) - (((s.size - c - o.length - (s.size - a - k) : Nat)) : Int)) = ((c + o.length + (s.size - a - k) : Nat) : Int) := by
        rw [wrap_in (by omega) (by omega)]; omega
      refine s_chk (by omega) ?_
      rw [hw]
      refine s_chk (by omega) (s_leaf ?_)
      rw [if_neg (by decide)]
      refine hQ _ _ ?_ (k12.trans k3) ⟨l3, by have := hlaid.2; omega, hb3⟩
      unfold UPost
      have hue3 : ue s 0 = some (l3.take (c + o.length + (s.size - a - k))) := by
        rw [hue2, ue_run (tl s (a + k)) (a + k) [] (by rw [List.append_nil]) e2, ue_end (by omega), hlaid.1]; simp
      rw [hue3]
      refine ⟨(some ⟨h, 0, none⟩, c + o.length + (s.size - a - k), co0), ?_, blk_back hb3 (c + o.length + (s.size - a - k)) (by have := hlaid.2; omega)⟩
      simp only [Int.toNat_natCast]
      rfl
    · rw [e1]
      refine s_iteE (fun hh => (by have hh : (m : Int) = -1 := hh; omega)) (fun _ => ?_)
      simp only [Int.toNat_natCast]
      refine s_chk (by omega) ?_
      refine s_copy hb2 rfl hI2 (n := m) (by omega) (by omega) (by omega) (c := c + o.length) (fun h0 => by
        rw [if_neg (by omega)]; have := hy2 (by omega); omega) fun w3 hb3 k3 => ?_
      have hlaid := take_laid (l := l2) (e := (tl s (a + k)).take m) (c := c + o.length) (n := m) (by rw [List.length_take]; omega) (by omega)
      generalize hl3 : l2.take (c + o.length) ++ (tl s (a + k)).take m ++ l2.drop (c + o.length + m) = l3 at hb3 hlaid
      refine s_chk (by omega) (s_chk (by omega) (s_leaf ?_))
      rw [if_pos rfl]
      have hsplit : tl s (a + k) = (tl s (a + k)).take m ++ (tl s (a + k)).drop m := (List.take_append_drop _ _).symm
      have h92' : bn s (a + k + m) = 92 := by
        have := tl_drop s (a + k) m
        rw [e4] at this
        exact bn_gb (tl_cons this).2.1
      have hI3 := (hI2.kp k3 ng).from (k := m) (C := ci - k) (by omega)
      refine ⟨s.size - (a + k + m), ((some ⟨h, (if co - o.length = m then (if co = o.length then y2 else y2 + o.length) else (if co = o.length then y2 else y2 + o.length) + m), none⟩, s.size - (c + o.length + m), co - o.length - m), (some ⟨g, (if ci - k = m then (if ci = k then y else y + k) else (if ci = k then y else y + k) + m), none⟩, s.size - (a + k + m), ci - k - m), ()), ?_, by omega, a + k + m, c + o.length + m, (if ci - k = m then (if ci = k then y else y + k) else (if ci = k then y else y + k) + m), (if co - o.length = m then (if co = o.length then y2 else y2 + o.length) else (if co = o.length then y2 else y2 + o.length) + m), ci - k - m, co - o.length - m, l3, rfl, rfl, by omega, ?_, by omega, ?_, by omega, hb3, by have := hlaid.2; omega, ?_, by omega, h92', k12.trans k3⟩
      · show [Value.slice _ _ _, Value.slice _ _ _] = [Value.slice _ _ _, Value.slice _ _ _]
        rw [show s.size - c - o.length - m = s.size - (c + o.length + m) by omega, show s.size - a - k - m = s.size - (a + k + m) by omega]
      · rw [show s.size - a - k - m = s.size - (a + k + m) by omega] at hI3
        exact hI3
      · intro h0
        rw [if_neg (by omega), if_neg (by omega)]
        have := hy2 (by omega); omega
      · rw [hue2, ue_run ((tl s (a + k)).take m) (a + k) _ hsplit e3, hlaid.1, show a + k + ((tl s (a + k)).take m).length = a + k + m by rw [List.length_take]; omega]
        cases ue s (a + k + m) <;> simp
end Go.Proofs.YtlfebfkphgelfaaDoor.Je
namespace Go.Proofs.YtlfebfkphgelfaaDoor.Je
open Go Go.Proofs Go.RowKit Go.Proofs.YtlfebfkphgelfaaDoor.Rx Go.Proofs.YtlfebfkphgelfaaDoor.Tr Go.Proofs.YtlfebfkphgelfaaDoor.Pl Go.Proofs.YtlfebfkphgelfaaDoor.Ut Go.Proofs.YtlfebfkphgelfaaDoor.Ch Go.Proofs.YtlfebfkphgelfaaDoor.Bw Go.Proofs.YtlfebfkphgelfaaDoor.Uq Go.Proofs.YtlfebfkphgelfaaDoor.Ql
open Go.Proofs.YtlfebfkphgelfaaDoor.Sr (s_allocE slV tBs tB)

def gC : Nat := 0
theorem ucfg_any {w : World} {s : ByteArray} {g y0 cap h0 len2 cap2 T' : Nat} {l : List UInt8} (hs : s.size ≤ 8000000000) (hI : In w s g y0 0 s.size) (hcap : s.size ≤ cap) (hb : Blk w h0 (cb l) T') (hl : l.length = cap2) (hL : Lt w) (hEv : Ev w gE)
    (hgw : g < w.heap.size) (hgh : g ≠ h0) (hT : h0 ≠ gT) (hE : h0 ≠ gE) (lT : gT < w.heap.size) :
    Calls Tryd.prog 72 #[.agg cfg.toArray, .slice (some ⟨g, y0, none⟩) s.size cap, .slice (some ⟨h0, 0, none⟩) len2 cap2] w fun e w' => UPost s e w' ∧ Kp (On h0) w w' ∧ (∃ l', l'.length = l.length ∧ Blk w' h0 (cb l') T') := by
  refine jsonparser_unescapeConfig.calls _ _ _ _ _ _ _ _ _ ?_
  unfold jsonparser_unescapeConfig.t
  obtain ⟨w1, hw1⟩ : ∃ w1, w.alloc (.cells cfg.toArray tC (0, 0)) = w1 := ⟨_, rfl⟩
  obtain ⟨bz, k1, z1⟩ := new_blk hw1
  refine s_allocE w.heap.size rfl w1 hw1 ?_
  have hI1 := hI.kp k1 id
  have lE : gE < w.heap.size := by obtain ⟨t, v, h⟩ := hEv; exact Ms.cell_lt h
  have l0 : h0 < w.heap.size := hb.lt
  refine s_call (index_any hI1) ?_
  rintro e w1 ⟨rfl, rfl⟩
  refine ⟨_, rfl, ?_⟩
  have htl := tl_len s 0
  rcases ix_cases 92 (tl s 0) with ⟨e1, e2⟩ | ⟨k, e1, e2, e3, r, e4⟩
  · rw [e1]
    refine s_iteE (fun _ => s_leaf ⟨rfl, ?_, k1.mono fun _ _ c => c.elim, l, rfl, k1.blk hb id⟩) (fun hh => absurd rfl hh)
    unfold UPost
    rw [ue_run (tl s 0) 0 [] (by rw [List.append_nil]) e2, ue_end (by omega)]
    refine ⟨(some ⟨g, y0, none⟩, s.size, cap), rfl, ?_⟩
    simp only [List.append_nil]
    refine ⟨g, y0, rfl, htl.symm, fun j hj => ?_⟩
    have := hI1.cell (j := j) (by omega)
    rw [this]
    have hg := tl_get (s := s) (a := 0) (j := j) (by omega)
    rw [List.getElem?_eq_getElem hj] at hg
    rw [Option.some.inj hg, gb_bn]
  rw [e1]
  refine s_iteE (fun hh => (by have hh : (k : Int) = -1 := hh; omega)) (fun _ => ?_)
  refine s_cut (fun z w' => ∃ h cO T2 l2, z = ((some ⟨h, 0, none⟩, s.size, cO), ()) ∧ s.size ≤ cO ∧ Blk w' h (cb l2) T2 ∧ s.size ≤ l2.length ∧ ((h = h0 ∧ T2 = T' ∧ l2.length = l.length) ∨ w1.heap.size ≤ h) ∧ Kp Off w1 w') ?_ ?_
  · refine s_iteD (fun hc => ?_) (fun hc => ?_)
    · have hr := run_make (P := Tryd.prog) w1 tBs tB _ (.int .u8 0) Tryd.underlying36 (info_some (by kernel_rfl)) (by kernel_rfl) .i64 .i64 (s.size : Int) (s.size : Int) (by omega) (by omega) (by
        rw [show ((Tryd.prog.info? tB).get (by kernel_rfl)).bytes = 1 from by kernel_rfl]; omega) (by omega)
      rw [show ((Tryd.prog.info? tB).get (by kernel_rfl)).size = 1 from by kernel_rfl, Int.toNat_natCast, Nat.mul_one, made_zero s.size (Value.int IntKind.u8 0).cells rfl] at hr
      refine s_eff (some ⟨w1.heap.size, 0, none⟩, s.size, s.size) hr (s_leaf ?_)
      rw [if_pos rfl]
      exact ⟨((some ⟨w1.heap.size, 0, none⟩, s.size, s.size), ()), rfl, w1.heap.size, s.size, tB, List.replicate s.size 0, rfl, Nat.le_refl _, Blk.new w1 _ tB, by rw [List.length_replicate]; exact Nat.le_refl _, .inr (Nat.le_refl _), (Kp.refl _ w1).alloc _⟩
    · refine s_chk (by omega) (s_leaf ?_)
      rw [if_pos rfl]
      refine ⟨((some ⟨h0, 0, none⟩, s.size, cap2), ()), ?_, h0, cap2, T', l, rfl, by omega, k1.blk hb id, by omega, .inl ⟨rfl, rfl, rfl⟩, Kp.refl _ _⟩
      simp only [Int.toNat_natCast, sl_at, Nat.sub_zero, Nat.add_zero, ite_self]
      rfl
  rintro z w2 ⟨h, cO, T2, l2, rfl, hcO, hb2, hl2, hh, k2⟩
  have k12 := k1.trans k2
  have ng : g ≠ h := by rcases hh with ⟨rfl, _⟩ | hh <;> omega
  have nT : h ≠ gT := by rcases hh with ⟨rfl, _⟩ | hh <;> omega
  have nE : h ≠ gE := by rcases hh with ⟨rfl, _⟩ | hh <;> omega
  have nz : h ≠ w.heap.size := by rcases hh with ⟨rfl, _⟩ | hh <;> omega
  have hI2 := hI.kp k12 id
  simp only [jsonparser_unescapeConfig.t1, Int.toNat_natCast, sl_at, Nat.sub_zero, Nat.add_zero, ite_self]
  refine s_chk (by omega) ?_
  refine s_copy hb2 rfl hI2 (n := k) (by omega) (by omega) (by omega) (c := 0) (fun _ => rfl) fun w3 hb3 k3 => ?_
  have hlaid := take_laid (l := l2) (e := (tl s 0).take k) (c := 0) (n := k) (by rw [List.length_take]; omega) (by omega)
  generalize hl3 : l2.take 0 ++ (tl s 0).take k ++ l2.drop (0 + k) = l3 at hb3 hlaid
  refine s_chk (by omega) (s_chk (by omega) ?_)
  have ngO : ¬ On h g := fun e => ng e
  have hsplit : tl s 0 = (tl s 0).take k ++ (tl s 0).drop k := (List.take_append_drop _ _).symm
  have h92 : bn s (0 + k) = 92 := by
    have := tl_drop s 0 k
    rw [e4] at this
    exact bn_gb (tl_cons this).2.1
  have kk : Kp (On h) w w3 := (k12.mono fun _ _ c => c.elim).trans k3
  have fin : ∀ w', Kp (On h) w3 w' → Kp (On h0) w w' := fun w' k' => by
    have k'' := kk.trans k'
    refine ⟨k''.os, k''.tape, k''.output, k''.size, fun i hi hn => k''.block i hi fun e => ?_⟩
    have e : i = h := e
    rcases hh with ⟨e2, _⟩ | e2
    · exact hn (e.trans e2)
    · omega
  have finB : ∀ w', Kp (On h) w3 w' → (∃ l', l'.length = l3.length ∧ Blk w' h (cb l') T2) → ∃ l', l'.length = l.length ∧ Blk w' h0 (cb l') T' := fun w' k' hb' => by
    rcases hh with ⟨e2, e3, e4⟩ | e2
    · subst e2; subst e3
      obtain ⟨l', a1, a2⟩ := hb'
      exact ⟨l', by have := hlaid.2; omega, a2⟩
    · exact ⟨l, rfl, (kk.trans k').blk hb (fun e => by have e : h0 = h := e; omega)⟩
  refine loop_any (T' := T2) (W := w3) (N := l3.length) (b0 := (some ⟨h, if cO = k then 0 else 0 + k, none⟩, s.size - k, cO - k)) (i0 := (some ⟨g, if cap = k then y0 else y0 + k, none⟩, s.size - k, cap - k)) (a0 := s.size - k) hs (by have := hlaid.2; omega) ng nT nE nz (k3.blk (k2.blk bz id) (fun e => nz e.symm)) ((hL.off' k12).off k3 nT) ((hEv.kp k12 id).kp k3 (fun e => nE e.symm)) hcO _ (fun vs w' h1 h2 h3 => ⟨rfl, h1, fin w' h2, finB w' h2 h3⟩) ?_
  have hI3 : In w3 s g (if cap = k then y0 else y0 + k) k (s.size - k) := by
    have := (hI2.kp k3 ngO).from (k := k) (C := cap) hcap
    rwa [Nat.zero_add] at this
  have h92' : bn s k = 92 := by rw [Nat.zero_add] at h92; exact h92
  refine ⟨k, k, (if cap = k then y0 else y0 + k), (if cO = k then 0 else 0 + k), cap - k, cO - k, l3, rfl, rfl, rfl, Nat.le_refl _, hI3, by omega, fun h0' => by rw [if_neg (by omega)]; omega, by omega, hb3, rfl, ?_, by omega, h92'⟩
  have htk : l3.take k = (tl s 0).take k := by
    have := hlaid.1
    rw [Nat.zero_add, List.take_zero, List.nil_append] at this
    exact this
  have hrun := ue_run ((tl s 0).take k) 0 _ hsplit e3
  have hlk : ((tl s 0).take k).length = k := by rw [List.length_take]; omega
  rw [hlk, Nat.zero_add] at hrun
  rw [hrun, htk]
theorem loadAt_cells {P : Program} {w : World} {t : TypeId} {a : Addr} {cs : List Value} {i : TypeInfo} (ha : aggT P t = some true) (hi : P.info? t = some i) (hs : i.size = cs.length) (hc : ∀ j v, cs[j]? = some v → w.cell? (a.add j) = some v) :
    (Instr.loadAt t (.pointer (some a))).run P w = .ok (.agg cs.toArray) w := by
  have hl := run_loadCells_list (P := P) w a cs hc
  simp only [Instr.loadAt, Instr.sureAddr, loadVar, Sem.run_bind, Sem.run_pure, Result.andThen_ok, run_agg ha, if_true, run_size hi, hs, hl]
/-- The configuration stands in its variable. -/
def Cv (w : World) : Prop := ∀ j v, cfg[j]? = some v → w.cell? ⟨gC, j, none⟩ = some v
theorem Cv.off {w w' : World} (h : Cv w) (k : Kp Off w w') : Cv w' := fun j v hj => by
  have h1 := h j v hj
  rw [k.cell (Ms.cell_lt h1) id]; exact h1
end Go.Proofs.YtlfebfkphgelfaaDoor.Je
namespace Go.Proofs.YtlfebfkphgelfaaDoor.Je
open Go Go.Proofs Go.RowKit Go.Proofs.YtlfebfkphgelfaaDoor.Rx Go.Proofs.YtlfebfkphgelfaaDoor.Tr Go.Proofs.YtlfebfkphgelfaaDoor.Pl Go.Proofs.YtlfebfkphgelfaaDoor.Ut Go.Proofs.YtlfebfkphgelfaaDoor.Ch Go.Proofs.YtlfebfkphgelfaaDoor.Bw Go.Proofs.YtlfebfkphgelfaaDoor.Uq Go.Proofs.YtlfebfkphgelfaaDoor.Ql

/-- Whether every backslash begins an escape. -/
def vd (s : ByteArray) (i : Nat) : Bool :=
  if i < s.size then
    if bn s i ≠ 92 then vd s (i + 1)
    else match escE s (i + 1) with
      | none => false
      | some j => if i < j then vd s j else false
  else true
termination_by s.size - i
theorem vd_end {s : ByteArray} {i : Nat} (h : s.size ≤ i) : vd s i = true := by rw [vd, if_neg (by omega)]
theorem vd_plain {s : ByteArray} {i : Nat} (h : i < s.size) (hb : bn s i ≠ 92) : vd s i = vd s (i + 1) := by rw [vd, if_pos h, if_pos hb]
theorem vd_esc {s : ByteArray} {i j : Nat} (hb : bn s i = 92) (he : escE s (i + 1) = some j) : vd s i = vd s j := by
  have := escE_le he
  rw [vd, if_pos (by omega), if_neg (by simp [hb]), he]
  simp only
  rw [if_pos (by omega)]
theorem vd_bad {s : ByteArray} {i : Nat} (h : i < s.size) (hb : bn s i = 92) (he : escE s (i + 1) = none) : vd s i = false := by
  rw [vd, if_pos h, if_neg (by simp [hb]), he]
theorem isH_hv (s : ByteArray) (p : Nat) : isH (bt s (p : Int)) = (hv (bn s p)).isSome := by
  rw [bt_bn]
  unfold hv
  have := isH_iff (c := ((bn s p : Nat) : Int))
  split
  · rw [this.2 (by omega)]; rfl
  split
  · rw [this.2 (by omega)]; rfl
  split
  · rw [this.2 (by omega)]; rfl
  · cases hH : isH ((bn s p : Nat) : Int) with
    | false => rfl
    | true => exact absurd (this.1 hH) (by omega)
theorem ds_hex {s : ByteArray} {i n : Nat} (h : ds s i = some n) : hexE s (i + 2) 4 = some (i + 6) := by
  unfold ds at h
  split at h
  · rw [hx4] at h
    simp only [hexE, isH_hv]
    cases h2 : hv (bn s (i + 2)) with
    | none => rw [h2] at h; cases h
    | some d2 =>
    cases h3 : hv (bn s (i + 2 + 1)) with
    | none => rw [h2, h3] at h; cases h
    | some d3 =>
    cases h4 : hv (bn s (i + 2 + 2)) with
    | none => rw [h2, h3, h4] at h; cases h
    | some d4 =>
    cases h5 : hv (bn s (i + 2 + 3)) with
    | none => rw [h2, h3, h4, h5] at h; cases h
    | some d5 =>
    have h4 : hv (bn s (i + 2 + 1 + 1)) = some d4 := h4
    have h5 : hv (bn s (i + 2 + 1 + 1 + 1)) = some d5 := h5
    rfl
  · cases h
theorem ds_none {s : ByteArray} {i : Nat} (hi : i + 2 ≤ s.size) (h : ds s i = none) : hexE s (i + 2) 4 = none := by
  cases he : hexE s (i + 2) 4 with
  | none => rfl
  | some m =>
    obtain ⟨a, b⟩ := hexE_le he
    have hb := b hi
    unfold ds at h
    rw [if_pos (by omega), hx4] at h
    simp only [hexE, isH_hv] at he
    cases h2 : hv (bn s (i + 2)) with
    | none => rw [h2] at he; simp at he
    | some d2 =>
    cases h3 : hv (bn s (i + 2 + 1)) with
    | none => rw [h2, h3] at he; simp at he
    | some d3 =>
    cases h4 : hv (bn s (i + 2 + 1 + 1)) with
    | none => rw [h2, h3, h4] at he; simp at he
    | some d4 =>
    cases h5 : hv (bn s (i + 2 + 1 + 1 + 1)) with
    | none => rw [h2, h3, h4, h5] at he; simp at he
    | some d5 =>
    have h4 : hv (bn s (i + 2 + 2)) = some d4 := h4
    have h5 : hv (bn s (i + 2 + 3)) = some d5 := h5
    rw [h2, h3, h4, h5] at h
    cases h
theorem ds_uN {s : ByteArray} {i : Nat} (h0 : bn s i = 92) (h1 : bn s (i + 1) = 117) : uN s i = ds s i := by
  unfold uN ds
  by_cases h : i + 6 ≤ s.size
  · rw [if_pos h, if_pos ⟨h, h0, h1⟩]
  · rw [if_neg h, if_neg fun g => h g.1]
theorem enc_half {n : Nat} (h : 55296 ≤ n ∧ n ≤ 57343) : enc n = enc 65533 := by
  have e1 : enc n = [239, 191, 189] := by unfold enc; rw [if_neg (by omega), if_neg (by omega), if_pos h]
  have e2 : enc 65533 = [239, 191, 189] := by
    unfold enc
    rw [if_neg (by omega), if_neg (by omega), if_neg (by omega), if_pos (by omega)]
    rfl
  rw [e1, e2]
/-- The two sides at a place. -/
def Same (s : ByteArray) (i : Nat) : Prop := (vd s i = true → ∃ r, uo s i = some r ∧ ue s i = some r) ∧ (vd s i = false → ue s i = none)
theorem Same.of {s : ByteArray} {i j : Nat} {o : List UInt8} (h : Same s j) (h1 : vd s i = vd s j) (h2 : uo s i = (uo s j).map (o ++ ·)) (h3 : ue s i = (ue s j).map (o ++ ·)) : Same s i := by
  refine ⟨fun hv => ?_, fun hv => ?_⟩
  · obtain ⟨r, a, b⟩ := h.1 (by rw [← h1]; exact hv)
    exact ⟨o ++ r, by rw [h2, a]; rfl, by rw [h3, b]; rfl⟩
  · rw [h3, h.2 (by rw [← h1]; exact hv)]; rfl
theorem Same.bad {s : ByteArray} {i : Nat} (h1 : vd s i = false) (h2 : ue s i = none) : Same s i := ⟨fun h => (by rw [h1] at h; cases h), fun _ => h2⟩
theorem same_any {s : ByteArray} : ∀ (n i : Nat), s.size - i ≤ n → Same s i
  | 0, i, hn => ⟨fun _ => ⟨[], uo_end (by omega), ue_end (by omega)⟩, fun h => by rw [vd_end (by omega)] at h; cases h⟩
  | n + 1, i, hn => by
    rcases Nat.lt_or_ge i s.size with hlt | hge
    rotate_left
    · exact ⟨fun _ => ⟨[], uo_end hge, ue_end hge⟩, fun h => by rw [vd_end hge] at h; cases h⟩
    by_cases hb : bn s i = 92
    rotate_left
    · exact (same_any n (i + 1) (by omega)).of (o := [gb s i]) (vd_plain hlt hb) (uo_plain hlt hb) (ue_plain hlt hb)
    have hbt : bt s ((i + 1 : Nat) : Int) = ((bn s (i + 1) : Nat) : Int) := bt_bn s (i + 1)
    cases hX : isX (bt s ((i + 1 : Nat) : Int)) with
    | true =>
      have hne : ¬ bn s (i + 1) = 117 := fun e => by have := isX_iff.1 hX; omega
      have h1 : i + 1 < s.size := lt_of_bn (by have := isX_iff.1 hX; omega)
      have hst : stp s i = some (2, [sh (gb s (i + 1))]) := by unfold stp; rw [if_pos ⟨h1, hb⟩, hX, if_pos rfl]
      have hu : uN s i = none := by unfold uN; rw [if_neg fun g => hne g.2.2]
      exact (same_any n (i + 2) (by omega)).of (vd_esc hb (escE_x hX)) (uo_short hb hu h1) (ue_esc hb hst)
    | false =>
    by_cases h117 : bn s (i + 1) = 117
    rotate_left
    · refine .bad (vd_bad hlt hb (escE_no hX (by omega))) (ue_bad hlt hb ?_)
      unfold stp
      split
      · rw [hX]
        simp
      · rfl
    have h1 : i + 1 < s.size := lt_of_bn (by omega)
    have hE : escE s (i + 1) = hexE s (i + 2) 4 := escE_u (by omega)
    have hst : stp s i = (due s i).map fun p => (p.1, enc p.2) := by unfold stp; rw [if_pos ⟨h1, hb⟩, hX, if_neg (by decide), if_pos h117]
    have huN := ds_uN hb h117
    cases hd : ds s i with
    | none =>
      have hdu : due s i = none := by unfold due; rw [hd]
      exact .bad (vd_bad hlt hb (by rw [hE]; exact ds_none h1 hd)) (ue_bad hlt hb (by rw [hst, hdu]; rfl))
    | some m =>
    rw [hd] at huN
    have hm := ds_lt hd
    have hvd : vd s i = vd s (i + 6) := vd_esc hb (by rw [hE]; exact ds_hex hd)
    -- one escape
    have one : ∀ c, due s i = some (6, c) → pairU s i m = none → enc m = enc c → Same s i := fun c h2 h3 h4 =>
      (same_any n (i + 6) (by omega)).of (o := enc c) hvd (by rw [← h4]; exact uo_one huN h3) (ue_esc hb (by rw [hst, h2]; rfl))
    have low : ¬ (55296 ≤ m ∧ m ≤ 56319) → pairU s i m = none := fun h => by
      unfold pairU
      cases uN s (i + 6) with
      | none => rfl
      | some k => exact if_neg fun g => h g.1
    by_cases hsu : 55296 ≤ m ∧ m ≤ 57343
    rotate_left
    · exact one m (by unfold due; rw [hd]; simp only; rw [if_pos hsu]) (low (by omega)) rfl
    by_cases hlo : 56320 ≤ m
    · exact one 65533 (by unfold due; rw [hd]; simp only; rw [if_neg (by omega), if_pos hlo]) (low (by omega)) (enc_half hsu)
    have due0 : due s i = if s.size - i < 8 ∨ bn s (i + 6) ≠ 92 ∨ bn s (i + 7) ≠ 117 then some (6, 65533)
      else match ds s (i + 6) with
        | none => none
        | some k => if 56320 ≤ k ∧ k ≤ 57343 then some (12, 65536 + (m - 55296) * 1024 + (k - 56320)) else some (6, 65533) := by
      unfold due; rw [hd]; simp only; rw [if_neg (by omega), if_neg hlo]; try rfl
    by_cases hc : s.size - i < 8 ∨ bn s (i + 6) ≠ 92 ∨ bn s (i + 7) ≠ 117
    · rw [if_pos hc] at due0
      refine one 65533 due0 ?_ (enc_half hsu)
      have : uN s (i + 6) = none := by
        unfold uN; rw [if_neg fun g => by
          have g2 := g.2.2
          have e : i + 6 + 1 = i + 7 := rfl
          rw [e] at g2
          rcases hc with h | h | h
          · omega
          · exact h g.2.1
          · exact h g2]
      unfold pairU; rw [this]
    rw [if_neg hc] at due0
    have h6 : bn s (i + 6) = 92 ∧ bn s (i + 6 + 1) = 117 ∧ i + 8 ≤ s.size := by
      refine ⟨Decidable.byContradiction fun h => hc (.inr (.inl h)), Decidable.byContradiction fun h => hc (.inr (.inr h)), ?_⟩
      rcases Nat.lt_or_ge (s.size - i) 8 with h | h
      · exact absurd (.inl h) hc
      · omega
    have huN6 := ds_uN h6.1 h6.2.1
    have hbt6 : bt s ((i + 6 + 1 : Nat) : Int) = ((bn s (i + 6 + 1) : Nat) : Int) := bt_bn s (i + 6 + 1)
    have hE6 : escE s (i + 6 + 1) = hexE s (i + 6 + 2) 4 := escE_u (by omega)
    cases hd6 : ds s (i + 6) with
    | none =>
      rw [hd6] at due0
      simp only at due0
      exact .bad (by rw [hvd]; exact vd_bad (by omega) h6.1 (by rw [hE6]; exact ds_none (by omega) hd6)) (ue_bad hlt hb (by rw [hst, due0]; rfl))
    | some k =>
      rw [hd6] at due0 huN6
      simp only at due0
      have hk := ds_lt hd6
      have hvd6 : vd s (i + 6) = vd s (i + 6 + 6) := vd_esc h6.1 (by rw [hE6]; exact ds_hex hd6)
      by_cases hkl : 56320 ≤ k ∧ k ≤ 57343
      · rw [if_pos hkl] at due0
        have hp : pairU s i m = some (65536 + (m - 55296) * 1024 + (k - 56320)) := by
          have e1 : m % 1024 = m - 55296 := by omega
          have e2 : k % 1024 = k - 56320 := by omega
          unfold pairU; rw [huN6]; simp only; rw [if_pos ⟨by omega, hkl⟩, e1, e2]
        exact (same_any n (i + 12) (by omega)).of (by rw [hvd, hvd6]) (uo_pair huN hp) (ue_esc hb (by rw [hst, due0]; rfl))
      · rw [if_neg hkl] at due0
        refine one 65533 due0 ?_ (enc_half hsu)
        unfold pairU; rw [huN6]; simp only; rw [if_neg fun g => hkl g.2]
theorem ueV_eq (s : ByteArray) : ue s 0 = if vd s 0 then uo s 0 else none := by
  have h := same_any (s := s) s.size 0 (by omega)
  cases hv : vd s 0 with
  | true => obtain ⟨r, a, b⟩ := h.1 hv; rw [a, b]; rfl
  | false => rw [h.2 hv]; rfl
end Go.Proofs.YtlfebfkphgelfaaDoor.Je
