/- jsonparser's small decoders: a hexadecimal digit, \uXXXX, surrogate pairs; utf8.EncodeRune. No statement of the set is proved here. -/
import Derived.Test.YtlhhmgopfilgpaaDoorUq
import Derived.Test.YtlhhmgopfilgpaaDoorMs
namespace Go.Proofs.YtlhhmgopfilgpaaDoor.Je
open Go Go.Proofs Go.RowKit Go.Proofs.YtlhhmgopfilgpaaDoor.Rx Go.Proofs.YtlhhmgopfilgpaaDoor.Tr Go.Proofs.YtlhhmgopfilgpaaDoor.Pl Go.Proofs.YtlhhmgopfilgpaaDoor.Ut Go.Proofs.YtlhhmgopfilgpaaDoor.Ch Go.Proofs.YtlhhmgopfilgpaaDoor.Bw Go.Proofs.YtlhhmgopfilgpaaDoor.Uq

theorem h2I_any {n : Nat} {w : World} (hn : n < 256) : Calls Tryd.prog 72 #[.int .u8 n] w fun e w' => e = .returned (.int .i64 (match hv n with | some d => (d : Int) | none => -1)) ∧ w' = w := by
  refine jsonparser_h2I.calls _ ?_
  unfold jsonparser_h2I.t
  refine s_cut (fun x w' => x = (decide (48 ≤ n ∧ n ≤ 57), ()) ∧ w = w') ?_ ?_
  · refine s_iteD (fun h => s_leaf ?_) (fun h => s_leaf ?_)
    · rw [if_pos rfl]
      refine ⟨(decide ((n : Int) ≤ 57), ()), rfl, bpair ?_, rfl⟩
      simp only [decide_eq_true_eq]; omega
    · rw [if_pos rfl]
      refine ⟨(false, ()), rfl, ?_, rfl⟩
      rw [decide_eq_false (by omega)]; rfl
  rintro x w1 ⟨rfl, rfl⟩
  simp only [jsonparser_h2I.t1]
  refine s_iteD (fun h => s_leaf ⟨rfl, ?_, rfl⟩) (fun h1 => ?_)
  · have e : hv n = some (n - 48) := by unfold hv; rw [if_pos h]
    rw [e, wrapB_in (by omega) (by omega), wrap_in (by omega) (by omega)]
    have : (n : Int) - 48 = ((n - 48 : Nat) : Int) := by omega
    rw [this]; rfl
  refine s_cut (fun x w' => x = (decide (65 ≤ n ∧ n ≤ 70), ()) ∧ w = w') ?_ ?_
  · refine s_iteD (fun h => s_leaf ?_) (fun h => s_leaf ?_)
    · rw [if_pos rfl]
      refine ⟨(decide ((n : Int) ≤ 70), ()), rfl, bpair ?_, rfl⟩
      simp only [decide_eq_true_eq]; omega
    · rw [if_pos rfl]
      refine ⟨(false, ()), rfl, ?_, rfl⟩
      rw [decide_eq_false (by omega)]; rfl
  rintro x w1 ⟨rfl, rfl⟩
  simp only [jsonparser_h2I.t2]
  refine s_iteD (fun h => s_leaf ⟨rfl, ?_, rfl⟩) (fun h2 => ?_)
  · have e : hv n = some (n - 55) := by unfold hv; rw [if_neg h1, if_neg (by omega), if_pos h]
    rw [e, wrapB_in (by omega) (by omega), wrap_in (n := (n : Int) - 65) (by omega) (by omega), wrap_in (by omega) (by omega)]
    have : (n : Int) - 65 + 10 = ((n - 55 : Nat) : Int) := by omega
    rw [this]; rfl
  have no : ¬ (97 ≤ n ∧ n ≤ 102) → hv n = none := fun h3 => by unfold hv; rw [if_neg h1, if_neg h3, if_neg h2]
  refine s_iteD (fun h3 => ?_) (fun h3 => s_leaf ⟨rfl, ?_, rfl⟩)
  · refine s_iteD (fun h4 => s_leaf ⟨rfl, ?_, rfl⟩) (fun h4 => s_leaf ⟨rfl, ?_, rfl⟩)
    · have e : hv n = some (n - 87) := by unfold hv; rw [if_neg h1, if_pos (by omega)]
      rw [e, wrapB_in (by omega) (by omega), wrap_in (n := (n : Int) - 97) (by omega) (by omega), wrap_in (by omega) (by omega)]
      have : (n : Int) - 97 + 10 = ((n - 87 : Nat) : Int) := by omega
      rw [this]; rfl
    · rw [no (by omega)]; rfl
  · rw [no (by omega)]; rfl
/-- The number of four hexadecimal digits behind two bytes. -/
def ds (s : ByteArray) (a : Nat) : Option Nat := if a + 6 ≤ s.size then hx s (a + 2) 4 else none
theorem ds_lt {s : ByteArray} {a n : Nat} (h : ds s a = some n) : n < 65536 ∧ a + 6 ≤ s.size := by
  unfold ds at h
  split at h
  · exact ⟨hx_lt h, by assumption⟩
  · cases h
/-- What a decoder says that may fail. -/
def opt (r : Option Nat) : Value := .tuple #[.int .i32 (match r with | some n => (n : Int) | none => 65533), .bool r.isSome]
theorem hv_iff (x : Option Nat) : ((match x with | some d => (d : Int) | none => -1) == -1) = x.isNone := by
  cases x with
  | none => rfl
  | some d => simp only [Option.isNone_some, beq_eq_false_iff_ne, ne_eq]; omega
theorem hx4 (s : ByteArray) (p : Nat) : hx s p 4 = (hv (bn s p)).bind fun a => (hv (bn s (p + 1))).bind fun b => (hv (bn s (p + 2))).bind fun c => (hv (bn s (p + 3))).map fun d => ((a * 16 + b) * 16 + c) * 16 + d := by
  simp only [hx]
  rw [show p + 0 = p from rfl]
  cases hv (bn s p) <;> cases hv (bn s (p + 1)) <;> cases hv (bn s (p + 2)) <;> cases hv (bn s (p + 3)) <;> simp
/-- A slice of the text's row, from a place on. -/
structure In (w : World) (s : ByteArray) (g y a n : Nat) : Prop where
  row : Byts w ⟨g, 0, none⟩ s
  len : n = s.size - a
  at_ : 0 < n → y = a
theorem In.cell {w : World} {s : ByteArray} {g y a n : Nat} (h : In w s g y a n) {j : Nat} (hj : j < n) : w.cell? ⟨g, y + j, none⟩ = some (.int .u8 (bn s (a + j))) := by
  have h1 := h.row.2 (a + j) (by have := h.len; omega)
  have := h.at_ (by omega)
  subst this
  simp only [Nat.zero_add] at h1
  rw [h1, bt_bn]
theorem In.kp {S : Nat → Prop} {w w' : World} {s : ByteArray} {g y a n : Nat} (h : In w s g y a n) (k : Kp S w w') (hS : ¬ S g) : In w' s g y a n :=
  ⟨⟨rfl, fun j hj => by
    have h1 := h.row.2 j hj
    rw [k.cell (Ms.cell_lt h1) hS]; exact h1⟩, h.len, h.at_⟩
theorem below_refl (w : World) : RowKit.Below w.heap.size w w := (Kp.refl Off w).belowOff
theorem single_any {w : World} {s : ByteArray} {g y a n cap : Nat} (h : In w s g y a n) (hs : s.size < 1000000000) :
    Calls Tryd.prog 68 #[.slice (some ⟨g, y, none⟩) n cap] w fun e w' => e = .returned (opt (ds s a)) ∧ Kp Off w w' := by
  refine jsonparser_decodeSingleUnicodeEscape.calls _ _ _ ?_
  unfold jsonparser_decodeSingleUnicodeEscape.t
  have hl := h.len
  refine s_iteD (fun h6 => s_leaf ⟨rfl, ?_, Kp.refl _ _⟩) (fun h6 => ?_)
  · have : ds s a = none := by unfold ds; rw [if_neg (by omega)]
    rw [this]; rfl
  have hds : ds s a = hx s (a + 2) 4 := by unfold ds; rw [if_pos (by omega)]
  refine s_drew ?_
  have c : ∀ j, j < n → w.drew.cell? (Addr.add ⟨g, y, none⟩ j) = some (.int .u8 (bn s (a + j))) := fun j hj => by
    rw [addr_add]; exact h.cell hj
  refine s_chk (by omega) (s_ptr (s_load ((bn s (a + 2) : Nat) : Int) (c 2 (by omega)) ?_))
  refine s_chk (by omega) (s_ptr (s_load ((bn s (a + 3) : Nat) : Int) (c 3 (by omega)) ?_))
  refine s_chk (by omega) (s_ptr (s_load ((bn s (a + 4) : Nat) : Int) (c 4 (by omega)) ?_))
  refine s_chk (by omega) (s_ptr (s_load ((bn s (a + 5) : Nat) : Int) (c 5 (by omega)) ?_))
  refine s_call (h2I_any (bn_lt s (a + 2))) ?_
  rintro e w1 ⟨rfl, rfl⟩
  refine ⟨_, rfl, below_refl _, ?_⟩
  refine s_call (h2I_any (bn_lt s (a + 3))) ?_
  rintro e w1 ⟨rfl, rfl⟩
  refine ⟨_, rfl, below_refl _, ?_⟩
  refine s_call (h2I_any (bn_lt s (a + 4))) ?_
  rintro e w1 ⟨rfl, rfl⟩
  refine ⟨_, rfl, below_refl _, ?_⟩
  refine s_call (h2I_any (bn_lt s (a + 5))) ?_
  rintro e w1 ⟨rfl, rfl⟩
  refine ⟨_, rfl, ?_⟩
  rw [hds, hx4]
  have l2 : ∀ d, hv (bn s (a + 2)) = some d → d < 16 := fun d => hv_lt
  have l3 : ∀ d, hv (bn s (a + 2 + 1)) = some d → d < 16 := fun d => hv_lt
  have l4 : ∀ d, hv (bn s (a + 2 + 2)) = some d → d < 16 := fun d => hv_lt
  have l5 : ∀ d, hv (bn s (a + 2 + 3)) = some d → d < 16 := fun d => hv_lt
  have e3 : a + 3 = a + 2 + 1 := rfl
  have e4 : a + 4 = a + 2 + 2 := rfl
  have e5 : a + 5 = a + 2 + 3 := rfl
  rw [e3, e4, e5]
  generalize hv (bn s (a + 2)) = x2 at *
  generalize hv (bn s (a + 2 + 1)) = x3 at *
  generalize hv (bn s (a + 2 + 2)) = x4 at *
  generalize hv (bn s (a + 2 + 3)) = x5 at *
  refine s_cut (fun x w' => x = (x2.isNone || x3.isNone || x4.isNone || x5.isNone, ()) ∧ w' = w.drew) ?_ ?_
  · refine s_ite (fun h2 => s_leaf ?_) (fun h2 => ?_)
    · rw [hv_iff] at h2
      rw [if_pos rfl]; exact ⟨(true, ()), rfl, by rw [h2]; rfl, rfl⟩
    refine s_ite (fun h3 => s_leaf ?_) (fun h3 => ?_)
    · rw [hv_iff] at h2 h3
      rw [if_pos rfl]; exact ⟨(true, ()), rfl, by rw [h2, h3]; rfl, rfl⟩
    refine s_ite (fun h4 => s_leaf ?_) (fun h4 => s_leaf ?_)
    · rw [hv_iff] at h2 h3 h4
      rw [if_pos rfl]; exact ⟨(true, ()), rfl, by rw [h2, h3, h4]; rfl, rfl⟩
    · rw [hv_iff] at h2 h3 h4
      rw [if_pos rfl]
      refine ⟨(x5.isNone, ()), ?_, by rw [h2, h3, h4]; rfl, rfl⟩
      rw [hv_iff]; rfl
  rintro x w1 ⟨rfl, rfl⟩
  simp only [jsonparser_decodeSingleUnicodeEscape.t1]
  have kd : Kp Off w w.drew := (Kp.refl _ w).drew
  cases x2 with
  | none => exact sat_iteT.2 (s_leaf ⟨rfl, rfl, kd⟩)
  | some d2 =>
  cases x3 with
  | none => exact sat_iteT.2 (s_leaf ⟨rfl, rfl, kd⟩)
  | some d3 =>
  cases x4 with
  | none => exact sat_iteT.2 (s_leaf ⟨rfl, rfl, kd⟩)
  | some d4 =>
  cases x5 with
  | none => exact sat_iteT.2 (s_leaf ⟨rfl, rfl, kd⟩)
  | some d5 =>
  have l2 := l2 _ rfl; have l3 := l3 _ rfl; have l4 := l4 _ rfl; have l5 := l5 _ rfl
  refine sat_iteF.2 (s_chk (by decide) (s_chk (by decide) (s_chk (by decide) (s_leaf ⟨rfl, ?_, kd⟩))))
  have e : IntKind.wrap .i32 (IntKind.wrap .i64 ((IntKind.wrap .i64 ((IntKind.wrap .i64 ((IntKind.wrap .i64 ((d2 : Int) * (4096 : Int))) + (IntKind.wrap .i64 ((d3 : Int) * (256 : Int))))) + (IntKind.wrap .i64 ((d4 : Int) * (16 : Int))))) + (d5 : Int))) = ((((d2 * 16 + d3) * 16 + d4) * 16 + d5 : Nat) : Int) := by
    rw [wrap_in (n := (d2 : Int) * 4096) (by omega) (by omega), wrap_in (n := (d3 : Int) * 256) (by omega) (by omega), wrap_in (n := (d4 : Int) * 16) (by omega) (by omega), wrap_in (n := (d2 : Int) * 4096 + (d3 : Int) * 256) (by omega) (by omega), wrap_in (n := (d2 : Int) * 4096 + (d3 : Int) * 256 + (d4 : Int) * 16) (by omega) (by omega), wrap_in (by omega) (by omega), IntKind.wrap_i32]
    omega
  show Ending.returned (retVal [.int .i32 (IntKind.wrap .i32 (IntKind.wrap .i64 ((IntKind.wrap .i64 ((IntKind.wrap .i64 ((IntKind.wrap .i64 ((d2 : Int) * (4096 : Int))) + (IntKind.wrap .i64 ((d3 : Int) * (256 : Int))))) + (IntKind.wrap .i64 ((d4 : Int) * (16 : Int))))) + (d5 : Int)))), .bool true]) = _
  rw [e]
  rfl
/-- An escape \uXXXX, or two that are a surrogate pair: how long it is, and its character. -/
def due (s : ByteArray) (a : Nat) : Option (Nat × Nat) :=
  match ds s a with
  | none => none
  | some n =>
    if ¬ (55296 ≤ n ∧ n ≤ 57343) then some (6, n)
    else if 56320 ≤ n then some (6, 65533)
    else if s.size - a < 8 ∨ bn s (a + 6) ≠ 92 ∨ bn s (a + 7) ≠ 117 then some (6, 65533)
    else match ds s (a + 6) with
      | none => none
      | some m => if 56320 ≤ m ∧ m ≤ 57343 then some (12, 65536 + (n - 55296) * 1024 + (m - 56320)) else some (6, 65533)
def dueV (r : Option (Nat × Nat)) : Value := match r with
  | some (k, n) => .tuple #[.int .i32 n, .int .i64 k]
  | none => .tuple #[.int .i32 65533, .int .i64 (-1)]
theorem decode_any {w : World} {s : ByteArray} {g y a n cap : Nat} (h : In w s g y a n) (hs : s.size < 1000000000) (hc : n ≤ cap) :
    Calls Tryd.prog 65 #[.slice (some ⟨g, y, none⟩) n cap] w fun e w' => e = .returned (dueV (due s a)) ∧ Kp Off w w' := by
  refine jsonparser_decodeUnicodeEscape.calls _ _ _ ?_
  unfold jsonparser_decodeUnicodeEscape.t
  have hl := h.len
  refine s_call (single_any h hs) ?_
  rintro e w1 ⟨rfl, k1⟩
  cases hd : ds s a with
  | none =>
    refine ⟨((65533 : Int), false, ()), rfl, sat_iteT.2 (s_leaf ⟨rfl, ?_, k1⟩)⟩
    unfold due; rw [hd]; rfl
  | some m1 =>
  have hm1 := ds_lt hd
  refine ⟨((m1 : Int), true, ()), rfl, sat_iteF.2 ?_⟩
  refine s_call (R := fun e w' => e = .returned (.bool (decide (55296 ≤ m1 ∧ m1 ≤ 57343))) ∧ w' = w1) ?_ ?_
  · refine jsonparser_isUTF16EncodedRune.calls _ ?_
    unfold jsonparser_isUTF16EncodedRune.t
    refine s_iteD (fun h1 => s_leaf ⟨rfl, ?_, rfl⟩) (fun h1 => s_leaf ⟨rfl, ?_, rfl⟩)
    · show Ending.returned (.bool (decide ((m1 : Int) ≤ 57343))) = _
      congr 2; rw [decide_eq_decide]; omega
    · rw [decide_eq_false (by omega)]; rfl
  rintro e w1 ⟨rfl, rfl⟩
  refine ⟨_, rfl, ?_⟩
  by_cases hsu : 55296 ≤ m1 ∧ m1 ≤ 57343
  rotate_left
  · rw [decide_eq_false hsu]
    refine sat_iteT.2 (s_leaf ⟨rfl, ?_, k1⟩)
    unfold due; rw [hd]; simp only; rw [if_pos hsu]; rfl
  rw [decide_eq_true hsu]
  refine sat_iteF.2 ?_
  refine s_iteD (fun h2 => s_leaf ⟨rfl, ?_, k1⟩) (fun h2 => ?_)
  · unfold due; rw [hd]; simp only; rw [if_neg (by omega), if_pos (by omega)]; rfl
  have due0 : due s a = if s.size - a < 8 ∨ bn s (a + 6) ≠ 92 ∨ bn s (a + 7) ≠ 117 then some (6, 65533)
    else match ds s (a + 6) with
      | none => none
      | some m => if 56320 ≤ m ∧ m ≤ 57343 then some (12, 65536 + (m1 - 55296) * 1024 + (m - 56320)) else some (6, 65533) := by
    unfold due; rw [hd]; simp only; rw [if_neg (by omega), if_neg (by omega)]
  have h1 := h.kp k1 id
  refine s_cut (fun x w' => x = (decide (s.size - a < 8 ∨ bn s (a + 6) ≠ 92 ∨ bn s (a + 7) ≠ 117), ()) ∧ w1 = w') ?_ ?_
  · refine s_iteD (fun h3 => s_leaf ?_) (fun h3 => s_chk (by omega) (s_ptr ?_))
    · rw [if_pos rfl]; exact ⟨(true, ()), rfl, by rw [decide_eq_true (by omega)]; rfl, rfl⟩
    simp only [addr_add]
    refine s_load ((bn s (a + 6) : Nat) : Int) (h1.cell (by omega)) ?_
    refine s_iteN (fun h4 => s_leaf ?_) (fun h4 => s_chk (by omega) (s_ptr ?_))
    · have h4 : ((bn s (a + 6) : Nat) : Int) ≠ 92 := h4
      rw [if_pos rfl]; exact ⟨(true, ()), rfl, by rw [decide_eq_true (by omega)]; rfl, rfl⟩
    have h4 : ((bn s (a + 6) : Nat) : Int) = 92 := h4
    refine s_load ((bn s (a + 7) : Nat) : Int) (h1.cell (by omega)) (s_leaf ?_)
    rw [if_pos rfl]
    refine ⟨(((bn s (a + 7) : Nat) : Int) != 117, ()), rfl, bpair ?_, rfl⟩
    simp only [bne_iff_ne, ne_eq, decide_eq_true_eq]; omega
  rintro x w1' ⟨rfl, rfl⟩
  simp only [jsonparser_decodeUnicodeEscape.t1]
  refine s_iteD (fun h3 => s_leaf ⟨rfl, ?_, k1⟩) (fun h3 => ?_)
  · rw [due0, if_pos h3]; rfl
  rw [if_neg h3] at due0
  refine s_chk (by omega) ?_
  rw [if_neg (by omega), Int.toNat_natCast]
  simp only [Option.map_some, addr_add]
  have h6 : In w1 s g (y + 6) (a + 6) (n - 6) := ⟨h1.row, by omega, fun _ => by have := h1.at_ (by omega); omega⟩
  refine s_call (single_any h6 hs) ?_
  rintro e w2 ⟨rfl, k2⟩
  have k12 := k1.trans k2
  cases hd6 : ds s (a + 6) with
  | none =>
    refine ⟨((65533 : Int), false, ()), rfl, sat_iteT.2 (s_leaf ⟨rfl, ?_, k12⟩)⟩
    rw [due0, hd6]; rfl
  | some m2 =>
  rw [hd6] at due0
  simp only at due0
  have hm2 := ds_lt hd6
  refine ⟨((m2 : Int), true, ()), rfl, sat_iteF.2 ?_⟩
  refine s_iteD (fun h7 => s_leaf ⟨rfl, ?_, k12⟩) (fun h7 => ?_)
  · have h7 : (m2 : Int) < 56320 := h7
    rw [due0, if_neg (by omega)]; rfl
  have h7 : ¬ (m2 : Int) < 56320 := h7
  refine s_iteD (fun h8 => s_leaf ⟨rfl, ?_, k12⟩) (fun h8 => ?_)
  · have h8 : (m2 : Int) > 57343 := h8
    rw [due0, if_neg (by omega)]; rfl
  have h8 : ¬ (m2 : Int) > 57343 := h8
  rw [if_pos (by omega)] at due0
  refine s_call (R := fun e w' => e = .returned (.int .i32 ((65536 + (m1 - 55296) * 1024 + (m2 - 56320) : Nat) : Int)) ∧ w' = w2) ?_ ?_
  · refine jsonparser_combineUTF16Surrogates.calls _ _ ?_
    unfold jsonparser_combineUTF16Surrogates.t
    refine s_chk (by decide) (s_leaf ⟨rfl, ?_, rfl⟩)
    show Ending.returned (.int .i32 (IntKind.wrap IntKind.i32 ((IntKind.wrap IntKind.i32 ((65536 : Int) + (IntKind.wrap IntKind.i32 ((IntKind.wrap IntKind.i32 ((m1 : Int) - (55296 : Int))) * (1024 : Int))))) + (IntKind.wrap IntKind.i32 ((m2 : Int) - (56320 : Int)))))) = _
    congr 2
    simp only [IntKind.wrap_i32]
    omega
  rintro e w3 ⟨rfl, rfl⟩
  refine ⟨_, rfl, s_leaf ⟨rfl, ?_, k12⟩⟩
  rw [due0]; rfl
end Go.Proofs.YtlhhmgopfilgpaaDoor.Je
