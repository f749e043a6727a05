/- The law FnFjBuildInt: its walk. No condition. -/
import Derived.Test.YtbmmpnjpejamaaaDoorNv
import Derived.Test.YtbmmpnjpejamaaaDoorSh
import Derived.Test.YtbmmpnjpejamaaaDoorDg
import Derived.Test.YtbmmpnjpejamaaaDoorRows
import Derived.Lib.LaidTab
import Derived.Stop.LaidErr
import Derived.OpenShut
namespace Go.Proofs.YtbmmpnjpejamaaaDoor.LawFjBuildInt
open Go Go.Proofs Go.RowKit Go.Proofs.YtbmmpnjpejamaaaDoor.Rx Go.Proofs.YtbmmpnjpejamaaaDoor.Tr Go.Proofs.YtbmmpnjpejamaaaDoor.Pl Go.Proofs.YtbmmpnjpejamaaaDoor.Bw Go.Proofs.YtbmmpnjpejamaaaDoor.Nu Go.Proofs.YtbmmpnjpejamaaaDoor.Dg
open Go.Proofs.YtbmmpnjpejamaaaDoor.Sr (slV tBs tB)

theorem new_blk {w w1 : World} {cs : List Value} {t : TypeId} (h : w.alloc (.cells cs.toArray t (0, 0)) = w1) : Blk w1 w.heap.size cs t ∧ Kp Off w w1 ∧ w1.heap.size = w.heap.size + 1 :=
  ⟨by rw [← h]; exact Blk.new w cs t, by rw [← h]; exact (Kp.refl _ w).alloc _, by rw [← h]; simp⟩
theorem s_allocE {P : Program} {Q : Nat → List Value → World → Prop} {w : World} {o : Obj} {k : Addr → T} (n : Nat) (hn : w.heap.size = n) (w' : World) (hw : w.alloc o = w') (h : sat P (k ⟨n, 0, none⟩) Q w') : sat P (.alloc o k) Q w := by
  subst hn; subst hw; exact h
/-- The numeral. -/
def num (n : Int) : ByteArray := ⟨(Lib.itoa n).toArray⟩
theorem nd_le : ∀ (k u : Nat), u < 10 ^ (k + 1) → Lib.nDigits u ≤ k + 1
  | 0, u, h => by rw [Lib.nDigits_small (by simpa using h)]; exact Nat.le_refl _
  | k + 1, u, h => by
    by_cases h' : u < 10
    · rw [Lib.nDigits_small h']; omega
    · rw [Lib.nDigits_big h']
      have := nd_le k (u / 10) (by rw [Nat.div_lt_iff_lt_mul (by decide)]; rw [Nat.pow_succ] at h; exact h)
      omega
theorem digits_any {n : Int} {w : World} (h0 : -9223372036854775808 ≤ n) (h1 : n ≤ 9223372036854775807) : Calls Tryd.prog 13 #[.int .i64 n] w fun e w' => e = .returned (.string (num n)) ∧ Kp Off w w' := by
  refine spec_Digits.calls _ ?_
  unfold spec_Digits.t
  refine s_iteD (fun h => ?_) (fun h => ?_)
  · have e : IntKind.wrap IntKind.u64 ((0 : Int) - (IntKind.wrap IntKind.u64 n)) = ((n.natAbs : Nat) : Int) := by
      rw [IntKind.wrap_u64, IntKind.wrap_u64]; omega
    rw [e]
    refine s_call (digitsOf_any (by omega)) ?_
    rintro e w1 ⟨rfl, k1⟩
    refine ⟨(⟨(Lib.decDigits n.natAbs).toArray⟩ : ByteArray), rfl, ?_⟩
    have hl : (ByteArray.size ⟨(Lib.decDigits n.natAbs).toArray⟩) = (Lib.decDigits n.natAbs).length := List.size_toArray
    have hlen : (Lib.decDigits n.natAbs).length ≤ 20 := by
      rw [Lib.decDigits_length]
      exact nd_le 19 _ (by omega)
    refine s_chk (by rw [hl]; omega) (s_leaf ⟨rfl, ?_, k1⟩)
    have en : num n = ByteArray.mk #[45] ++ ⟨(Lib.decDigits n.natAbs).toArray⟩ := by
      unfold num Lib.itoa
      rw [if_pos h]
      apply ByteArray.ext
      apply Array.toList_inj.1
      rw [ByteArray.data_append, Array.toList_append]; rfl
    rw [en]; rfl
  · have e : IntKind.wrap IntKind.u64 n = ((n.toNat : Nat) : Int) := by
      rw [IntKind.wrap_u64]; omega
    rw [e]
    refine s_call (digitsOf_any (by omega)) ?_
    rintro e w1 ⟨rfl, k1⟩
    refine ⟨(⟨(Lib.decDigits n.toNat).toArray⟩ : ByteArray), rfl, s_leaf ⟨rfl, ?_, k1⟩⟩
    unfold num Lib.itoa
    rw [if_neg h]; rfl
theorem itoa_pos (n : Int) : 0 < (Lib.itoa n).length := by
  unfold Lib.itoa
  split
  · simp
  · rw [Lib.decDigits_length]; exact Lib.nDigits_pos _
theorem itoa_len {n : Int} (h0 : -9223372036854775808 ≤ n) (h1 : n ≤ 9223372036854775807) : (Lib.itoa n).length ≤ 21 := by
  unfold Lib.itoa
  split
  · rw [List.length_cons, Lib.decDigits_length]
    have := nd_le 19 n.natAbs (by omega); omega
  · rw [Lib.decDigits_length]
    have := nd_le 19 n.toNat (by omega); omega
abbrev tabN : String := "internal/strconv.uint64pow10"
theorem newInt_any {w : World} {g : Nat} {n : Int} (h0 : -9223372036854775808 ≤ n) (h1 : n ≤ 9223372036854775807) (h : Blk w g [.slice none 0 0, .slice none 0 0] tAr) (hT : ∀ w', Kp (On g) w w' → Lib.TabIs Tryd.prog w' tabN .u64 Lib.pow10Tab) :
    Calls Tryd.prog 30 #[.pointer (some ⟨g, 0, none⟩), .int .i64 n] w fun e w' => ∃ v, e = .returned (.pointer (some ⟨v, 0, none⟩)) ∧ w'.cell? ⟨v, 3, none⟩ = some (.string (num n)) ∧ w'.cell? ⟨v, 4, none⟩ = some (.int .i64 4) ∧ Kp (On g) w w' := by
  refine fastjson_Arena_NewNumberInt.calls _ _ ?_
  unfold fastjson_Arena_NewNumberInt.t
  have hg : g < w.heap.size := h.lt
  refine s_ptr ?_
  simp only [addr_add, Nat.zero_add]
  refine s_call (getValue_any h) ?_
  rintro e w1 ⟨v, cur, u, rfl, hv, hb, htk, ha, k1⟩
  have hvg : v ≠ g := by omega
  have hlen : 5 ≤ cur.length := by
    have := congrArg List.length htk
    rw [List.length_take] at this
    have e : vz.length = 5 := rfl
    omega
  refine ⟨some ⟨v, 0, none⟩, rfl, s_ptr ?_⟩
  simp only [addr_add, Nat.zero_add]
  have c4 : w1.cell? ⟨v, 4, none⟩ = some cur[4] := by rw [hb.cell, List.getElem?_eq_getElem]
  refine s_store c4 (hb.free 4) (s_ptr ?_)
  have hb2 := hb.set 4 (.int .i64 4)
  have ha2 : Blk (w1.setCell ⟨v, 4, none⟩ (.int .i64 4)) g [.slice none 0 0, u] tAr := ha.setOther (a := ⟨v, 4, none⟩) hvg _
  have k2 : Kp (On g) w (w1.setCell ⟨v, 4, none⟩ (.int .i64 4)) := k1.setNew (a := ⟨v, 4, none⟩) hv _
  generalize (w1.setCell ⟨v, 4, none⟩ (.int .i64 4)) = w2 at hb2 ha2 k2
  simp only [addr_add, Nat.zero_add]
  refine s_load (none, 0, 0) (ha2.cell 0) (s_ptr ?_)
  simp only [addr_add, Nat.zero_add]
  refine s_load (none, 0, 0) (ha2.cell 0) ?_
  have htab := Lib.tabBelow_of_tabIs (hT w2 k2)
  refine s_call (Tryd.strconv_AppendInt_10 w2.heap.size 0 n h0 h1 (.slice none 0 0) [] w2 (World.ownsRow_nil w2 _ tB 1) (Nat.le_refl _) (by omega) htab) ?_
  rintro e w3 ⟨v', rfl, hown, hbel, _⟩
  have hpos := itoa_pos n
  have k3 : Kp Off w2 w3 := .of_below hbel
  rw [List.nil_append, Nat.zero_add] at hown
  obtain ⟨q1, ⟨_, h7⟩ | ⟨r, cap, cu, rfl, hbr, hr, hnc, hm, hs, ht⟩⟩ := id hown
  · omega
  have hB : BR w3 w2.heap.size (some ⟨r, 0, none⟩, (Lib.itoa n).length, cap) (Lib.itoa n) := hown
  have hb3 := k3.blk hb2 id
  have ha3 := k3.blk ha2 id
  refine ⟨(some ⟨r, 0, none⟩, (Lib.itoa n).length, cap), rfl, s_ptr ?_⟩
  simp only [addr_add, Nat.zero_add]
  refine s_store (ha3.cell 0) (ha3.free 0) (s_ptr ?_)
  have ha4 := ha3.set 0 (.slice (some ⟨r, 0, none⟩) (Lib.itoa n).length cap)
  have kk : Kp (On g) w3 (w3.setCell ⟨g, 0, none⟩ (.slice (some ⟨r, 0, none⟩) (Lib.itoa n).length cap)) := (Kp.refl (On g) w3).on 0 _
  have hrg : r ≠ g := by have := k2.size; omega
  have hB4 := hB.kp kk fun b hb' e => by
    have hb' : b = r := by simpa [slV, Value.ownBlock] using hb'
    have e : b = g := e
    omega
  have hb4 := kk.blk hb3 (fun e => hvg e)
  have k4 : Kp (On g) w _ := (k2.trans (k3.mono fun _ _ c => c.elim)).trans kk
  generalize (w3.setCell ⟨g, 0, none⟩ (.slice (some ⟨r, 0, none⟩) (Lib.itoa n).length cap)) = w4 at ha4 hB4 hb4 k4
  simp only [addr_add, Nat.zero_add]
  refine s_load (some ⟨r, 0, none⟩, (Lib.itoa n).length, cap) (ha4.cell 0) ?_
  refine s_chk (by
    show ((0 : Int) ≤ ((0 : Nat) : Int)) ∧ (((0 : Nat) : Int) ≤ (((Lib.itoa n).length : Nat) : Int)) ∧ ((((Lib.itoa n).length : Nat) : Int) ≤ ((cap : Nat) : Int))
    omega) ?_
  have ea : (if cap = 0 then (some (⟨r, 0, none⟩ : Addr)) else Option.map (fun y : Addr => Addr.add y 0) (some ⟨r, 0, none⟩)) = some ⟨r, 0, none⟩ := by
    split
    · rfl
    · simp only [Option.map_some, addr_add, Nat.add_zero]
  simp only [Int.toNat_natCast, Nat.sub_zero, Nat.zero_mul, ea]
  refine s_call (R := fun e w' => e = .returned (.string (num n)) ∧ w' = w4) ?_ ?_
  · refine fastjson_b2s.calls _ _ _ ?_
    unfold fastjson_b2s.t
    exact s_eff (num n) hB4.toStr (s_leaf ⟨rfl, rfl, rfl⟩)
  rintro e w4 ⟨rfl, rfl⟩
  have hl3 : 3 < (cur.set 4 (Value.int .i64 4)).length := by rw [List.length_set]; omega
  have c3 : w4.cell? ⟨v, 3, none⟩ = some (cur.set 4 (.int .i64 4))[3] := by rw [hb4.cell, List.getElem?_eq_getElem]
  refine ⟨num n, rfl, s_ptr ?_⟩
  simp only [addr_add, Nat.zero_add]
  refine s_store c3 (hb4.free 3) (s_leaf ⟨rfl, v, rfl, ?_, ?_, k4.setNew (a := ⟨v, 3, none⟩) hv _⟩)
  · rw [(hb4.set 3 (.string (num n))).cell, List.getElem?_set_self (by rw [List.length_set]; omega)]
  · rw [(hb4.set 3 (.string (num n))).cell, List.getElem?_set_ne (by decide), List.getElem?_set_self (by omega)]
theorem marshal_any {w : World} {v : Nat} {s : ByteArray} (hs : s.size ≤ 100) (h3 : w.cell? ⟨v, 3, none⟩ = some (.string s)) (h4 : w.cell? ⟨v, 4, none⟩ = some (.int .i64 4)) :
    Calls Tryd.prog 27 #[.pointer (some ⟨v, 0, none⟩), .slice none 0 0] w fun e w' => ∃ x : Sr.Sl, e = .returned (slV x) ∧ BR w' w.heap.size x s.data.toList ∧ Kp Off w w' := by
  refine fastjson_Value_MarshalTo.calls _ _ _ _ ?_
  unfold fastjson_Value_MarshalTo.t
  refine s_ptr ?_
  simp only [addr_add, Nat.zero_add]
  refine s_load (4 : Int) h4 ?_
  refine s_iteE (fun h => absurd h (by decide)) (fun _ => ?_)
  refine s_iteE (fun h => absurd h (by decide)) (fun _ => ?_)
  refine s_iteE (fun h => absurd h (by decide)) (fun _ => ?_)
  refine s_iteE (fun h => absurd h (by decide)) (fun _ => ?_)
  refine s_iteE (fun _ => s_ptr ?_) (fun h => absurd rfl h)
  simp only [addr_add, Nat.zero_add]
  refine s_load s h3 ?_
  have hB := BR.nil w w.heap.size
  generalize hx0 : ((none, 0, 0) : Sr.Sl) = x0 at hB
  have hx1 : Value.slice none 0 0 = Value.slice x0.1 x0.2.1 x0.2.2 := by rw [← hx0]
  rw [hx1]
  refine s_putS hB (Nat.le_refl _) (by rw [List.length_nil]; omega) rfl fun x' w' h5 h6 _ => s_leaf ⟨rfl, x', rfl, h5, ?_⟩
  exact kp_then (Kp.refl _ w) h6 fun i hi e => by rw [← hx0] at e; simp [Own, slV, Value.ownBlock] at e
theorem impl_any {w : World} {n : Int} (h0 : -9223372036854775808 ≤ n) (h1 : n ≤ 9223372036854775807) (hT : ∀ w', Kp Off w w' → Lib.TabIs Tryd.prog w' tabN .u64 Lib.pow10Tab) :
    Calls Tryd.prog 12 #[.int .i64 n] w fun e w' => e = .returned (.string (num n)) ∧ Kp Off w w' := by
  refine impl_FjBuildInt.calls _ ?_
  unfold impl_FjBuildInt.t
  obtain ⟨w1, hw1⟩ : ∃ w1, w.alloc (.cells [Value.slice none 0 0, .slice none 0 0].toArray tAr (0, 0)) = w1 := ⟨_, rfl⟩
  obtain ⟨b1, k1, z1⟩ := new_blk hw1
  refine s_allocE w.heap.size rfl w1 hw1 ?_
  have up : ∀ {w2 : World}, Kp (On w.heap.size) w1 w2 → Kp Off w w2 := fun k => kp_then k1 k fun i hi e => by have e : i = w.heap.size := e; omega
  refine s_call (newInt_any h0 h1 b1 fun w' k => hT w' (up k)) ?_
  rintro e w2 ⟨v, rfl, c3, c4, k2⟩
  have hz : (num n).size ≤ 100 := by
    have e : (num n).size = (Lib.itoa n).length := List.size_toArray
    have := itoa_len h0 h1
    omega
  refine ⟨some ⟨v, 0, none⟩, rfl, s_call (marshal_any hz c3 c4) ?_⟩
  rintro e w3 ⟨x, rfl, hB, k3⟩
  refine ⟨x, rfl, ?_⟩
  have hr := hB.toStr
  have es : (⟨(num n).data.toList.toArray⟩ : ByteArray) = num n := by rw [Array.toArray_toList]
  rw [es] at hr
  exact s_eff (num n) hr (s_leaf ⟨rfl, rfl, (up k2).trans k3⟩)
theorem laid_of_H {P : Program} {l : List (String × DataW Unit)} {W : World} (h : laidMetH P l W) (hn : (l.filter fun x => x.2.handleName?.isSome) = []) : laidMet P l W := by
  unfold laidMetH at h; rw [hn] at h; exact h
theorem pow_eq : (Rows.laid_internal_strconv_uint64pow10 : DataW Unit) = Lib.tabData .u64 Lib.pow10Tab := by kernel_rfl
def gP : Nat := 4
theorem tab {w : World} (hL : laidMet Tryd.prog Rows.fnFjBuildIntRow.laid w) : ∀ w', Kp Off w w' → Lib.TabIs Tryd.prog w' tabN .u64 Lib.pow10Tab := by
  have h3 := laidMet.tail (laidMet.tail hL)
  have ht : Lib.TabIs Tryd.prog w tabN .u64 Lib.pow10Tab := by
    obtain ⟨ps, h⟩ := h3
    have h' : laidMet Tryd.prog ((tabN, Lib.tabData .u64 Lib.pow10Tab) :: Rows.fnFjBuildIntRow.laid.drop 3) w := by
      rw [← pow_eq]; exact ⟨ps, h⟩
    exact Lib.tabIs_of_head (g := gP) (by kernel_rfl) (by kernel_rfl : _ = some 173) Tryd.underlying173 Tryd.underlying27 (by kernel_rfl) (by kernel_rfl) h'
  exact fun w' k => Lib.tabBelow_of_tabIs ht w' k.belowOff
theorem walk (x : Int) (w : World) (hx : (Lit.int .i64 x).wf = true) (hL : laidMetH Tryd.prog Rows.fnFjBuildIntRow.laid w) :
    Calls Tryd.prog 5 #[.int .i64 x] w fun e w' => e = .returned (.bool true) ∧ RowKit.Below w.heap.size w w' := by
  have hT := tab (laid_of_H hL (by kernel_rfl))
  have hb : -9223372036854775808 ≤ x ∧ x ≤ 9223372036854775807 := by
    have := hx
    simp only [Lit.wf, Bool.and_eq_true, decide_eq_true_eq] at this
    exact this
  refine laws_FnFjBuildInt.calls _ ?_
  unfold laws_FnFjBuildInt.t
  refine s_call (impl_any hb.1 hb.2 hT) ?_
  rintro e w1 ⟨rfl, k1⟩
  refine ⟨num x, rfl, s_call (digits_any hb.1 hb.2) ?_⟩
  rintro e w2 ⟨rfl, k2⟩
  refine ⟨num x, rfl, s_leaf ⟨rfl, ?_⟩⟩
  rw [strEq_iff.2 rfl]
  exact ⟨rfl, (k1.trans k2).belowOff⟩
end Go.Proofs.YtbmmpnjpejamaaaDoor.LawFjBuildInt
