/- The law FnFjBuildBytes: its walk. No condition beyond the statement's own guards. -/
import Derived.Test.YtbmmpnjpejamaaaDoorQa
import Derived.Test.YtbmmpnjpejamaaaDoorNv
import Derived.Test.YtbmmpnjpejamaaaDoorSh
import Derived.Test.YtbmmpnjpejamaaaDoorRows
import Derived.Laws.BytesArg
import Derived.Lib.LaidU8
import Derived.Lib.LaidPrint
import Derived.Lib.LaidTab
import Derived.Stop.LaidErr
import Derived.OpenShut
namespace Go.Proofs.YtbmmpnjpejamaaaDoor.LawFjBuildBytes
open Go Go.Proofs Go.RowKit Go.Proofs.YtbmmpnjpejamaaaDoor.Rx Go.Proofs.YtbmmpnjpejamaaaDoor.Tr Go.Proofs.YtbmmpnjpejamaaaDoor.Pl Go.Proofs.YtbmmpnjpejamaaaDoor.Ut Go.Proofs.YtbmmpnjpejamaaaDoor.Ms Go.Proofs.YtbmmpnjpejamaaaDoor.Bw Go.Proofs.YtbmmpnjpejamaaaDoor.Nu Go.Proofs.YtbmmpnjpejamaaaDoor.Qa
open Go.Proofs.YtbmmpnjpejamaaaDoor.Sr (slV tBs tB)
open Go.Proofs.YtbmmpnjpejamaaaDoor.LawGjUnescapeAny (kp_then)

theorem new_blk {w w1 : World} {cs : List Value} {t : TypeId} (h : w.alloc (.cells cs.toArray t (0, 0)) = w1) : Blk w1 w.heap.size cs t ∧ Kp Off w w1 ∧ w1.heap.size = w.heap.size + 1 :=
  ⟨by rw [← h]; exact Blk.new w cs t, by rw [← h]; exact (Kp.refl _ w).alloc _, by rw [← h]; simp⟩
theorem s_allocE {P : Program} {Q : Nat → List Value → World → Prop} {w : World} {o : Obj} {k : Addr → T} (n : Nat) (hn : w.heap.size = n) (w' : World) (hw : w.alloc o = w') (h : sat P (k ⟨n, 0, none⟩) Q w') : sat P (.alloc o k) Q w := by
  subst hn; subst hw; exact h
/-- Whether the text is written by strconv.AppendQuote. -/
def hsp (s : ByteArray) : Bool := decide (Lib.indexByte s.data.toList 34 ≥ 0) || decide (Lib.indexByte s.data.toList 92 ≥ 0) || s.data.toList.any fun b => decide (b.toNat < 32)
/-- What stands between the marks. -/
def mid (s : ByteArray) : List Int := if hsp s then Lib.quoteFrom Lib.goPrintTabs s.size s else s.data.toList.map fun b => (b.toNat : Int)
def esc (s : ByteArray) : List Int := 34 :: (mid s ++ [34])
theorem special_any {s : ByteArray} {w : World} (hs : s.size ≤ 100000) : Calls Tryd.prog 68 #[.string s] w fun e w' => e = .returned (.bool (hsp s)) ∧ w' = w := by
  refine fastjson_hasSpecialChars.calls _ ?_
  unfold fastjson_hasSpecialChars.t
  refine s_cut (fun x w' => x = (decide (Lib.indexByte s.data.toList 34 ≥ 0) || decide (Lib.indexByte s.data.toList 92 ≥ 0), ()) ∧ w' = w) ?_ ?_
  · refine s_call (Tryd.strings_IndexByte s 34 w) ?_
    rintro e w1 ⟨rfl, rfl⟩
    refine ⟨Lib.indexByte s.data.toList 34, rfl, ?_⟩
    refine s_iteD (fun h => s_leaf ?_) (fun h => ?_)
    · rw [if_pos rfl]
      exact ⟨(true, ()), rfl, by rw [decide_eq_true h]; rfl, rfl⟩
    refine s_call (Tryd.strings_IndexByte s 92 w1) ?_
    rintro e w2 ⟨rfl, rfl⟩
    refine ⟨Lib.indexByte s.data.toList 92, rfl, s_leaf ?_⟩
    rw [if_pos rfl]
    exact ⟨(decide (Lib.indexByte s.data.toList 92 ≥ 0), ()), rfl, by rw [decide_eq_false h]; rfl, rfl⟩
  rintro x w1 ⟨rfl, rfl⟩
  simp only [fastjson_hasSpecialChars.t1]
  refine s_ite (fun h => s_leaf ⟨rfl, ?_, rfl⟩) (fun h => ?_)
  · unfold hsp; rw [h]; rfl
  refine s_loop (fun n x w' => ∃ i : Nat, n = s.size - i ∧ x = ((i : Int), ()) ∧ i ≤ s.size ∧ (∀ j : Nat, j < i → ¬ (gb s j).toNat < 32) ∧ w' = w1) s.size ((0 : Int), ()) rfl ⟨0, rfl, rfl, Nat.zero_le _, fun j hj => by omega, rfl⟩ ?_
  rintro n x w2 ⟨i, rfl, rfl, hi, hp, rfl⟩
  simp only [fastjson_hasSpecialChars.t2]
  have hbt : bt s (i : Int) = ((gb s i).toNat : Int) := by unfold bt gb; rw [Int.toNat_natCast]
  refine s_iteD (fun hlt => s_chk (by omega) ?_) (fun hge => s_leaf ?_)
  · rw [hbt]
    have hil : i < s.data.toList.length := by rw [Array.length_toList]; show i < s.size; omega
    refine s_iteD (fun h32 => s_leaf ?_) (fun h32 => s_leaf ?_)
    · rw [if_neg (by decide)]
      refine ⟨rfl, ?_, rfl⟩
      have : (s.data.toList.any fun b => decide (b.toNat < 32)) = true := by
        rw [List.any_eq_true]
        refine ⟨gb s i, ?_, decide_eq_true (by omega)⟩
        unfold gb
        rw [List.getD_eq_getElem?_getD, List.getElem?_eq_getElem hil]
        exact List.getElem_mem _
      unfold hsp; rw [h, this]; rfl
    · rw [if_pos rfl, wrap_in (by omega) (by omega)]
      refine ⟨s.size - (i + 1), (((i + 1 : Nat) : Int), ()), rfl, by omega, i + 1, rfl, rfl, by omega, fun j hj => ?_, rfl⟩
      rcases Nat.lt_or_ge j i with g | g
      · exact hp j g
      · have : j = i := by omega
        subst this; omega
  · rw [if_neg (by decide)]
    refine ⟨rfl, ?_, rfl⟩
    have : (s.data.toList.any fun b => decide (b.toNat < 32)) = false := by
      rw [List.any_eq_false]
      intro b hb
      obtain ⟨k, hk, rfl⟩ := List.getElem_of_mem hb
      have hk' : k < s.size := by rw [Array.length_toList] at hk; exact hk
      have := hp k (by omega)
      unfold gb at this
      rw [List.getD_eq_getElem?_getD, List.getElem?_eq_getElem hk] at this
      simpa using this
    unfold hsp; rw [h, this]; rfl
theorem hsp_pos {s : ByteArray} (h : hsp s = true) : 0 < s.size := by
  rcases Nat.eq_zero_or_pos s.size with g | g
  · have : s.data.toList = [] := List.eq_nil_of_length_eq_zero (by rw [Array.length_toList]; exact g)
    unfold hsp at h
    rw [this] at h
    exact absurd h (by decide)
  · exact g
theorem OB.nil (w : World) : OB w w (none, 0, 0) [] := ⟨World.ownsRowF_nil w _ tB 1, RowKit.Below.refl _ _, Nat.le_refl _⟩
theorem escape_any {s : ByteArray} {w : World} (hs : s.size ≤ 100000) (hT : Pt Lib.goPrintTabs w) (hU : Tb w) :
    Calls Tryd.prog 49 #[.slice none 0 0, .string s] w fun e w' => ∃ x : Sr.Sl, e = .returned (slV x) ∧ OB w w' x (esc s) := by
  refine fastjson_escapeString.calls _ _ _ _ ?_
  unfold fastjson_escapeString.t
  refine s_call (special_any hs) ?_
  rintro e w1 ⟨rfl, rfl⟩
  refine ⟨hsp s, rfl, ?_⟩
  cases hh : hsp s with
  | false =>
    have hB := OB.nil w1
    generalize hx0 : ((none, 0, 0) : Sr.Sl) = x0 at hB
    have hx1 : Value.slice none 0 0 = Value.slice x0.1 x0.2.1 x0.2.2 := by rw [← hx0]
    refine sat_iteT.2 ?_
    rw [hx1]
    refine s_ob hB 34 rfl (by simp) rfl fun x1 w2 hB1 => ?_
    refine s_obS hB1 (s.data.toList.map fun b => (b.toNat : Int)) (by unfold Lib.strCells Lib.intCells; rw [List.map_map]; rfl) (by show 1 + s.size ≤ _; omega) rfl fun x2 w3 hB2 => ?_
    refine s_ob hB2 34 rfl (by simp; omega) rfl fun x3 w4 hB3 => s_leaf ⟨rfl, x3, rfl, ?_⟩
    unfold esc mid
    rw [hh]
    simpa using hB3
  | true =>
    refine sat_iteF.2 ?_
    refine s_call (R := fun e w' => ∃ x : Sr.Sl, e = .returned (slV x) ∧ OB w1 w' x (esc s)) ?_ ?_
    · refine strconv_AppendQuote.calls _ _ _ _ ?_
      unfold strconv_AppendQuote.t
      refine s_call (quoted_any (hsp_pos hh) hs hT hU) ?_
      rintro e w2 ⟨x, rfl, hB⟩
      refine ⟨x, rfl, s_leaf ⟨rfl, x, rfl, ?_⟩⟩
      unfold esc mid
      rw [hh]; exact hB
    · rintro e w2 ⟨x, rfl, hB⟩
      exact ⟨x, rfl, s_leaf ⟨rfl, x, rfl, hB⟩⟩
theorem Pt.kp {S : Nat → Prop} {T : Lib.PrintTabs} {w w' : World} (h : Pt T w) (k : Kp S w w') (hS : ∀ b, b < w.heap.size → ¬ S b) : Pt T w' :=
  printTabs_below h (Kp.belowOff (k.mono (S' := Off) fun b hb c => (hS b hb c).elim))
theorem mid_len (s : ByteArray) : (mid s).length ≤ 10 * s.size := by
  unfold mid
  split
  · exact Lib.quoteFrom_length_le _ _ _
  · rw [List.length_map, Array.length_toList]; show s.size ≤ _; omega
theorem newStr_any {s : ByteArray} {w : World} {g : Nat} (hs : s.size ≤ 100000) (h : Blk w g [.slice none 0 0, .slice none 0 0] tAr) (hT : ∀ w', Kp (On g) w w' → Pt Lib.goPrintTabs w') (hU : ∀ w', Kp (On g) w w' → Tb w') :
    Calls Tryd.prog 28 #[.pointer (some ⟨g, 0, none⟩), .string s] w fun e w' => ∃ v, e = .returned (.pointer (some ⟨v, 0, none⟩)) ∧ w'.cell? ⟨v, 3, none⟩ = some (.string (strOfNums (mid s))) ∧ w'.cell? ⟨v, 4, none⟩ = some (.int .i64 7) ∧ Kp (On g) w w' := by
  have hml := mid_len s
  refine fastjson_Arena_NewString.calls _ _ ?_
  unfold fastjson_Arena_NewString.t
  have hg : g < w.heap.size := h.lt
  refine s_ptr ?_
  simp only [addr_add, Nat.zero_add]
  refine s_call (getValue_any h) ?_
  rintro e w1 ⟨v, cur, u, rfl, hv, hb, htk, ha, k1⟩
  have hvg : v ≠ g := by omega
  have hlen : 5 ≤ cur.length := by
    have := congrArg List.length htk
    rw [List.length_take] at this
    have e : vz.length = 5 := rfl
    omega
  refine ⟨some ⟨v, 0, none⟩, rfl, s_ptr ?_⟩
  simp only [addr_add, Nat.zero_add]
  have c4 : w1.cell? ⟨v, 4, none⟩ = some cur[4] := by rw [hb.cell, List.getElem?_eq_getElem]
  refine s_store c4 (hb.free 4) (s_ptr ?_)
  have hb2 := hb.set 4 (.int .i64 7)
  have ha2 : Blk (w1.setCell ⟨v, 4, none⟩ (.int .i64 7)) g [.slice none 0 0, u] tAr := ha.setOther (a := ⟨v, 4, none⟩) hvg _
  have k2 : Kp (On g) w (w1.setCell ⟨v, 4, none⟩ (.int .i64 7)) := k1.setNew (a := ⟨v, 4, none⟩) hv _
  generalize (w1.setCell ⟨v, 4, none⟩ (.int .i64 7)) = w2 at hb2 ha2 k2
  simp only [addr_add, Nat.zero_add]
  refine s_load (none, 0, 0) (ha2.cell 0) ?_
  refine s_ptr ?_
  simp only [addr_add, Nat.zero_add]
  refine s_load (none, 0, 0) (ha2.cell 0) ?_
  refine s_call (escape_any hs (hT w2 k2) (hU w2 k2)) ?_
  rintro e w3 ⟨x, rfl, hB3⟩
  have hpos : (esc s).length = (mid s).length + 2 := by unfold esc; simp
  obtain ⟨q1, ⟨_, h7⟩ | ⟨r, cap, cu, fz, hxe, hbr, hr, hfz, hnc, hm, hcs, ht⟩⟩ := id hB3.1
  · omega
  obtain ⟨xa, xn, xc⟩ := x
  simp only [slV, Value.slice.injEq] at hxe
  obtain ⟨rfl, rfl, rfl⟩ := hxe
  have k3 : Kp Off w2 w3 := hB3.kp
  have hb3 := k3.blk hb2 id
  have ha3 := k3.blk ha2 id
  have hrv : v < r := Nat.lt_of_lt_of_le hb2.lt hbr
  have hrg : r ≠ g := by have := ha2.lt; omega
  refine ⟨(some ⟨r, 0, none⟩, (esc s).length, xc), rfl, s_ptr ?_⟩
  simp only [addr_add, Nat.zero_add]
  refine s_store (ha3.cell 0) (ha3.free 0) (s_drew (s_ptr ?_))
  have ha4 := (ha3.set 0 (.slice (some ⟨r, 0, none⟩) (esc s).length xc)).drew
  have hr4 : (w3.setCell ⟨g, 0, none⟩ (.slice (some ⟨r, 0, none⟩) (esc s).length xc)).drew.heap[r]? = some (.cells cu tB fz) := by
    show (w3.setCell ⟨g, 0, none⟩ _).heap[r]? = _
    rw [Below.heap_setCell _ _ _ _ (show r ≠ (⟨g, 0, none⟩ : Addr).block from hrg)]; exact hr
  have kk : Kp (On g) w3 (w3.setCell ⟨g, 0, none⟩ (.slice (some ⟨r, 0, none⟩) (esc s).length xc)).drew := ((Kp.refl (On g) w3).on 0 _).drew
  have hb4 := kk.blk hb3 (fun e => hvg e)
  have k4 : Kp (On g) w _ := (k2.trans (k3.mono fun _ _ c => c.elim)).trans kk
  generalize (w3.setCell ⟨g, 0, none⟩ (.slice (some ⟨r, 0, none⟩) (esc s).length xc)).drew = w4 at ha4 hr4 hb4 k4
  simp only [addr_add, Nat.zero_add]
  refine s_load (some ⟨r, 0, none⟩, (esc s).length, xc) (ha4.cell 0) (s_ptr ?_)
  simp only [addr_add, Nat.zero_add]
  refine s_load (some ⟨r, 0, none⟩, (esc s).length, xc) (ha4.cell 0) ?_
  have wa : IntKind.wrap IntKind.i64 (((0 : Nat) : Int) + (1 : Int)) = ((1 : Nat) : Int) := rfl
  have wb : IntKind.wrap IntKind.i64 ((((esc s).length : Nat) : Int) - (1 : Int)) = (((mid s).length + 1 : Nat) : Int) := by rw [wrap_in (by omega) (by omega)]; omega
  simp only [wa, wb, Int.toNat_natCast]
  have ea : (if xc = 1 then (some (⟨r, 0, none⟩ : Addr)) else Option.map (fun y : Addr => Addr.add y (1 * 1)) (some ⟨r, 0, none⟩)) = some ⟨r, 1, none⟩ := by
    rw [if_neg (by omega)]
    simp only [Option.map_some, addr_add]
  refine s_chk (by omega) ?_
  rw [ea, Nat.add_sub_cancel]
  show sat _ _ _ w4
  refine s_call (R := fun e w' => e = .returned (.string (strOfNums (mid s))) ∧ w' = w4) ?_ ?_
  · refine fastjson_b2s.calls _ _ _ ?_
    unfold fastjson_b2s.t
    have hcv := run_convert_bytes_arg (P := Tryd.prog) w4 tBs tB Tryd.underlying48 Tryd.underlying5 r 1 (mid s).length (xc - 1) (mid s) rfl (fun i hi => by
      have hi2 : 1 + i < (esc s).length * 1 := by omega
      have e1 : cu.toList[1 + i]? = (Lib.intCells (esc s))[1 + i]? := by rw [← ht, List.getElem?_take_of_lt hi2]
      have e2 : w4.cell? ⟨r, 1 + i, none⟩ = cu[1 + i]? := by simp [World.cell?, hr4]
      rw [e2, ← Array.getElem?_toList, e1]
      unfold Lib.intCells esc
      rw [List.getElem?_map, Nat.add_comm 1 i, List.getElem?_cons_succ, List.getElem?_append_left hi, List.getD_eq_getElem?_getD, List.getElem?_eq_getElem hi]; rfl) 9 Tryd.underlying9
    exact s_eff (strOfNums (mid s)) hcv (s_leaf ⟨rfl, rfl, rfl⟩)
  rintro e w4 ⟨rfl, rfl⟩
  have hl3 : 3 < (cur.set 4 (Value.int .i64 7)).length := by rw [List.length_set]; omega
  have c3 : w4.cell? ⟨v, 3, none⟩ = some (cur.set 4 (.int .i64 7))[3] := by rw [hb4.cell, List.getElem?_eq_getElem]
  refine ⟨strOfNums (mid s), rfl, ⟨RowKit.Below.refl _ _, s_ptr ?_⟩⟩
  simp only [addr_add, Nat.zero_add]
  refine s_store c3 (hb4.free 3) (s_leaf ⟨rfl, v, rfl, ?_, ?_, k4.setNew (a := ⟨v, 3, none⟩) hv _⟩)
  · rw [(hb4.set 3 (.string (strOfNums (mid s)))).cell, List.getElem?_set_self (by rw [List.length_set]; omega)]
  · rw [(hb4.set 3 (.string (strOfNums (mid s)))).cell, List.getElem?_set_ne (by decide), List.getElem?_set_self (by omega)]
theorem newBytes_any {s : ByteArray} {w : World} {g r0 c0 : Nat} (hs : s.size ≤ 100000) (h : Blk w g [.slice none 0 0, .slice none 0 0] tAr) (hby : Byts w ⟨r0, 0, none⟩ s) (hr0 : 0 < s.size → r0 < w.heap.size) (hrg0 : r0 ≠ g) (hT : ∀ w', Kp (On g) w w' → Pt Lib.goPrintTabs w') (hU : ∀ w', Kp (On g) w w' → Tb w') :
    Calls Tryd.prog 26 #[.pointer (some ⟨g, 0, none⟩), .slice (some ⟨r0, 0, none⟩) s.size c0] w fun e w' => ∃ v, e = .returned (.pointer (some ⟨v, 0, none⟩)) ∧ w'.cell? ⟨v, 3, none⟩ = some (.string (strOfNums (mid s))) ∧ w'.cell? ⟨v, 4, none⟩ = some (.int .i64 7) ∧ Kp (On g) w w' := by
  have hml := mid_len s
  refine fastjson_Arena_NewStringBytes.calls _ _ _ _ ?_
  unfold fastjson_Arena_NewStringBytes.t
  have hg : g < w.heap.size := h.lt
  refine s_ptr ?_
  simp only [addr_add, Nat.zero_add]
  refine s_call (getValue_any h) ?_
  rintro e w1 ⟨v, cur, u, rfl, hv, hb, htk, ha, k1⟩
  have hvg : v ≠ g := by omega
  have hlen : 5 ≤ cur.length := by
    have := congrArg List.length htk
    rw [List.length_take] at this
    have e : vz.length = 5 := rfl
    omega
  refine ⟨some ⟨v, 0, none⟩, rfl, s_ptr ?_⟩
  simp only [addr_add, Nat.zero_add]
  have c4 : w1.cell? ⟨v, 4, none⟩ = some cur[4] := by rw [hb.cell, List.getElem?_eq_getElem]
  refine s_store c4 (hb.free 4) (s_ptr ?_)
  have hb2 := hb.set 4 (.int .i64 7)
  have ha2 : Blk (w1.setCell ⟨v, 4, none⟩ (.int .i64 7)) g [.slice none 0 0, u] tAr := ha.setOther (a := ⟨v, 4, none⟩) hvg _
  have k2 : Kp (On g) w (w1.setCell ⟨v, 4, none⟩ (.int .i64 7)) := k1.setNew (a := ⟨v, 4, none⟩) hv _
  generalize (w1.setCell ⟨v, 4, none⟩ (.int .i64 7)) = w2 at hb2 ha2 k2
  simp only [addr_add, Nat.zero_add]
  refine s_load (none, 0, 0) (ha2.cell 0) ?_
  refine s_drew (s_ptr ?_)
  have hb2 := hb2.drew
  have ha2 := ha2.drew
  have k2 := k2.drew
  generalize w2.drew = w2 at hb2 ha2 k2
  simp only [addr_add, Nat.zero_add]
  refine s_load (none, 0, 0) (ha2.cell 0) ?_
  show sat _ _ _ w2
  refine s_call (R := fun e w' => e = .returned (.string s) ∧ w' = w2) ?_ ?_
  · refine fastjson_b2s.calls _ _ _ ?_
    unfold fastjson_b2s.t
    have hcv := run_convert_bytes_back (P := Tryd.prog) w2 tBs 9 tB ⟨r0, 0, none⟩ c0 s.data.toList Tryd.underlying48 Tryd.underlying5 Tryd.underlying9 (fun j hj => by
      have hj' : j < s.size := by rw [Array.length_toList] at hj; exact hj
      have := hby.at_ hj'
      rw [← k2.cell (a := (⟨r0, 0, none⟩ : Addr).add j) (by rw [addr_add]; exact hr0 (by omega)) (by rw [addr_add]; exact hrg0)] at this
      rw [this]
      congr 2
      unfold bt
      rw [Int.toNat_natCast, List.getD_eq_getElem?_getD, List.getElem?_eq_getElem hj]; rfl)
    have e1 : s.data.toList.length = s.size := Array.length_toList
    rw [e1] at hcv
    refine s_eff s ?_ (s_leaf ⟨rfl, rfl, rfl⟩)
    rw [hcv, Array.toArray_toList]; rfl
  rintro e w2 ⟨rfl, rfl⟩
  refine ⟨s, rfl, ⟨RowKit.Below.refl _ _, ?_⟩⟩
  show sat _ _ _ w2
  refine s_call (escape_any hs (hT w2 k2) (hU w2 k2)) ?_
  rintro e w3 ⟨x, rfl, hB3⟩
  have hpos : (esc s).length = (mid s).length + 2 := by unfold esc; simp
  obtain ⟨q1, ⟨_, h7⟩ | ⟨r, cap, cu, fz, hxe, hbr, hr, hfz, hnc, hm, hcs, ht⟩⟩ := id hB3.1
  · omega
  obtain ⟨xa, xn, xc⟩ := x
  simp only [slV, Value.slice.injEq] at hxe
  obtain ⟨rfl, rfl, rfl⟩ := hxe
  have k3 : Kp Off w2 w3 := hB3.kp
  have hb3 := k3.blk hb2 id
  have ha3 := k3.blk ha2 id
  have hrv : v < r := Nat.lt_of_lt_of_le hb2.lt hbr
  have hrg : r ≠ g := by have := ha2.lt; omega
  refine ⟨(some ⟨r, 0, none⟩, (esc s).length, xc), rfl, ⟨hB3.kp.belowOff, s_ptr ?_⟩⟩
  simp only [addr_add, Nat.zero_add]
  refine s_store (ha3.cell 0) (ha3.free 0) (s_drew (s_ptr ?_))
  have ha4 := (ha3.set 0 (.slice (some ⟨r, 0, none⟩) (esc s).length xc)).drew
  have hr4 : (w3.setCell ⟨g, 0, none⟩ (.slice (some ⟨r, 0, none⟩) (esc s).length xc)).drew.heap[r]? = some (.cells cu tB fz) := by
    show (w3.setCell ⟨g, 0, none⟩ _).heap[r]? = _
    rw [Below.heap_setCell _ _ _ _ (show r ≠ (⟨g, 0, none⟩ : Addr).block from hrg)]; exact hr
  have kk : Kp (On g) w3 (w3.setCell ⟨g, 0, none⟩ (.slice (some ⟨r, 0, none⟩) (esc s).length xc)).drew := ((Kp.refl (On g) w3).on 0 _).drew
  have hb4 := kk.blk hb3 (fun e => hvg e)
  have k4 : Kp (On g) w _ := (k2.trans (k3.mono fun _ _ c => c.elim)).trans kk
  generalize (w3.setCell ⟨g, 0, none⟩ (.slice (some ⟨r, 0, none⟩) (esc s).length xc)).drew = w4 at ha4 hr4 hb4 k4
  simp only [addr_add, Nat.zero_add]
  refine s_load (some ⟨r, 0, none⟩, (esc s).length, xc) (ha4.cell 0) (s_ptr ?_)
  simp only [addr_add, Nat.zero_add]
  refine s_load (some ⟨r, 0, none⟩, (esc s).length, xc) (ha4.cell 0) ?_
  have wa : IntKind.wrap IntKind.i64 (((0 : Nat) : Int) + (1 : Int)) = ((1 : Nat) : Int) := rfl
  have wb : IntKind.wrap IntKind.i64 ((((esc s).length : Nat) : Int) - (1 : Int)) = (((mid s).length + 1 : Nat) : Int) := by rw [wrap_in (by omega) (by omega)]; omega
  simp only [wa, wb, Int.toNat_natCast]
  have ea : (if xc = 1 then (some (⟨r, 0, none⟩ : Addr)) else Option.map (fun y : Addr => Addr.add y (1 * 1)) (some ⟨r, 0, none⟩)) = some ⟨r, 1, none⟩ := by
    rw [if_neg (by omega)]
    simp only [Option.map_some, addr_add]
  refine s_chk (by omega) ?_
  rw [ea, Nat.add_sub_cancel]
  show sat _ _ _ w4
  refine s_call (R := fun e w' => e = .returned (.string (strOfNums (mid s))) ∧ w' = w4) ?_ ?_
  · refine fastjson_b2s.calls _ _ _ ?_
    unfold fastjson_b2s.t
    have hcv := run_convert_bytes_arg (P := Tryd.prog) w4 tBs tB Tryd.underlying48 Tryd.underlying5 r 1 (mid s).length (xc - 1) (mid s) rfl (fun i hi => by
      have hi2 : 1 + i < (esc s).length * 1 := by omega
      have e1 : cu.toList[1 + i]? = (Lib.intCells (esc s))[1 + i]? := by rw [← ht, List.getElem?_take_of_lt hi2]
      have e2 : w4.cell? ⟨r, 1 + i, none⟩ = cu[1 + i]? := by simp [World.cell?, hr4]
      rw [e2, ← Array.getElem?_toList, e1]
      unfold Lib.intCells esc
      rw [List.getElem?_map, Nat.add_comm 1 i, List.getElem?_cons_succ, List.getElem?_append_left hi, List.getD_eq_getElem?_getD, List.getElem?_eq_getElem hi]; rfl) 9 Tryd.underlying9
    exact s_eff (strOfNums (mid s)) hcv (s_leaf ⟨rfl, rfl, rfl⟩)
  rintro e w4 ⟨rfl, rfl⟩
  have hl3 : 3 < (cur.set 4 (Value.int .i64 7)).length := by rw [List.length_set]; omega
  have c3 : w4.cell? ⟨v, 3, none⟩ = some (cur.set 4 (.int .i64 7))[3] := by rw [hb4.cell, List.getElem?_eq_getElem]
  refine ⟨strOfNums (mid s), rfl, ⟨RowKit.Below.refl _ _, s_ptr ?_⟩⟩
  simp only [addr_add, Nat.zero_add]
  refine s_store c3 (hb4.free 3) (s_leaf ⟨rfl, v, rfl, ?_, ?_, k4.setNew (a := ⟨v, 3, none⟩) hv _⟩)
  · rw [(hb4.set 3 (.string (strOfNums (mid s)))).cell, List.getElem?_set_self (by rw [List.length_set]; omega)]
  · rw [(hb4.set 3 (.string (strOfNums (mid s)))).cell, List.getElem?_set_ne (by decide), List.getElem?_set_self (by omega)]
/-- The whole text. -/
def res (s : ByteArray) : ByteArray := ⟨([(34 : UInt8)] ++ (strOfNums (mid s)).data.toList ++ [(34 : UInt8)]).toArray⟩
theorem marshal_any {w : World} {v : Nat} {s : ByteArray} (hs : s.size ≤ 100000) (h3 : w.cell? ⟨v, 3, none⟩ = some (.string (strOfNums (mid s)))) (h4 : w.cell? ⟨v, 4, none⟩ = some (.int .i64 7)) :
    Calls Tryd.prog 27 #[.pointer (some ⟨v, 0, none⟩), .slice none 0 0] w fun e w' => ∃ x : Sr.Sl, e = .returned (slV x) ∧ BR w' w.heap.size x ([(34 : UInt8)] ++ (strOfNums (mid s)).data.toList ++ [(34 : UInt8)]) ∧ Kp Off w w' := by
  have hml := mid_len s
  have hsz : (strOfNums (mid s)).size = (mid s).length := strOfNums_size _
  have hv : v < w.heap.size := cell_lt h3
  refine fastjson_Value_MarshalTo.calls _ _ _ _ ?_
  unfold fastjson_Value_MarshalTo.t
  refine s_ptr ?_
  simp only [addr_add, Nat.zero_add]
  refine s_load (7 : Int) h4 ?_
  refine s_iteE (fun _ => ?_) (fun h => absurd rfl h)
  have hB := BR.nil w w.heap.size
  generalize hx0 : ((none, 0, 0) : Sr.Sl) = x0 at hB
  have hx1 : Value.slice none 0 0 = Value.slice x0.1 x0.2.1 x0.2.2 := by rw [← hx0]
  rw [hx1]
  refine s_put hB [34] (Nat.le_refl _) (by simp) rfl rfl rfl (by simp) (by simp) fun x1 w1 hB1 k1 _ => s_ptr ?_
  have k1' : Kp Off w w1 := kp_then (Kp.refl _ w) k1 fun i hi e => by rw [← hx0] at e; simp [Own, slV, Value.ownBlock] at e
  simp only [addr_add, Nat.zero_add]
  refine s_load (strOfNums (mid s)) (by rw [k1'.cell (a := ⟨v, 3, none⟩) hv id]; exact h3) ?_
  refine s_putS hB1 k1'.size (by rw [hsz]; simp; omega) rfl fun x2 w2 hB2 k2 _ => ?_
  have k2' : Kp Off w w2 := kp_then k1' k2 fun i hi ho => by have := (hB1.block i ho).1; omega
  have hl : (strOfNums (mid s)).data.toList.length = (mid s).length := by rw [Array.length_toList]; exact hsz
  refine s_put hB2 [34] k2'.size (by simp; omega) rfl rfl rfl (by simp) (by simp) fun x3 w3 hB3 k3 _ => s_leaf ⟨rfl, x3, rfl, ?_, ?_⟩
  · exact hB3
  · exact kp_then k2' k3 fun i hi ho => by have := (hB2.block i ho).1; omega
theorem quote_any {s : ByteArray} {w : World} (hs : s.size ≤ 100000) (hT : ∀ w', Kp Off w w' → Pt Lib.goPrintTabs w') (hU : ∀ w', Kp Off w w' → Tb w') :
    Calls Tryd.prog 10 #[.string s] w fun e w' => e = .returned (.string (res s)) ∧ Kp Off w w' := by
  refine impl_FjQuote.calls _ ?_
  unfold impl_FjQuote.t
  obtain ⟨w1, hw1⟩ : ∃ w1, w.alloc (.cells [Value.slice none 0 0, .slice none 0 0].toArray tAr (0, 0)) = w1 := ⟨_, rfl⟩
  obtain ⟨b1, k1, z1⟩ := new_blk hw1
  refine s_allocE w.heap.size rfl w1 hw1 ?_
  have up : ∀ {w2 : World}, Kp (On w.heap.size) w1 w2 → Kp Off w w2 := fun k => kp_then k1 k fun i hi e => by have e : i = w.heap.size := e; omega
  refine s_call (newStr_any hs b1 (fun w' k => hT w' (up k)) (fun w' k => hU w' (up k))) ?_
  rintro e w2 ⟨v, rfl, c3, c4, k2⟩
  refine ⟨some ⟨v, 0, none⟩, rfl, s_call (marshal_any hs c3 c4) ?_⟩
  rintro e w3 ⟨x, rfl, hB, k3⟩
  refine ⟨x, rfl, ?_⟩
  exact s_eff (res s) hB.toStr (s_leaf ⟨rfl, rfl, (up k2).trans k3⟩)
theorem bytes_any {s : ByteArray} {w : World} (hs : s.size ≤ 100000) (hT : ∀ w', Kp Off w w' → Pt Lib.goPrintTabs w') (hU : ∀ w', Kp Off w w' → Tb w') :
    Calls Tryd.prog 9 #[.string s] w fun e w' => e = .returned (.string (res s)) ∧ Kp Off w w' := by
  refine impl_FjBuildBytes.calls _ ?_
  unfold impl_FjBuildBytes.t
  obtain ⟨w1, hw1⟩ : ∃ w1, w.alloc (.cells [Value.slice none 0 0, .slice none 0 0].toArray tAr (0, 0)) = w1 := ⟨_, rfl⟩
  obtain ⟨b1, k1, z1⟩ := new_blk hw1
  refine s_allocE w.heap.size rfl w1 hw1 ?_
  obtain ⟨c, w2, h2, by2, k2⟩ := convert_bytes (P := Tryd.prog) (w := w1) s Tryd.underlying9 Tryd.underlying48 Tryd.underlying5
  refine s_eff (some ⟨w1.heap.size, 0, none⟩, s.size, c) h2 ?_
  have b2 := k2.blk b1 id
  have k12 := k1.trans k2
  have up : ∀ {w3 : World}, Kp (On w.heap.size) w2 w3 → Kp Off w w3 := fun k => kp_then k12 k fun i hi e => by have e : i = w.heap.size := e; omega
  refine s_call (newBytes_any hs b2 by2 (fun g => cell_lt (by2.2 0 g)) (by omega) (fun w' k => hT w' (up k)) (fun w' k => hU w' (up k))) ?_
  rintro e w3 ⟨v, rfl, c3, c4, k3⟩
  refine ⟨some ⟨v, 0, none⟩, rfl, s_call (marshal_any hs c3 c4) ?_⟩
  rintro e w4 ⟨x, rfl, hB, k4⟩
  refine ⟨x, rfl, ?_⟩
  exact s_eff (res s) hB.toStr (s_leaf ⟨rfl, rfl, (up k3).trans k4⟩)
theorem first_eq : Rows.laid_unicode_utf8_first = Lib.firstData := by kernel_rfl
theorem accept_eq : (Rows.laid_unicode_utf8_acceptRanges : DataW Unit) = Lib.acceptData := by kernel_rfl
theorem p16_eq : Rows.laid_strconv_isPrint16 = Lib.sliceData .u16 Lib.goPrintTabs.p16 := by kernel_rfl
theorem n16_eq : Rows.laid_strconv_isNotPrint16 = Lib.sliceData .u16 Lib.goPrintTabs.n16 := by kernel_rfl
theorem p32_eq : Rows.laid_strconv_isPrint32 = Lib.sliceData .u32 Lib.goPrintTabs.p32 := by kernel_rfl
theorem n32_eq : Rows.laid_strconv_isNotPrint32 = Lib.sliceData .u16 Lib.goPrintTabs.n32 := by kernel_rfl
theorem tabs {w : World} (hL : laidMet Tryd.prog Rows.fnFjBuildBytesRow.laid w) : Tb w ∧ Pt Lib.goPrintTabs w := by
  have h1 : Lib.VarReads Tryd.prog w "unicode/utf8.acceptRanges" Rows.laid_unicode_utf8_acceptRanges := Lib.laidMet.reads hL (.head _)
  have h3 : Lib.VarReads Tryd.prog w "strconv.isNotPrint16" Rows.laid_strconv_isNotPrint16 := Lib.laidMet.reads hL (.tail _ (.tail _ (.head _)))
  have h4 : Lib.VarReads Tryd.prog w "strconv.isNotPrint32" Rows.laid_strconv_isNotPrint32 := Lib.laidMet.reads hL (.tail _ (.tail _ (.tail _ (.head _))))
  have h5 : Lib.VarReads Tryd.prog w "strconv.isPrint16" Rows.laid_strconv_isPrint16 := Lib.laidMet.reads hL (.tail _ (.tail _ (.tail _ (.tail _ (.head _)))))
  have h6 : Lib.VarReads Tryd.prog w "strconv.isPrint32" Rows.laid_strconv_isPrint32 := Lib.laidMet.reads hL (.tail _ (.tail _ (.tail _ (.tail _ (.tail _ (.head _))))))
  have h7 : Lib.VarReads Tryd.prog w "unicode/utf8.first" Rows.laid_unicode_utf8_first := Lib.laidMet.reads hL (.tail _ (.tail _ (.tail _ (.tail _ (.tail _ (.tail _ (.head _)))))))
  rw [accept_eq] at h1
  rw [n16_eq] at h3
  rw [n32_eq] at h4
  rw [p16_eq] at h5
  rw [p32_eq] at h6
  rw [first_eq] at h7
  refine ⟨utf8Tabs_of_reads (ρ := Tryd.lays260_ren) { Tryd.lays260 with } ⟨by kernel_rfl, by kernel_rfl, by kernel_rfl, by kernel_rfl, by kernel_rfl, by kernel_rfl, by kernel_rfl⟩ h7 h1, ?_⟩
  exact printTabs_of_reads (ρ := Tryd.lays289_ren) { Tryd.lays289 with } ⟨by kernel_rfl, by kernel_rfl, by kernel_rfl, by kernel_rfl, by kernel_rfl, by kernel_rfl, by kernel_rfl, by kernel_rfl, by kernel_rfl, by kernel_rfl⟩ h5 h3 h6 h4
theorem laid_of_H {P : Program} {l : List (String × DataW Unit)} {W : World} (h : laidMetH P l W) (hn : (l.filter fun x => x.2.handleName?.isSome) = []) : laidMet P l W := by
  unfold laidMetH at h; rw [hn] at h; exact h
theorem walk (s : ByteArray) (w : World) (hs : s.size ≤ 140737488351232) (hL : laidMetH Tryd.prog Rows.fnFjBuildBytesRow.laid w) :
    Calls Tryd.prog 3 #[.string s] w fun e w' => e = .returned (.bool true) ∧ RowKit.Below w.heap.size w w' := by
  obtain ⟨hU, hT⟩ := tabs (laid_of_H hL (by kernel_rfl))
  have hT' : ∀ {w0 : World}, Kp Off w w0 → ∀ w', Kp Off w0 w' → Pt Lib.goPrintTabs w' := fun k0 w' k => Pt.kp hT (k0.trans k) fun _ _ => id
  have hU' : ∀ {w0 : World}, Kp Off w w0 → ∀ w', Kp Off w0 w' → Tb w' := fun k0 w' k => hU.off (k0.trans k)
  refine laws_FnFjBuildBytes.calls _ ?_
  unfold laws_FnFjBuildBytes.t
  have done : ∀ (w1 : World), Kp Off w w1 → (Ending.returned (retVal [.bool true]) = .returned (.bool true) ∧ RowKit.Below w.heap.size w w1) := fun w1 h => ⟨rfl, h.belowOff⟩
  refine s_iteD (fun _ => s_leaf ⟨rfl, done w (Kp.refl _ _)⟩) (fun _ => ?_)
  refine s_iteD (fun _ => s_leaf ⟨rfl, done w (Kp.refl _ _)⟩) (fun hz => ?_)
  refine s_call (bytes_any (by omega) (hT' (Kp.refl _ w)) (hU' (Kp.refl _ w))) ?_
  rintro e w1 ⟨rfl, k1⟩
  refine ⟨res s, rfl, s_call (quote_any (by omega) (hT' k1) (hU' k1)) ?_⟩
  rintro e w2 ⟨rfl, k2⟩
  have k12 := k1.trans k2
  refine ⟨res s, rfl, ?_⟩
  rw [strEq_iff.2 rfl]
  refine sat_iteT.2 (s_call (bytes_any (by omega) (hT' k12) (hU' k12)) ?_)
  rintro e w3 ⟨rfl, k3⟩
  refine ⟨res s, rfl, s_leaf ⟨rfl, ?_⟩⟩
  have hne : strEq (res s) (ByteArray.mk #[]) = false := by
    rw [Bool.eq_false_iff]
    intro h
    have := congrArg ByteArray.size (strEq_iff.1 h)
    have e1 : (res s).size = ([(34 : UInt8)] ++ (strOfNums (mid s)).data.toList ++ [(34 : UInt8)]).length := List.size_toArray
    have e2 : (ByteArray.mk #[]).size = 0 := rfl
    rw [e1, e2] at this
    simp at this
  rw [hne]
  exact done w3 (k12.trans k3)
end Go.Proofs.YtbmmpnjpejamaaaDoor.LawFjBuildBytes
