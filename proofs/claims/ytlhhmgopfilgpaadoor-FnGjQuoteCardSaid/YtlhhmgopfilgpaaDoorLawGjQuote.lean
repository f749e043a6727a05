/- The law FnGjQuote: its walk. No condition beyond the statement's own guards. -/
import Derived.Test.YtlhhmgopfilgpaaDoorQl
import Derived.Test.YtlhhmgopfilgpaaDoorPq
import Derived.Test.YtlhhmgopfilgpaaDoorJk
import Derived.Test.YtlhhmgopfilgpaaDoorRows
import Derived.Lib.LaidU8
import Derived.Lib.LaidTab
import Derived.Stop.LaidErr
import Derived.OpenShut
namespace Go.Proofs.YtlhhmgopfilgpaaDoor.LawGjQuote
open Go Go.Proofs Go.RowKit Go.Proofs.YtlhhmgopfilgpaaDoor.Rx Go.Proofs.YtlhhmgopfilgpaaDoor.Tr Go.Proofs.YtlhhmgopfilgpaaDoor.Pl Go.Proofs.YtlhhmgopfilgpaaDoor.Ut Go.Proofs.YtlhhmgopfilgpaaDoor.Ms Go.Proofs.YtlhhmgopfilgpaaDoor.Jk Go.Proofs.YtlhhmgopfilgpaaDoor.Ch Go.Proofs.YtlhhmgopfilgpaaDoor.Bw Go.Proofs.YtlhhmgopfilgpaaDoor.Uq Go.Proofs.YtlhhmgopfilgpaaDoor.Gq Go.Proofs.YtlhhmgopfilgpaaDoor.Ql Go.Proofs.YtlhhmgopfilgpaaDoor.Sr

abbrev tV : TypeId := 27
/-- A value's cells. -/
def vc (k : Int) (s : ByteArray) (na ka : Sl) : List Value := [.int .i64 k, .string s, .slice na.1 na.2.1 na.2.2, .slice ka.1 ka.2.1 ka.2.2]
abbrev zv : List Value := vc 0 (ByteArray.mk #[]) (none, 0, 0) (none, 0, 0)
theorem loadV {w : World} {g : Nat} {k : Int} {s : ByteArray} {na ka : Sl} (h : Blk w g (vc k s na ka) tV) : (Instr.loadAt tV (.pointer (some ⟨g, 0, none⟩))).run Tryd.prog w = .ok (.agg (vc k s na ka).toArray) w :=
  loadAt_run (by kernel_rfl) (info_some (by kernel_rfl)) (by kernel_rfl) h
theorem storeV {w : World} {g : Nat} {cs : List Value} (h : Blk w g cs tV) (hl : cs.length = 4) (k : Int) (s : ByteArray) (na ka : Sl) :
    ∃ w', (Instr.storeAt tV (.pointer (some ⟨g, 0, none⟩)) (.agg (vc k s na ka).toArray)).run Tryd.prog w = .ok () w' ∧ Blk w' g (vc k s na ka) tV ∧ Kp (On g) w w' :=
  storeAt_run (P := Tryd.prog) (t := tV) (vc k s na ka) h (info_some (by kernel_rfl)) (by kernel_rfl) (by rw [hl]; rfl) rfl
theorem size_new {w w1 : World} {o : Obj} (h : w.alloc o = w1) : w1.heap.size = w.heap.size + 1 := by rw [← h]; simp
/-- A block of one's own, new. -/
theorem new_blk {w w1 : World} {cs : List Value} {t : TypeId} (h : w.alloc (.cells cs.toArray t (0, 0)) = w1) : Blk w1 w.heap.size cs t ∧ Kp Off w w1 ∧ w1.heap.size = w.heap.size + 1 := ⟨by rw [← h]; exact Blk.new w cs t, by rw [← h]; exact (Kp.refl _ w).alloc _, size_new h⟩
theorem on_new {w w1 w2 : World} {g : Nat} (h : Kp Off w w1) (hg : w.heap.size ≤ g) (k : Kp (On g) w1 w2) : Kp Off w w2 := h.then k fun q hq e => by have : q = g := e; omega
theorem tree_str {q : ByteArray} {w : World} {r : List UInt8} {na ka : Sl} (hq : 2 ≤ q.size) (hs : q.size < 1000000000) (hr : uo (inn q) 0 = some r) (hna : na.2.1 = 0) (hka : ka.2.1 = 0) :
    Calls Tryd.prog 24 #[.string q, .agg (pc 4 (0 : Nat) q.size na ka).toArray] w fun e w' => e = .returned (.agg (vc 4 ⟨r.toArray⟩ (none, 0, 0) (none, 0, 0)).toArray) ∧ Kp Off w w' := by
  refine spec_Tree.calls _ _ _ _ _ _ _ _ _ _ ?_
  unfold spec_Tree.t
  obtain ⟨w1, hw1⟩ : ∃ w1, w.alloc (.cells (pc 4 (0 : Nat) q.size na ka).toArray tP (0, 0)) = w1 := ⟨_, rfl⟩
  obtain ⟨b0, k1, z1⟩ := new_blk hw1
  obtain ⟨w2, hw2⟩ : ∃ w2, w1.alloc (.cells zv.toArray tV (0, 0)) = w2 := ⟨_, rfl⟩
  obtain ⟨b1, k2, z2⟩ := new_blk hw2
  obtain ⟨w3, hw3⟩ : ∃ w3, w2.alloc (.cells zv.toArray tV (0, 0)) = w3 := ⟨_, rfl⟩
  obtain ⟨b3, k3, z3⟩ := new_blk hw3
  have b02 := k2.blk b0 (id : ¬ Off w.heap.size)
  have b03 := k3.blk b02 (id : ¬ Off w.heap.size)
  have b13 := k3.blk b1 (id : ¬ Off w1.heap.size)
  have k03 := (k1.trans k2).trans k3
  obtain ⟨w4, h4, b34, k4⟩ := storeV b3 rfl 4 (ByteArray.mk #[]) (none, 0, 0) (none, 0, 0)
  have b04 := k4.blk b03 (fun e => by have : w.heap.size = w2.heap.size := e; omega)
  have b14 := k4.blk b13 (fun e => by have : w1.heap.size = w2.heap.size := e; omega)
  have k04 : Kp Off w w4 := on_new k03 (by omega) k4
  refine s_allocE w.heap.size rfl w1 hw1 ?_
  refine s_allocE w1.heap.size rfl w2 hw2 ?_
  simp only [addr_add, Nat.zero_add]
  refine s_load (4 : Int) (b02.cell 0) ?_
  refine s_allocE w2.heap.size rfl w3 hw3 ?_
  refine s_effU h4 ?_
  refine s_load (4 : Int) (b04.cell 0) ?_
  have step : ∀ (w5 : World), Blk w5 w.heap.size (pc 4 (0 : Nat) q.size na ka) tP → Blk w5 w1.heap.size zv tV → Blk w5 w2.heap.size (vc 4 ⟨r.toArray⟩ (none, 0, 0) (none, 0, 0)) tV → Kp Off w w5 →
      sat Tryd.prog (spec_Tree.t3 q ⟨w.heap.size, 0, none⟩ ⟨w1.heap.size, 0, none⟩ ⟨w2.heap.size, 0, none⟩) (fun l vs w' => l = 0 ∧ (Ending.returned (retVal vs) = .returned (.agg (vc 4 ⟨r.toArray⟩ (none, 0, 0) (none, 0, 0)).toArray) ∧ Kp Off w w')) w5 := by
    intro w5 c0 c1 c3 k5
    unfold spec_Tree.t3
    refine s_loop (fun n x w' => n = 0 ∧ x = ((0 : Int), ()) ∧ w5 = w') 0 ((0 : Int), ()) rfl ⟨rfl, rfl, rfl⟩ ?_
    rintro n x w6 ⟨rfl, rfl, rfl⟩
    simp only [spec_Tree.t4, addr_add, Nat.zero_add]
    refine s_load na (c0.cell 3) ?_
    rw [hna]
    refine s_iteD (fun h => by omega) (fun _ => ?_)
    refine s_loop (fun n x w' => n = 0 ∧ x = ((0 : Int), ()) ∧ w5 = w') 0 ((0 : Int), ()) rfl ⟨rfl, rfl, rfl⟩ ?_
    rintro n x w6 ⟨rfl, rfl, rfl⟩
    simp only [spec_Tree.t5, addr_add, Nat.zero_add]
    refine s_load ka (c0.cell 4) ?_
    rw [hka]
    refine s_iteD (fun h => by omega) (fun _ => ?_)
    refine s_eff ((4 : Int), (⟨r.toArray⟩ : ByteArray), (none, 0, 0), (none, 0, 0), ()) (loadV c3) ?_
    obtain ⟨w7, h7, c7, k7⟩ := storeV c1 rfl 4 ⟨r.toArray⟩ (none, 0, 0) (none, 0, 0)
    refine s_effU h7 ?_
    refine s_effS ((4 : Int), (⟨r.toArray⟩ : ByteArray), (none, 0, 0), (none, 0, 0), ()) (loadV c7) (s_leaf ?_)
    rw [if_neg (by decide), if_neg (by decide)]
    exact ⟨rfl, rfl, on_new k5 (by omega) k7⟩
  refine s_cut (fun _ w' => Blk w' w.heap.size (pc 4 (0 : Nat) q.size na ka) tP ∧ Blk w' w1.heap.size zv tV ∧ Blk w' w2.heap.size (vc 4 ⟨r.toArray⟩ (none, 0, 0) (none, 0, 0)) tV ∧ Kp Off w w') ?_ (fun _ w5 h => step w5 h.1 h.2.1 h.2.2.1 h.2.2.2)
  refine s_cut (fun _ w' => Blk w' w.heap.size (pc 4 (0 : Nat) q.size na ka) tP ∧ Blk w' w1.heap.size zv tV ∧ Blk w' w2.heap.size (vc 4 ⟨r.toArray⟩ (none, 0, 0) (none, 0, 0)) tV ∧ Kp Off w w') ?_ (fun _ w5 h => by
    unfold spec_Tree.t2; refine s_leaf ?_; rw [if_pos rfl]; exact ⟨(), rfl, h⟩)
  refine s_iteE (fun h => by cases h) (fun _ => ?_)
  refine s_cut (fun _ w' => Blk w' w.heap.size (pc 4 (0 : Nat) q.size na ka) tP ∧ Blk w' w1.heap.size zv tV ∧ Blk w' w2.heap.size (vc 4 ⟨r.toArray⟩ (none, 0, 0) (none, 0, 0)) tV ∧ Kp Off w w') ?_ (fun _ w5 h => by
    unfold spec_Tree.t1; refine s_leaf ?_; rw [if_pos rfl]; exact ⟨(), rfl, h⟩)
  refine s_iteE (fun _ => ?_) (fun h => absurd rfl h)
  refine s_load ((0 : Nat) : Int) (b04.cell 1) (s_load (q.size : Int) (b04.cell 2) (s_chk (by omega) ?_))
  have ex : ByteArray.extract q (Int.toNat ((0 : Nat) : Int)) (Int.toNat ((ByteArray.size q : Nat) : Int)) = q := by
    rw [Int.toNat_natCast, Int.toNat_natCast]; exact ByteArray.extract_zero_size
  rw [ex]
  refine s_call (unquote_any hq hs hr) ?_
  rintro e w5 ⟨rfl, k5⟩
  have b05 := k5.blk b04 (id : ¬ Off w.heap.size)
  have b15 := k5.blk b14 (id : ¬ Off w1.heap.size)
  have b35 := k5.blk b34 (id : ¬ Off w2.heap.size)
  refine ⟨(⟨r.toArray⟩ : ByteArray), rfl, ?_⟩
  refine s_store (b35.cell 1) (b35.free 1) (s_leaf ?_)
  rw [if_pos rfl]
  have kk : Kp (On w2.heap.size) w5 _ := (Kp.refl (On w2.heap.size) w5).on 1 (.string ⟨r.toArray⟩)
  refine ⟨(), rfl, kk.blk b05 (fun e => by have : w.heap.size = w2.heap.size := e; omega), kk.blk b15 (fun e => by have : w1.heap.size = w2.heap.size := e; omega), b35.set 1 _, on_new (k04.trans k5) (by omega) kk⟩
theorem val_qs {s : ByteArray} (h : U8 s 0) : places (qs s) = some (.mk 4 0 (qs s).size [] []) := by
  obtain ⟨h1, h2⟩ := qs_str h
  have h2 : bt (qs s) ((0 : Nat) : Int) = 34 := h2
  have hb : bl (qs s) 0 = 0 := bl_no (by rw [h2]; decide)
  have hv : val (qs s) 0 = some (.mk 4 0 (qs s).size [] []) := by rw [val_str h2, Nat.zero_add, h1]; rfl
  unfold places
  rw [hb, hv]
  exact if_pos (bl_end (Nat.le_refl _))
theorem pc_inj {k b e k' b' e' : Int} {na ka na' ka' : Sl} (h : Sr.pc k b e na ka = Sr.pc k' b' e' na' ka') : k = k' ∧ b = b' ∧ e = e' ∧ na = na' ∧ ka = ka' := by
  obtain ⟨a1, a2, a3⟩ := na
  obtain ⟨c1, c2, c3⟩ := ka
  obtain ⟨a1', a2', a3'⟩ := na'
  obtain ⟨c1', c2', c3'⟩ := ka'
  simp only [Sr.pc, List.cons.injEq, Value.int.injEq, Value.slice.injEq] at h
  obtain ⟨⟨_, rfl⟩, ⟨_, rfl⟩, ⟨_, rfl⟩, ⟨rfl, rfl, rfl⟩, ⟨rfl, rfl, rfl⟩, _⟩ := h
  exact ⟨rfl, rfl, rfl, rfl, rfl⟩
theorem read_qs {s : ByteArray} {w : World} (h : U8 s 0) (hs : s.size ≤ 4096) :
    Calls Tryd.prog 11 #[.string (qs s)] w fun e w' => e = .returned (.tuple #[.agg (vc 4 s (none, 0, 0) (none, 0, 0)).toArray, .bool true]) ∧ Kp Off w w' := by
  have hz := qs_size s
  have hl := qs_len s
  refine spec_Read.calls _ ?_
  unfold spec_Read.t
  obtain ⟨w1, hw1⟩ : ∃ w1, w.alloc (.cells zv.toArray tV (0, 0)) = w1 := ⟨_, rfl⟩
  obtain ⟨b1, k1, z1⟩ := new_blk hw1
  refine s_allocE w.heap.size rfl w1 hw1 ?_
  refine s_call (places_any (s := qs s) (by omega)) ?_
  rintro e w2 ⟨k, b, e1, na, ka, rfl, k2, hp⟩
  have hP := hp _ (val_qs h)
  rw [val_qs h]
  unfold PlAt at hP
  obtain ⟨na', ka', xs, he, ⟨hn, _⟩, ⟨hk, _⟩, _⟩ := hP
  obtain ⟨rfl, rfl, rfl, rfl, rfl⟩ := pc_inj he
  refine ⟨((((4 : Nat) : Int), ((0 : Nat) : Int), (((qs s).size : Nat) : Int), na, ka, ()), true, ()), rfl, ?_⟩
  obtain ⟨w3, hw3⟩ : ∃ w3, w2.alloc (.cells zp.toArray tP (0, 0)) = w3 := ⟨_, rfl⟩
  obtain ⟨b3, k3, z3⟩ := new_blk hw3
  refine s_allocE w2.heap.size rfl w3 hw3 ?_
  obtain ⟨w4, h4, b4, k4⟩ := storeP b3 rfl ((4 : Nat) : Int) ((0 : Nat) : Int) (((qs s).size : Nat) : Int) na ka
  refine s_effU h4 (sat_iteF.2 ?_)
  refine s_eff (((4 : Nat) : Int), ((0 : Nat) : Int), (((qs s).size : Nat) : Int), na, ka, ()) (loadP b4) ?_
  refine s_call (tree_str (q := qs s) (by omega) (by omega) (qs_inn h) hn hk) ?_
  rintro e w5 ⟨rfl, k5⟩
  have es : (⟨s.data.toList.toArray⟩ : ByteArray) = s := by rw [Array.toArray_toList]
  rw [es]
  refine ⟨((4 : Int), s, (none, 0, 0), (none, 0, 0), ()), rfl, ?_⟩
  have k14 : Kp Off w1 w4 := on_new (k2.trans k3) k2.size k4
  have k15 := k14.trans k5
  have b5 := k15.blk b1 (id : ¬ Off w.heap.size)
  obtain ⟨w6, h6, b6, k6⟩ := storeV b5 rfl 4 s (none, 0, 0) (none, 0, 0)
  refine s_effU h6 ?_
  refine s_effS ((4 : Int), s, (none, 0, 0), (none, 0, 0), ()) (loadV b6) (s_leaf ⟨rfl, rfl, on_new (k1.trans k15) (Nat.le_refl _) k6⟩)
theorem quote_any {s : ByteArray} {w : World} (hs : s.size ≤ 4096) (hT : Tb w) (hH : Hx w) :
    Calls Tryd.prog 12 #[.string s] w fun e w' => e = .returned (.string (qs s)) ∧ Kp Off w w' := by
  refine impl_GjQuote.calls _ ?_
  unfold impl_GjQuote.t
  refine s_call (append_any (s := s) (by omega) hT hH) ?_
  rintro e w1 ⟨x, rfl, hB, k1⟩
  refine ⟨x, rfl, ?_⟩
  exact s_eff (qs s) hB.toStr (s_leaf ⟨rfl, rfl, k1⟩)
theorem first_eq : Rows.laid_unicode_utf8_first = Lib.firstData := by kernel_rfl
theorem accept_eq : (Rows.laid_unicode_utf8_acceptRanges : DataW Unit) = Lib.acceptData := by kernel_rfl
def hexL : List Int := [48, 49, 50, 51, 52, 53, 54, 55, 56, 57, 97, 98, 99, 100, 101, 102]
theorem hex_eq : (Rows.laid_pub_tetrapla_pub_gjson_hexchars : DataW Unit) = Lib.tabData .u8 hexL := rfl
theorem hex_at : ∀ j : Nat, j < 16 → hexL.getD j 0 = ((hexd j).toNat : Int) := by decide
theorem tabs {w : World} (hL : laidMet Tryd.prog Rows.fnGjQuoteRow.laid w) : Tb w := by
  have h1 : Lib.VarReads Tryd.prog w "unicode/utf8.first" Rows.laid_unicode_utf8_first := Lib.laidMet.reads hL (.tail _ (.tail _ (.head _)))
  have h2 : Lib.VarReads Tryd.prog w "unicode/utf8.acceptRanges" Rows.laid_unicode_utf8_acceptRanges := Lib.laidMet.reads hL (.head _)
  rw [first_eq] at h1
  rw [accept_eq] at h2
  exact utf8Tabs_of_reads (ρ := Tryd.lays260_ren) { Tryd.lays260 with } ⟨by kernel_rfl, by kernel_rfl, by kernel_rfl, by kernel_rfl, by kernel_rfl, by kernel_rfl, by kernel_rfl⟩ h1 h2
theorem hexs {w : World} (hL : laidMet Tryd.prog Rows.fnGjQuoteRow.laid w) : Hx w := by
  have h : laidMet Tryd.prog (("pub-tetrapla/pub/gjson.hexchars", Lib.tabData .u8 hexL) :: [("unicode/utf8.first", Rows.laid_unicode_utf8_first)]) w := laidMet.tail hL
  have ht := Lib.tabIs_of_head (g := gH) (by kernel_rfl) (by kernel_rfl : _ = some 73) Tryd.underlying73 Tryd.underlying5 (by kernel_rfl) (by kernel_rfl) h
  intro j hj
  have := ht.cell (g := gH) (by kernel_rfl) j hj
  rw [hex_at j hj] at this
  exact this
theorem walk (s : ByteArray) (w : World) (hs : s.size ≤ 140737488351232) (hL : laidMetH Tryd.prog Rows.fnGjQuoteRow.laid w) :
    Calls Tryd.prog 4 #[.string s] w fun e w' => e = .returned (.bool true) ∧ RowKit.Below w.heap.size w w' := by
  have hM := laid_of_H hL (by kernel_rfl)
  have hT : Tb w := tabs hM
  have hH : Hx w := hexs hM
  refine laws_FnGjQuote.calls _ ?_
  unfold laws_FnGjQuote.t
  have done : ∀ (w1 : World), Kp Off w w1 → (Ending.returned (retVal [.bool true]) = .returned (.bool true) ∧ RowKit.Below w.heap.size w w1) := fun w1 h => ⟨rfl, h.belowOff⟩
  refine s_iteD (fun _ => s_leaf ⟨rfl, done w (Kp.refl _ _)⟩) (fun hbig => ?_)
  refine s_cut (fun x w' => w = w' ∧ ∃ b, x = (b, ()) ∧ (b = false → s.size ≤ 4096 ∧ U8 s 0)) ?_ ?_
  · refine s_iteD (fun h => s_leaf ?_) (fun h => ?_)
    · rw [if_pos rfl]; exact ⟨(true, ()), rfl, rfl, true, rfl, fun h => by cases h⟩
    refine s_call (utf8_any (s := s) (by omega)) ?_
    rintro e w1 ⟨rfl, b1, rfl, hb1⟩
    refine ⟨b1, rfl, s_leaf ?_⟩
    rw [if_pos rfl]
    exact ⟨(!b1, ()), rfl, rfl, !b1, rfl, fun h => ⟨by omega, hb1.1 (by cases b1 with | true => rfl | false => cases h)⟩⟩
  rintro x w1 ⟨rfl, b, rfl, hb⟩
  simp only [laws_FnGjQuote.t1]
  refine s_ite (fun _ => s_leaf ⟨rfl, done w (Kp.refl _ _)⟩) (fun hbf => ?_)
  obtain ⟨z1, us⟩ := hb hbf
  refine s_call (quote_any z1 hT hH) ?_
  rintro e w1 ⟨rfl, k1⟩
  refine ⟨qs s, rfl, ?_⟩
  refine s_call (read_qs us z1) ?_
  rintro e w2 ⟨rfl, k2⟩
  refine ⟨(((4 : Int), s, (none, 0, 0), (none, 0, 0), ()), true, ()), rfl, ?_⟩
  obtain ⟨w3, hw3⟩ : ∃ w3, w2.alloc (.cells zv.toArray tV (0, 0)) = w3 := ⟨_, rfl⟩
  obtain ⟨b3, k3, z3⟩ := new_blk hw3
  refine s_allocE w2.heap.size rfl w3 hw3 ?_
  obtain ⟨w4, h4, b4, k4⟩ := storeV b3 rfl 4 s (none, 0, 0) (none, 0, 0)
  refine s_effU h4 (sat_iteT.2 ?_)
  simp only [addr_add, Nat.zero_add]
  refine s_load (4 : Int) (b4.cell 0) ?_
  refine s_iteE (fun _ => ?_) (fun h => absurd rfl h)
  refine s_load s (b4.cell 1) (s_leaf ⟨rfl, ?_⟩)
  rw [strEq_iff.2 rfl]
  exact done w4 (on_new ((k1.trans k2).trans k3) (by have := k1.size; have := k2.size; omega) k4)
end Go.Proofs.YtlhhmgopfilgpaaDoor.LawGjQuote
