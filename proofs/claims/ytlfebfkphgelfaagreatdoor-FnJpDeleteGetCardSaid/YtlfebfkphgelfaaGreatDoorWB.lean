/- Set, and what the law asks of its keys (the texts Kz Ef Sa Sb Sc Sd Se Sp Sg Si Sj Sl Dd of this repo put together). No statement of the set is proved here. -/
import Derived.Test.YtlfebfkphgelfaaGreatDoorMI
import Derived.Test.YtlfebfkphgelfaaGreatDoorWA
import Derived.LaidEql
import Derived.Test.YtlfebfkphgelfaaGreatDoorTb
import Derived.Test.YtlfebfkphgelfaaGreatDoorTc
import Derived.Lib.LazyBuf
import Derived.Test.YtlfebfkphgelfaaGreatDoorTd
namespace Go.Proofs.YtlfebfkphgelfaaGreatDoor.Ka
open Go Go.Proofs Go.RowKit Go.Proofs.YtlfebfkphgelfaaGreatDoor.Rx Go.Proofs.YtlfebfkphgelfaaGreatDoor.Tr Go.Proofs.YtlfebfkphgelfaaGreatDoor.Pl Go.Proofs.YtlfebfkphgelfaaGreatDoor.Pw Go.Proofs.YtlfebfkphgelfaaGreatDoor.Sk

variable {w w' : World} {x q : Sl} {s : ByteArray} {keys : List ByteArray} {p0 p : PT}
abbrev tPE : TypeId := 153
def gK : Nat := 1
/-- The error of what is not found. -/
def Ek (w : World) (a : Addr) : Prop := w.cell? ⟨gK, 0, none⟩ = some (.iface tPE (.pointer (some a)))
theorem Ek.kp {a : Addr} (h : Ek w a) (k : Kp Off w w') : Ek w' a := by
  unfold Ek
  rw [k.cell (a := ⟨gK, 0, none⟩) (Ms.cell_lt h) id]; exact h
/-- Keys lead in a text to an object that lacks the next one. -/
structure Mis (s : ByteArray) (p0 : PT) (keys : List ByteArray) : Prop where
  at0 : bl s 0 = p0.b
  wf : WfV s p0
  fin : bl s p0.e = s.size
  miss : Gk.Miss (nmS s) ixS p0 keys
theorem Mis.find (h : Mis s p0 keys) : Gk.Go s (nmS s) ixS s.size keys 0 0 0 true none := by
  have hlt := h.wf.lt
  have g1 := Gk.go_miss h.miss h.wf s.size keys 0 hlt.2 rfl (fun j g1 g2 => bl_blank s p0.e j g1 (by rw [h.fin]; exact g2))
  exact Gk.Go.gap (a := 0) (b := p0.b) rfl (Nat.zero_le _) (by omega) (fun j _ hj => bl_blank s 0 j (Nat.zero_le _) (by rw [h.at0]; exact hj)) g1
/-- The look-up by keys. -/
theorem getK_miss {a : Addr} (hs : s.size ≤ 8000000) (hL : Je.Lt w) (hE : Je.Ev w Je.gE) (hk : Ek w a) (hT : Tx w x s 0 s.size) (hKx : Kx w q keys) (h : Mis s p0 keys) :
    Calls Tryz.prog 65 #[cfg 0, slV x, slV q] w fun en w' => en = .returned (.tuple #[.slice none 0 0, .int .i64 0, .int .i64 (-1), .int .i64 (-1), .iface tPE (.pointer (some a))]) ∧ Kp Off w w' := by
  have hl := hKx.len
  have hne := h.miss.ne
  have hpos := List.length_pos_iff.2 hne
  refine jsonparser_internalGetConfig.calls _ _ _ _ _ _ _ _ _ ?_
  unfold jsonparser_internalGetConfig.t
  refine s_alloc ?_
  have b0 := Blk.new w (cfC 0) tCf
  have k0 : Kp Off w (w.alloc (.cells (cfC 0).toArray tCf (0, 0))) := (Kp.refl Off w).alloc _
  show sat _ _ _ (w.alloc (.cells (cfC 0).toArray tCf (0, 0)))
  generalize w.alloc (.cells (cfC 0).toArray tCf (0, 0)) = w1 at k0 b0
  refine s_cut (fun _ _ => False) (s_iteD (fun g => ?_) (fun g => absurd (by omega) g)) (fun _ _ g => g.elim)
  refine s_eff (w' := w1) (false, false, (0 : Int), ()) (cfg_run b0) ?_
  refine s_call (search_opt (r := none) hs (hL.off' k0) (hE.kp k0 id) (hT.kp k0) (hKx.kp k0) (.inr ⟨hne, h.find⟩)) ?_
  rintro en w2 ⟨rfl, k2⟩
  refine ⟨(-1 : Int), rfl, s_iteE (fun _ => s_drew ?_) (fun g => absurd rfl g)⟩
  have K := (k0.trans k2).drew
  refine s_load (Value.iface tPE (.pointer (some a))) (hk.kp K) (s_leaf ?_)
  rw [if_neg (by decide)]
  exact ⟨rfl, rfl, K⟩
end Go.Proofs.YtlfebfkphgelfaaGreatDoor.Ka
namespace Go.Proofs.YtlfebfkphgelfaaGreatDoor.Ka
open Go Go.Proofs Go.RowKit Go.Proofs.YtlfebfkphgelfaaGreatDoor.Rx Go.Proofs.YtlfebfkphgelfaaGreatDoor.Tr Go.Proofs.YtlfebfkphgelfaaGreatDoor.Pl Go.Proofs.YtlfebfkphgelfaaGreatDoor.Pw Go.Proofs.YtlfebfkphgelfaaGreatDoor.Sk
open Go.Proofs.YtlfebfkphgelfaaGreatDoor.Ed (put put_size put_pre put_suf)

variable {w w' : World} {x y q : Sl} {s t : ByteArray} {keys : List ByteArray} {p0 p : PT}
/-- A slice's bytes as a source of a copy. -/
theorem Tx.src (h : Tx w x s 0 s.size) : ∃ g o, x.1 = some ⟨g, o, none⟩ ∧ g < w.heap.size ∧ Je.In w s g o 0 s.size := by
  obtain ⟨b, o, a1, a2, a3⟩ := h.cell
  exact ⟨b, o, a1, a2, fun {j} hj => by
    have := a3 j (by omega)
    rw [this, ← Ut.bt_bn], rfl⟩
theorem tx_str (h : Tx w x s 0 s.size) : (convert tBs 9 (slV x)).run Tryz.prog w = .ok (.string s) w := by
  have := h.toStr
  rwa [ByteArray.extract_zero_size] at this
end Go.Proofs.YtlfebfkphgelfaaGreatDoor.Ka
namespace Go.Proofs.YtlfebfkphgelfaaGreatDoor.Ka
open Go Go.Proofs Go.RowKit Go.Proofs.YtlfebfkphgelfaaGreatDoor.Rx Go.Proofs.YtlfebfkphgelfaaGreatDoor.Tr Go.Proofs.YtlfebfkphgelfaaGreatDoor.Pl Go.Proofs.YtlfebfkphgelfaaGreatDoor.Pw Go.Proofs.YtlfebfkphgelfaaGreatDoor.Sk
open Go.Proofs.YtlfebfkphgelfaaGreatDoor.Bw (bv gb bt_bv)
open Go.Proofs.YtlfebfkphgelfaaGreatDoor.Ed (opn AsIs mkB len_of)

variable {w w' : World} {x y q : Sl} {s t : ByteArray} {keys : List ByteArray} {h N : Nat} {l : List UInt8}
/-- The first bytes of a buffer of N. -/
structure FB (w : World) (h N : Nat) (l : List UInt8) : Prop where
  lt : h < w.heap.size
  le : l.length ≤ N
  at' : ∀ j u, l[j]? = some u → w.cell? ⟨h, j, none⟩ = some (bv u)
  there : ∀ j, j < N → (w.cell? ⟨h, j, none⟩).isSome = true ∧ w.frozen? ⟨h, j, none⟩ = false
theorem FB.kp {S : Nat → Prop} (hF : FB w h N l) (k : Kp S w w') (hS : ¬ S h) : FB w' h N l := by
  have hb := k.block h hF.lt hS
  exact ⟨Nat.lt_of_lt_of_le hF.lt k.size, hF.le, fun j u hj => (World.cell?_of_block (a := ⟨h, j, none⟩) hb).trans (hF.at' j u hj), fun j hj => ⟨by rw [World.cell?_of_block (a := ⟨h, j, none⟩) hb]; exact (hF.there j hj).1, (World.frozen?_of_block (a := ⟨h, j, none⟩) hb).trans (hF.there j hj).2⟩⟩
theorem kp_set (h : Nat) : ∀ (vs : List Value) (o : Nat) (w : World), Kp (On h) w (w.setCells h o vs)
  | [], o, w => Kp.refl _ w
  | v :: vs, o, w => by
    show Kp (On h) w ((w.setCell ⟨h, o, none⟩ v).setCells h (o + 1) vs)
    exact ((Kp.refl (On h) w).set (a := ⟨h, o, none⟩) rfl v).trans (kp_set h vs (o + 1) _)
theorem FB.put (hF : FB w h N l) {bs : List UInt8} (hn : l.length + bs.length ≤ N) : FB (w.setCells h l.length (bs.map bv)) h N (l ++ bs) := by
  have k := kp_set h (bs.map bv) l.length w
  have hin := World.cell?_setCells_in h (bs.map bv) l.length w (fun i hi => (hF.there _ (by rw [List.length_map] at hi; omega)).1)
  refine ⟨Nat.lt_of_lt_of_le hF.lt k.size, by rw [List.length_append]; exact hn, fun j u hj => ?_, fun j hj => ?_⟩
  · rcases Nat.lt_or_ge j l.length with g1 | g1
    · rw [List.getElem?_append_left g1] at hj
      rw [World.cell?_setCells_out h _ _ _ _ (fun _ _ => .inl g1)]
      exact hF.at' j u hj
    · rw [List.getElem?_append_right g1] at hj
      have hj2 : j - l.length < bs.length := (List.getElem?_eq_some_iff.1 hj).1
      have := hin (j - l.length) (by rw [List.length_map]; exact hj2)
      rw [show l.length + (j - l.length) = j by omega] at this
      rw [this, List.getElem_map]
      exact congrArg (fun z => some (bv z)) (List.getElem?_eq_some_iff.1 hj).2
  · refine ⟨?_, by rw [World.frozen?_setCells]; exact (hF.there j hj).2⟩
    by_cases g1 : l.length ≤ j ∧ j < l.length + bs.length
    · have := hin (j - l.length) (by rw [List.length_map]; omega)
      rw [show l.length + (j - l.length) = j by omega] at this
      rw [this]; rfl
    · rw [World.cell?_setCells_out h _ _ _ _ (fun _ _ => by rw [List.length_map]; show j < l.length ∨ l.length + bs.length ≤ j; omega)]
      exact (hF.there j hj).1
theorem FB.tx (hF : FB w h N l) (hN : l.length = N) {cap : Nat} (hc : N ≤ cap) : Tx w (some ⟨h, 0, none⟩, N, cap) (mkB l) 0 (mkB l).size := by
  have hz : (mkB l).size = l.length := Ed.mkB_size l
  refine ⟨by show N = (mkB l).size - 0; omega, Nat.zero_le _, Nat.le_refl _, hc, h, 0, rfl, hF.lt, fun j hj => ?_⟩
  rw [hz] at hj
  simp only [Nat.zero_add] at hj ⊢
  rw [hF.at' j _ (List.getElem?_eq_getElem hj), Ed.bt_mkB, List.getD_eq_getElem?_getD, List.getElem?_eq_getElem hj]
  rfl
/-- A new buffer. -/
theorem s_makeF {Q : Nat → List Value → World → Prop} {n m : Int} {K : Sh.slice.Ty → T} (hn : n = (N : Int)) (hm : m = (N : Int)) (hN : N ≤ 16000000) (hK : ∀ w', FB w' w.heap.size N [] → Kp Off w w' → sat Tryz.prog (K (some ⟨w.heap.size, 0, none⟩, N, N)) Q w') :
    sat Tryz.prog (.eff (Instr.makeSlice tBs (Value.int IntKind.i64 n) (Value.int IntKind.i64 m)) .slice K) Q w := by
  subst hn; subst hm
  have hr := run_makeSlice (P := Tryz.prog) w tBs tB _ (.int .u8 0) Tryz.underlying59 (info_some (by kernel_rfl)) (by kernel_rfl) .i64 .i64 (N : Int) (N : Int) (by omega) (by omega) (by
        rw [show ((Tryz.prog.info? tB).get (by kernel_rfl)).size = 1 from by kernel_rfl]; omega) (by
        rw [show ((Tryz.prog.info? tB).get (by kernel_rfl)).bytes = 1 from by kernel_rfl]; omega) (by omega)
  rw [show ((Tryz.prog.info? tB).get (by kernel_rfl)).size = 1 from by kernel_rfl, Int.toNat_natCast, Nat.mul_one, Je.made_zero N (Value.int IntKind.u8 0).cells rfl] at hr
  refine s_eff (some ⟨w.heap.size, 0, none⟩, N, N) hr (hK _ ?_ ((Kp.refl _ w).alloc _))
  have hh : (w.alloc (.cells (Je.cb (List.replicate N 0)).toArray tB)).heap[w.heap.size]? = some (.cells (Je.cb (List.replicate N 0)).toArray tB) := heap_alloc_new w _
  refine ⟨by simp, Nat.zero_le _, fun j u hj => by simp at hj, fun j hj => ?_⟩
  have hz : (Je.cb (List.replicate N 0)).toArray.size = N := by rw [List.size_toArray, Je.cb_len, List.length_replicate]
  simp only [World.cell?, World.frozen?, hh]
  rw [Array.getElem?_eq_getElem (by omega)]
  exact ⟨rfl, rfl⟩
/-- A slice's bytes go there. -/
theorem s_copyF {Q : Nat → List Value → World → Prop} {a b d n c : Nat} {ats : Array TypeId} {K : Int → T} (hF : FB w h N l) (hT : Tx w y s a b) (ha : ats = #[tBs, tBs]) (hd : 0 < b - a → d = l.length) (hn : b - a ≤ n) (hN : l.length + (b - a) ≤ N)
    (hK : ∀ w', FB w' h N (l ++ (s.data.toList.drop a).take (b - a)) → Kp (On h) w w' → sat Tryz.prog (K ((b - a : Nat) : Int)) Q w') :
    sat Tryz.prog (.eff (Builtin.copy_ ats 3 #[.slice (some ⟨h, d, none⟩) n c, .slice y.1 y.2.1 y.2.2]) (.int .i64) K) Q w := by
  subst ha
  have hes := hT.es
  have hie := hT.ie
  have hyl := hT.len
  obtain ⟨g, o, hy1, hg, hc⟩ := hT.cell
  obtain ⟨ya, yl, yc⟩ := y
  have hy1 : ya = some ⟨g, o, none⟩ := hy1
  have hyl : yl = b - a := hyl
  subst hy1; subst hyl
  have hll : ((s.data.toList.drop a).take (b - a)).length = b - a := by rw [List.length_take, List.length_drop, len_of]; omega
  have hsz : (Tryz.prog.info? tB).map (·.size) = some 1 := by kernel_rfl
  rcases Nat.eq_zero_or_pos (b - a) with h0 | h0
  · have hr := run_copy_none (P := Tryz.prog) w tBs tBs 3 tB (some ⟨h, d, none⟩) (some ⟨g, o, none⟩) n c (b - a) yc Tryz.underlying59 hsz (by rw [h0]; exact Nat.zero_min _)
    refine s_eff ((b - a : Nat) : Int) (by rw [h0]; rw [h0] at hr; exact hr) (hK w ?_ (Kp.refl _ _))
    rw [List.eq_nil_of_length_eq_zero (hll.trans h0), List.append_nil]; exact hF
  · have hd := hd h0
    subst hd
    have hml : (((s.data.toList.drop a).take (b - a)).map bv).length = b - a := by rw [List.length_map, hll]
    have hr := run_copy_cells (P := Tryz.prog) w tBs tBs 3 tB h l.length n c ⟨g, o, none⟩ (b - a) yc (((s.data.toList.drop a).take (b - a)).map bv) Tryz.underlying59 hsz (by rw [hml]; exact (Nat.min_eq_left hn).symm) (fun j v hj => by
      have hj' := (List.getElem?_eq_some_iff.1 hj).1
      rw [hml] at hj'
      rw [addr_add, hc j (by omega)]
      rw [List.getElem?_map, List.getElem?_take_of_lt hj', List.getElem?_drop] at hj
      cases hu : s.data.toList[a + j]? with
      | none => rw [hu] at hj; cases hj
      | some u =>
        rw [hu] at hj
        rw [← hj, bt_bv]
        unfold gb
        rw [List.getD_eq_getElem?_getD, hu]; rfl) (fun j hj => (hF.there _ (by rw [hml] at hj; omega)).1) (fun j hj => (hF.there _ (by rw [hml] at hj; omega)).2) (fun u hu => by
      obtain ⟨b, _, rfl⟩ := List.mem_map.1 hu
      rfl)
    rw [hml] at hr
    exact s_eff ((b - a : Nat) : Int) hr (hK _ (hF.put (by rw [hll]; exact hN)) (kp_set h _ _ w))
/-- Where the last token stands. -/
theorem last_any {m : Nat} (hs : s.size ≤ 9000000) (hT : Tx w x s 0 s.size) (hm : m < s.size) (hnb : isB (bt s (m : Int)) = false) (hbk : ∀ j, m < j → j < s.size → isB (bt s (j : Int)) = true) :
    Calls Tryz.prog 67 #[slV x] w fun en w' => en = .returned (.int .i64 ((m : Nat) : Int)) ∧ w' = w := by
  have hl := hT.len
  refine jsonparser_lastToken.calls _ _ _ ?_
  unfold jsonparser_lastToken.t
  have e0 : IntKind.wrap IntKind.i64 (((x.2.1 : Nat) : Int) - (1 : Int)) = ((s.size - 1 : Nat) : Int) := by rw [hl, Nat.sub_zero, wdn _ (by omega) (by omega)]
  refine s_loop (fun n z w' => ∃ j : Nat, n = j ∧ z = ((j : Int), ()) ∧ m ≤ j ∧ j < s.size ∧ w = w') (s.size - 1) (((s.size - 1 : Nat) : Int), ()) (by rw [e0]; rfl) ⟨s.size - 1, rfl, rfl, by omega, by omega, rfl⟩ ?_
  rintro n z w1 ⟨j, rfl, rfl, hmj, hjs, rfl⟩
  show sat _ (jsonparser_lastToken.t1 x.1 x.2.1 (n : Int)) _ _
  unfold jsonparser_lastToken.t1
  refine s_iteD (fun _ => s_at hT (by omega) ?_) (fun g => absurd (by omega) g)
  rw [Nat.zero_add]
  have on : isB (bt s (n : Int)) = true → (fun l' vs w'' => if l' = 1 then ∃ n' x', vs = (Sh.cons (.int .i64) .nil).vals x' ∧ n' < n ∧ ∃ j : Nat, n' = j ∧ x' = ((j : Int), ()) ∧ m ≤ j ∧ j < s.size ∧ w = w'' else l' = 0 ∧ Ending.returned (retVal vs) = .returned (.int .i64 ((m : Nat) : Int)) ∧ w'' = w) 1 [Value.int IntKind.i64 (IntKind.wrap IntKind.i64 ((n : Int) - (1 : Int)))] w := fun hb => by
    have hne : m ≠ n := fun e => by subst e; rw [hb] at hnb; cases hnb
    show if (1 : Nat) = 1 then _ else _
    rw [if_pos rfl, wdn _ (by omega) (by omega)]
    exact ⟨n - 1, (((n - 1 : Nat) : Int), ()), rfl, by omega, n - 1, rfl, rfl, by omega, by omega, rfl⟩
  refine s_iteE (fun g => s_leaf (on (by rw [g]; rfl))) (fun g1 => s_iteE (fun g => s_leaf (on (by rw [g]; rfl))) (fun g2 => s_iteE (fun g => s_leaf (on (by rw [g]; rfl))) (fun g3 => s_iteE (fun g => s_leaf (on (by rw [g]; rfl))) (fun g4 => s_leaf ?_))))
  rw [if_neg (by decide)]
  have : m = n := by
    rcases Nat.lt_or_ge m n with g | g
    · have := isB_or (hbk n g hjs); omega
    · omega
  subst this
  exact ⟨rfl, rfl, rfl⟩
theorem enc_not : ∀ n : Nat, n < 256 → n ≠ 91 → strEq (Utf8.encode (n : Int)) (ByteArray.mk #[(91 : UInt8)]) = false := by decide +kernel
theorem conv_ch {key : ByteArray} (w : World) : (convert 5 9 (Value.int IntKind.u8 (bt key (0 : Int)))).run Tryz.prog w = .ok (.string (Utf8.encode (bt key (0 : Int)))) w :=
  run_convert_int_string (P := Tryz.prog) w _ _ _ _ (by kernel_rfl) Tryz.underlying9
end Go.Proofs.YtlfebfkphgelfaaGreatDoor.Ka
namespace Go.Proofs.YtlfebfkphgelfaaGreatDoor.Ka
open Go Go.Proofs Go.RowKit Go.Proofs.YtlfebfkphgelfaaGreatDoor.Rx Go.Proofs.YtlfebfkphgelfaaGreatDoor.Tr Go.Proofs.YtlfebfkphgelfaaGreatDoor.Pl Go.Proofs.YtlfebfkphgelfaaGreatDoor.Pw Go.Proofs.YtlfebfkphgelfaaGreatDoor.Sk
open Go.Proofs.YtlfebfkphgelfaaGreatDoor.Bw (bv gb bt_bv)
open Go.Proofs.YtlfebfkphgelfaaGreatDoor.Ed (opn AsIs mkB len_of mkB_size)

variable {w w' : World} {x y q : Sl} {s t : ByteArray} {keys rs : List ByteArray} {k : ByteArray} {h N : Nat} {l : List UInt8}
def b1 (b : Bool) : Nat := if b then 1 else 0
end Go.Proofs.YtlfebfkphgelfaaGreatDoor.Ka
namespace Go.Proofs.YtlfebfkphgelfaaGreatDoor.Ka
open Go Go.Proofs Go.RowKit Go.Proofs.YtlfebfkphgelfaaGreatDoor.Rx Go.Proofs.YtlfebfkphgelfaaGreatDoor.Tr Go.Proofs.YtlfebfkphgelfaaGreatDoor.Pl Go.Proofs.YtlfebfkphgelfaaGreatDoor.Pw Go.Proofs.YtlfebfkphgelfaaGreatDoor.Sk
open Go.Proofs.YtlfebfkphgelfaaGreatDoor.Ed (opn AsIs mkB len_of mkB_size put put_size put_toList eq_of_list mkB_list)

variable {w w' : World} {x y q : Sl} {s t : ByteArray} {keys rs : List ByteArray} {k : ByteArray} {h N : Nat} {l : List UInt8}
/-- A slice's bytes go behind what is filled. -/
theorem s_copyZ {Q : Nat → List Value → World → Prop} {z : Sl} {a b : Nat} {off : Int} {ats : Array TypeId} {K : Int → T} (hz : z = (some ⟨h, 0, none⟩, N, N)) (hF : FB w h N l) (ho : off = ((l.length : Nat) : Int)) (hT : Tx w y s a b) (ha : ats = #[tBs, tBs]) (hN : l.length + (b - a) ≤ N)
    (hK : ∀ w', FB w' h N (l ++ (s.data.toList.drop a).take (b - a)) → Kp (On h) w w' → sat Tryz.prog (K ((b - a : Nat) : Int)) Q w') :
    sat Tryz.prog (.eff (Builtin.copy_ ats 3 #[(Value.slice (if (((z).2).2 = (Int.toNat off)) then (z).1 else (Option.map (fun (y140 : Addr) => (Addr.add y140 ((Int.toNat off) * 1))) (z).1)) ((Int.toNat ((((z).2).1 : Nat) : Int)) - (Int.toNat off)) (((z).2).2 - (Int.toNat off))), .slice y.1 y.2.1 y.2.2]) (.int .i64) K) Q w := by
  subst hz; subst ho
  show sat Tryz.prog (.eff (Builtin.copy_ ats 3 #[(Value.slice (if (N = (Int.toNat ((l.length : Nat) : Int))) then (some (⟨h, 0, none⟩ : Addr)) else (Option.map (fun (y45 : Addr) => (Addr.add y45 ((Int.toNat ((l.length : Nat) : Int)) * 1))) (some (⟨h, 0, none⟩ : Addr)))) ((Int.toNat ((N : Nat) : Int)) - (Int.toNat ((l.length : Nat) : Int))) (N - (Int.toNat ((l.length : Nat) : Int)))), .slice y.1 y.2.1 y.2.2]) (.int .i64) K) Q w
  rw [Int.toNat_natCast, Int.toNat_natCast, Je.sl_at]
  exact s_copyF hF hT ha (fun hp => by rw [if_neg (by omega), Nat.zero_add]) (by omega) hN hK
end Go.Proofs.YtlfebfkphgelfaaGreatDoor.Ka
namespace Go.Proofs.YtlfebfkphgelfaaGreatDoor.Ka
open Go Go.Proofs Go.RowKit Go.Proofs.YtlfebfkphgelfaaGreatDoor.Rx Go.Proofs.YtlfebfkphgelfaaGreatDoor.Tr Go.Proofs.YtlfebfkphgelfaaGreatDoor.Pl Go.Proofs.YtlfebfkphgelfaaGreatDoor.Pw Go.Proofs.YtlfebfkphgelfaaGreatDoor.Sk
open Go.Proofs.YtlfebfkphgelfaaGreatDoor.Ed (opn AsIs mkB len_of mkB_size put put_size put_toList eq_of_list mkB_list)

variable {w w' : World} {x y q : Sl} {s t : ByteArray} {keys rs : List ByteArray} {k : ByteArray} {h N : Nat} {l : List UInt8} {z0 : Nat}
theorem Kx.take (h : Kx w q keys) (d : Nat) (hd : d ≤ keys.length) : Kx w (q.1, d, q.2.2) (keys.take d) := by
  have hl := h.len
  have hc := h.cap
  refine ⟨by rw [List.length_take]; show d = _; omega, by show d ≤ q.2.2; omega, ?_⟩
  rcases h.cell with h0 | ⟨b, o, h1, h2, h3⟩
  · left; rw [h0]; exact List.take_nil
  · refine .inr ⟨b, o, h1, h2, fun j key hj => ?_⟩
    have hjd : j < d := by
      have := (List.getElem?_eq_some_iff.1 hj).1
      rw [List.length_take] at this; omega
    rw [List.getElem?_take_of_lt hjd] at hj
    exact h3 j key hj
theorem Kx.take0 (h : Kx w q keys) (d : Nat) (hd : d ≤ keys.length) : Kx w ((if q.2.2 = 0 then q.1 else q.1.map fun y => y.add 0), d - 0, q.2.2 - 0) (keys.take d) := by
  have h1 := h.take d hd
  have e : (if q.2.2 = 0 then q.1 else q.1.map fun y => y.add 0) = q.1 := by
    obtain ⟨qa, ql, qc⟩ := q
    show (if qc = 0 then qa else qa.map fun y => y.add 0) = qa
    split
    · rfl
    · cases qa with
      | none => rfl
      | some a =>
        obtain ⟨b, o, p⟩ := a
        rfl
  rw [e]; exact h1
end Go.Proofs.YtlfebfkphgelfaaGreatDoor.Ka
namespace Go.Proofs.YtlfebfkphgelfaaGreatDoor.Ka
open Go Go.Proofs Go.RowKit Go.Proofs.YtlfebfkphgelfaaGreatDoor.Rx Go.Proofs.YtlfebfkphgelfaaGreatDoor.Tr Go.Proofs.YtlfebfkphgelfaaGreatDoor.Pl Go.Proofs.YtlfebfkphgelfaaGreatDoor.Pw Go.Proofs.YtlfebfkphgelfaaGreatDoor.Sk
open Go.Proofs.YtlfebfkphgelfaaGreatDoor.Ed (opn AsIs mkB len_of mkB_size put put_size put_toList eq_of_list mkB_list)

variable {w w' : World} {x y q : Sl} {s t : ByteArray} {keys rs ks1 : List ByteArray} {k : ByteArray} {h N : Nat} {l : List UInt8} {z0 : Nat}
theorem lead_split : ∀ {a b : List ByteArray} {p r : PT} {nm : Nat × Nat → ByteArray} {ix : ByteArray → Option Nat}, Gk.Lead nm ix p (a ++ b) r → ∃ m, Gk.Lead nm ix p a m ∧ Gk.Lead nm ix m b r
  | [], _, p, _, _, _, h => ⟨p, .nil, h⟩
  | _ :: _, _, _, _, _, _, h => by
    cases h with
    | mem a1 a2 a3 a4 a5 =>
      obtain ⟨m, b1, b2⟩ := lead_split a5
      exact ⟨m, .mem a1 a2 a3 a4 b1, b2⟩
    | elt a1 a2 a3 =>
      obtain ⟨m, b1, b2⟩ := lead_split a3
      exact ⟨m, .elt a1 a2 b1, b2⟩
end Go.Proofs.YtlfebfkphgelfaaGreatDoor.Ka
namespace Go.Proofs.YtlfebfkphgelfaaGreatDoor.Ka
open Go Go.Proofs Go.RowKit Go.Proofs.YtlfebfkphgelfaaGreatDoor.Rx Go.Proofs.YtlfebfkphgelfaaGreatDoor.Pl Go.Proofs.YtlfebfkphgelfaaGreatDoor.Pw Go.Proofs.YtlfebfkphgelfaaGreatDoor.Sk Go.Proofs.YtlfebfkphgelfaaGreatDoor.Ut Go.Proofs.YtlfebfkphgelfaaGreatDoor.Ql
open Go.Proofs.YtlfebfkphgelfaaGreatDoor.Ed (opn inI AsIs mkB len_of mkB_size put put_size put_toList eq_of_list mkB_list)
open Go.Proofs.YtlfebfkphgelfaaGreatDoor.Bw (gb)

variable {s : ByteArray} {ks1 rs : List ByteArray} {k : ByteArray} {p0 : PT} {b e : Nat} {ns : List (Nat × Nat)} {ks : List PT}
end Go.Proofs.YtlfebfkphgelfaaGreatDoor.Ka
namespace Go.Proofs.YtlfebfkphgelfaaGreatDoor.Ka
open Go Go.Proofs Go.RowKit Go.Proofs.YtlfebfkphgelfaaGreatDoor.Rx Go.Proofs.YtlfebfkphgelfaaGreatDoor.Tr Go.Proofs.YtlfebfkphgelfaaGreatDoor.Pl Go.Proofs.YtlfebfkphgelfaaGreatDoor.Pw Go.Proofs.YtlfebfkphgelfaaGreatDoor.Sk
open Go.Proofs.YtlfebfkphgelfaaGreatDoor.Ed (opn AsIs mkB len_of mkB_size put put_size)

variable {w w' : World} {x y q : Sl} {s t : ByteArray} {keys rs ks1 : List ByteArray} {k : ByteArray} {p0 p : PT}
end Go.Proofs.YtlfebfkphgelfaaGreatDoor.Ka
namespace Go.Proofs.YtlfebfkphgelfaaGreatDoor.Lj
open Go Go.Proofs Go.RowKit Go.Proofs.YtlfebfkphgelfaaGreatDoor.Rx Go.Proofs.YtlfebfkphgelfaaGreatDoor.Tr Go.Proofs.YtlfebfkphgelfaaGreatDoor.Pl Go.Proofs.YtlfebfkphgelfaaGreatDoor.Pw
open Go.Proofs.YtlfebfkphgelfaaGreatDoor.Sr (Sl slV tP pc storeP loadP zp PlAt RowIn p_no)
open Go.Proofs.YtlfebfkphgelfaaGreatDoor.Ka (Kx nmS ixS s_key Led Mis Kx.take0)
open Go.Proofs.YtlfebfkphgelfaaGreatDoor.Gk (Lead Miss)
open Go.Proofs.YtlfebfkphgelfaaGreatDoor.Ed (AsIs)

variable {w w' : World} {s : ByteArray} {B : Nat → Prop}
theorem lead_uniqs {nm : Nat × Nat → ByteArray} {ix : ByteArray → Option Nat} : ∀ {ks : List ByteArray} {p a b : PT}, Lead nm ix p ks a → Lead nm ix p ks b → a = b
  | [], _, _, _, h1, h2 => by cases h1; cases h2; rfl
  | key :: ks, p, a, b, h1, h2 => by
    obtain ⟨x, x1, x2⟩ := Ka.lead_split (a := [key]) (b := ks) h1
    obtain ⟨y, y1, y2⟩ := Ka.lead_split (a := [key]) (b := ks) h2
    have := Ka.Lead.uniq x1 y1
    subst this
    exact lead_uniqs x2 y2
/-- A name stands once. -/
def UniqN (nm : Nat × Nat → ByteArray) (key : ByteArray) (ns : List (Nat × Nat)) : Prop := ∀ (i j : Nat) (n n' : Nat × Nat), ns[i]? = some n → ns[j]? = some n' → nm n = key → nm n' = key → i = j
def cnt (nm : Nat × Nat → ByteArray) (key : ByteArray) : List (Nat × Nat) → Nat
  | [] => 0
  | n :: ns => (if nm n = key then 1 else 0) + cnt nm key ns
theorem cnt_snoc (nm : Nat × Nat → ByteArray) (key : ByteArray) : ∀ (ns : List (Nat × Nat)) (n : Nat × Nat), cnt nm key (ns ++ [n]) = cnt nm key ns + (if nm n = key then 1 else 0)
  | [], n => by show (if nm n = key then 1 else 0) + 0 = 0 + _; omega
  | m :: ns, n => by
    show (if nm m = key then 1 else 0) + cnt nm key (ns ++ [n]) = (if nm m = key then 1 else 0) + cnt nm key ns + _
    rw [cnt_snoc nm key ns n]; omega
theorem cnt_mem {nm : Nat × Nat → ByteArray} {key : ByteArray} : ∀ {ns : List (Nat × Nat)} {i : Nat} {n : Nat × Nat}, ns[i]? = some n → nm n = key → 1 ≤ cnt nm key ns
  | [], i, n, h, _ => by simp at h
  | m :: ns, 0, n, h, hk => by
    simp only [List.getElem?_cons_zero, Option.some.injEq] at h
    subst h
    show 1 ≤ (if nm m = key then 1 else 0) + _
    rw [if_pos hk]; omega
  | m :: ns, i + 1, n, h, hk => by
    simp only [List.getElem?_cons_succ] at h
    have := cnt_mem h hk
    show 1 ≤ (if nm m = key then 1 else 0) + cnt nm key ns
    omega
theorem cnt_uniq {nm : Nat × Nat → ByteArray} {key : ByteArray} : ∀ {ns : List (Nat × Nat)}, cnt nm key ns ≤ 1 → UniqN nm key ns
  | [], _ => fun i j n n' h => by simp at h
  | m :: ns, hc => by
    have hc : (if nm m = key then 1 else 0) + cnt nm key ns ≤ 1 := hc
    intro i j n n' h1 h2 h3 h4
    cases i with
    | zero =>
      simp only [List.getElem?_cons_zero, Option.some.injEq] at h1
      subst h1
      rw [if_pos h3] at hc
      cases j with
      | zero => rfl
      | succ j =>
        simp only [List.getElem?_cons_succ] at h2
        have := cnt_mem h2 h4
        omega
    | succ i =>
      simp only [List.getElem?_cons_succ] at h1
      have c1 := cnt_mem h1 h3
      cases j with
      | zero =>
        simp only [List.getElem?_cons_zero, Option.some.injEq] at h2
        subst h2
        rw [if_pos h4] at hc
        omega
      | succ j =>
        simp only [List.getElem?_cons_succ] at h2
        have := cnt_uniq (ns := ns) (by omega) i j n n' h1 h2 h3 h4
        rw [this]
/-- On the way by keys no object has a sought name twice. -/
def OnceP (s : ByteArray) (p : PT) (keys : List ByteArray) : Prop := ∀ (j : Nat) (p' : PT) (key : ByteArray), keys[j]? = some key → Lead (nmS s) ixS p (keys.take j) p' → p'.k = 6 → UniqN (nmS s) key p'.ns
theorem take_split {keys : List ByteArray} {i j : Nat} {p a q : PT} {key : ByteArray} (hij : i < j) (hk : keys[i]? = some key) (h1 : Lead (nmS s) ixS p (keys.take i) a) (h2 : Lead (nmS s) ixS p (keys.take j) q) : ∃ b, Lead (nmS s) ixS a [key] b := by
  have hi := (List.getElem?_eq_some_iff.1 hk).1
  have e : keys.take j = keys.take i ++ ([key] ++ (keys.take j).drop (i + 1)) := by
    have h3 : keys.take j = (keys.take j).take (i + 1) ++ (keys.take j).drop (i + 1) := (List.take_append_drop _ _).symm
    have h4 : (keys.take j).take (i + 1) = keys.take i ++ [key] := by
      rw [List.take_take, Nat.min_eq_left hij, List.take_add_one, hk]; rfl
    rw [h4, List.append_assoc] at h3
    exact h3
  rw [e] at h2
  obtain ⟨x, b1, b2⟩ := Ka.lead_split h2
  obtain ⟨y, c1, c2⟩ := Ka.lead_split b2
  have := lead_uniqs h1 b1
  subst this
  exact ⟨y, c1⟩
theorem onceP_any {p : PT} {na ka : Sl} {q : Ka.Sl} {keys : List ByteArray} (hs : s.size ≤ 65536) (hw : WfV s p) (hp : PlAt B w p (pc p.k p.b p.e na ka)) (hK : Kx w q keys) (hkz : ∀ key ∈ keys, key.size ≤ 140737488351232) (hkl : keys.length ≤ 140737488351232) :
    Calls Tryz.prog 33 #[.string s, .agg (pc p.k p.b p.e na ka).toArray, Ka.slV q] w fun e w' => (∃ b : Bool, e = .returned (.bool b) ∧ (b = true → OnceP s p keys)) ∧ Kp Off w w' := by
  refine spec_Once.calls _ _ _ _ _ _ _ _ _ _ _ _ _ ?_
  unfold spec_Once.t
  refine s_alloc ?_
  have b0 := Blk.new w (pc p.k p.b p.e na ka) tP
  have k0 : Kp Off w (w.alloc (.cells (pc p.k p.b p.e na ka).toArray tP (0, 0))) := (Kp.refl Off w).alloc _
  show sat _ _ _ (w.alloc (.cells (pc p.k p.b p.e na ka).toArray tP (0, 0)))
  generalize w.alloc (.cells (pc p.k p.b p.e na ka).toArray tP (0, 0)) = w1 at k0 b0
  have hp0 : PlAt (fun b => b < w.heap.size) w p (pc p.k p.b p.e na ka) := Sr.PlAt.kp (Kp.refl Off w) (fun b hb _ => ⟨hb, id⟩) hp
  have hp1 : PlAt (fun b => b < w.heap.size) w1 p (pc p.k p.b p.e na ka) := Sr.PlAt.kp k0 (fun b _ hb => ⟨hb, id⟩) hp0
  have hql := hK.len
  generalize hp00 : p = p00 at hw
  refine s_loop (fun k z w' => ∃ (i : Nat) (p : PT) (na ka : Sl), k = keys.length - i ∧ z = ((i : Int), ()) ∧ i ≤ keys.length ∧ Lead (nmS s) ixS p00 (keys.take i) p ∧ (∀ j p' key, j < i → keys[j]? = some key → Lead (nmS s) ixS p00 (keys.take j) p' → p'.k = 6 → UniqN (nmS s) key p'.ns) ∧ PlAt (fun b => b < w.heap.size) w' p (pc p.k p.b p.e na ka) ∧ Blk w' w.heap.size (pc p.k p.b p.e na ka) tP ∧ Kp Off w w') keys.length ((0 : Int), ()) rfl ⟨0, p, na, ka, rfl, rfl, Nat.zero_le _, by rw [hp00]; exact .nil, fun j _ _ h => absurd h (Nat.not_lt_zero _), hp1, b0, k0⟩ ?_
  clear hp hp0 hp1 b0 k0 hp00
  rintro k z w2 ⟨i, p, na, ka, rfl, rfl, hi, hL, hU, hp, hb, hk⟩
  have hw0 := hw
  have hw := (Ka.Lead.wf hL hw0).1
  show sat _ (spec_Once.t1 s q.1 q.2.1 ⟨w.heap.size, 0, none⟩ (i : Int)) _ _
  unfold spec_Once.t1
  refine s_iteD (fun hlt => ?_) (fun hge => s_leaf ?_)
  rotate_left
  · rw [if_neg (by decide)]
    refine ⟨rfl, ⟨true, rfl, fun _ j p' key h1 => hU j p' key ?_ h1⟩, hk⟩
    have := (List.getElem?_eq_some_iff.1 h1).1
    omega
  have hin : i < keys.length := by omega
  have hkey : keys[i]? = some keys[i] := List.getElem?_eq_getElem hin
  have hkz1 := hkz _ (List.getElem_mem hin)
  generalize hki : keys[i] = key at hkey hkz1
  refine s_key (hK.kp hk) hkey (s_load (p.k : Int) (hb.cell 0) ?_)
  have hlen := (wf_len hw).2
  have hr := (PlAt.inv hp).1
  refine s_cut (fun _ w' => Kp Off w2 w' ∧ (p.k = 6 → UniqN (nmS s) key p.ns)) (s_iteE (fun h6 => ?_) (fun h6 => s_leaf ?_)) ?_
  · refine s_loop (fun k z w' => ∃ (i c : Nat), k = p.ns.length - i ∧ z = ((i : Int), (c : Int), ()) ∧ i ≤ p.ns.length ∧ c = cnt (nmS s) key (p.ns.take i) ∧ c ≤ i ∧ Kp Off w2 w') p.ns.length ((0 : Int), (0 : Int), ()) rfl ⟨0, 0, rfl, rfl, Nat.zero_le _, rfl, Nat.le_refl _, Kp.refl _ _⟩ ?_
    rintro k z w3 ⟨j, c, rfl, rfl, hj, hcc, hc, k3⟩
    show sat _ (spec_Once.t2 s ⟨w.heap.size, 0, none⟩ key (j : Int) (c : Int)) _ _
    unfold spec_Once.t2
    have b3 := k3.blk hb id
    have hr3 := RowIn.any hr k3
    have hl3 := hr3.1
    refine s_load na (by rw [addr_add, Nat.zero_add, b3.cell]; rfl) (s_iteD (fun hlt => ?_) (fun hge => ?_))
    · have hin : j < p.ns.length := by omega
      have hn : p.ns[j]? = some p.ns[j] := List.getElem?_eq_getElem hin
      have htk : p.ns.take (j + 1) = p.ns.take j ++ [p.ns[j]] := by rw [List.take_add_one, hn]; rfl
      refine s_span (cs := pc p.k p.b p.e na ka) hs b3 rfl hr3 hn (wf_names hw _ (List.getElem_mem hin)) fun w4 k4 => ?_
      have w1' : IntKind.wrap IntKind.i64 ((j : Int) + 1) = ((j + 1 : Nat) : Int) := by rw [wrap_in (by omega) (by omega)]; omega
      have w2' : IntKind.wrap IntKind.i64 ((c : Int) + 1) = ((c + 1 : Nat) : Int) := by rw [wrap_in (by omega) (by omega)]; omega
      refine s_ite (fun g => s_leaf ?_) (fun g => s_leaf ?_)
      · rw [if_pos rfl, w1', w2']
        refine ⟨p.ns.length - (j + 1), (((j + 1 : Nat) : Int), ((c + 1 : Nat) : Int), ()), rfl, by omega, j + 1, c + 1, rfl, rfl, hin, ?_, by omega, k3.trans k4⟩
        rw [htk, cnt_snoc, if_pos (strEq_iff.1 g), hcc]
      · rw [if_pos rfl, w1']
        refine ⟨p.ns.length - (j + 1), (((j + 1 : Nat) : Int), (c : Int), ()), rfl, by omega, j + 1, c, rfl, rfl, hin, ?_, by omega, k3.trans k4⟩
        rw [htk, cnt_snoc, if_neg (fun e => by rw [strEq_iff.2 e] at g; cases g), hcc]
        rfl
    · have ej : j = p.ns.length := by omega
      subst ej
      rw [List.take_length] at hcc
      refine s_iteD (fun _ => s_leaf ?_) (fun g => s_leaf ?_)
      · rw [if_neg (by decide), if_neg (by decide), if_neg (by decide)]
        exact ⟨rfl, ⟨false, rfl, fun g => by cases g⟩, hk.trans k3⟩
      · rw [if_neg (by decide), if_pos rfl]
        exact ⟨(), rfl, k3, fun _ => cnt_uniq (by omega)⟩
  · rw [if_pos rfl]
    exact ⟨(), rfl, Kp.refl _ _, fun g => absurd (by rw [g]; rfl) h6⟩
  rintro _ w3 ⟨k3, hun⟩
  have hU' : ∀ j p' key', j < i + 1 → keys[j]? = some key' → Lead (nmS s) ixS p00 (keys.take j) p' → p'.k = 6 → UniqN (nmS s) key' p'.ns := by
    intro j p' key' hj h1 h2 h3
    rcases Nat.lt_or_ge j i with g | g
    · exact hU j p' key' g h1 h2 h3
    · have : j = i := by omega
      subst this
      have := lead_uniqs hL h2
      subst this
      rw [hkey] at h1
      cases h1
      exact hun h3
  show sat _ (spec_Once.t3 s ⟨w.heap.size, 0, none⟩ (i : Int) key) _ _
  unfold spec_Once.t3
  have b3 := k3.blk hb id
  have K3 := hk.trans k3
  have hp3 : PlAt (fun b => b < w.heap.size) w3 p (pc p.k p.b p.e na ka) := Sr.PlAt.kp k3 (fun b _ hb => ⟨hb, id⟩) hp
  refine s_eff ((p.k : Int), (p.b : Int), (p.e : Int), na, ka, ()) (loadP b3) ?_
  refine s_call (step_any hs hw hp3 hkz1) ?_
  rintro e w4 ⟨⟨k, b, e1, na', ka', ok, rfl, hok, hno⟩, k4⟩
  refine ⟨((k, b, e1, na', ka', ()), ok, ()), rfl, s_alloc ?_⟩
  have K4 := K3.trans k4
  have b4 := k4.blk b3 id
  have hsz4 := K4.size
  have hlt4 := b4.lt
  obtain ⟨w5, h5, c5, k5⟩ := storeP (Blk.new w4 zp tP) rfl k b e1 na' ka'
  refine s_effU h5 ?_
  have kc : Kp Off w4 w5 := (((Kp.refl (fun q => q = w4.heap.size) w4).alloc _).trans (k5.mono fun q _ h => h)).mono fun q hq h => by omega
  cases ok with
  | false =>
    refine sat_iteT.2 (s_leaf ?_)
    rw [if_neg (by decide)]
    refine ⟨rfl, ⟨true, rfl, fun _ j p' key' h1 h2 h3 => ?_⟩, K4.trans kc⟩
    rcases Nat.lt_or_ge i j with g | g
    · obtain ⟨y, hy⟩ := take_split g hkey hL h2
      exact absurd (hno y hy) (by decide)
    · exact hU' j p' key' (by omega) h1 h2 h3
  | true =>
    obtain ⟨p', hL', rfl, rfl, rfl, hp'⟩ := hok rfl
    refine sat_iteF.2 ?_
    refine s_eff ((p'.k : Int), (p'.b : Int), (p'.e : Int), na', ka', ()) (loadP c5) ?_
    have b5 := kc.blk b4 id
    obtain ⟨w6, h6, c6, k6⟩ := storeP b5 rfl p'.k p'.b p'.e na' ka'
    refine s_effU h6 (s_leaf ?_)
    rw [if_pos rfl]
    have w1' : IntKind.wrap IntKind.i64 ((i : Int) + 1) = ((i + 1 : Nat) : Int) := by rw [wrap_in (by omega) (by omega)]; omega
    rw [w1']
    refine ⟨keys.length - (i + 1), (((i + 1 : Nat) : Int), ()), rfl, by omega, i + 1, p', na', ka', rfl, rfl, hin, ?_, hU', ?_, c6, (K4.trans kc).then k6 fun q hq e => by have : q = w.heap.size := e; omega⟩
    · have := Ka.Lead.snoc hL hL'
      rw [← hki] at this
      rwa [List.take_append_getElem hin] at this
    · refine Sr.PlAt.kp k6 (fun b _ hb => ⟨hb, fun e => by have : b = w.heap.size := e; omega⟩) (Sr.PlAt.kp kc (fun b _ hb => ⟨hb, id⟩) hp')
end Go.Proofs.YtlfebfkphgelfaaGreatDoor.Lj
namespace Go.Proofs.YtlfebfkphgelfaaGreatDoor.Lj
open Go Go.Proofs Go.Proofs.YtlfebfkphgelfaaGreatDoor.Rx Go.Proofs.YtlfebfkphgelfaaGreatDoor.Pl Go.Proofs.YtlfebfkphgelfaaGreatDoor.Pw
open Go.Proofs.YtlfebfkphgelfaaGreatDoor.Ka (nmS ixS Led Mis)
open Go.Proofs.YtlfebfkphgelfaaGreatDoor.Gk (Lead Miss)

variable {s : ByteArray}
theorem OnceP.pre {p : PT} {a b : List ByteArray} (h : OnceP s p (a ++ b)) : OnceP s p a := fun j p' key h1 h2 h3 => by
  have hj := (List.getElem?_eq_some_iff.1 h1).1
  refine h j p' key ?_ ?_ h3
  · rw [List.getElem?_append_left hj]; exact h1
  · rw [List.take_append_of_le_length (by omega)]; exact h2
end Go.Proofs.YtlfebfkphgelfaaGreatDoor.Lj
namespace Go.Proofs.YtlfebfkphgelfaaGreatDoor.Lj
open Go Go.Proofs Go.RowKit Go.Proofs.YtlfebfkphgelfaaGreatDoor.Rx Go.Proofs.YtlfebfkphgelfaaGreatDoor.Tr Go.Proofs.YtlfebfkphgelfaaGreatDoor.Pl Go.Proofs.YtlfebfkphgelfaaGreatDoor.Pw
open Go.Proofs.YtlfebfkphgelfaaGreatDoor.Sr (Sl slV tP pc storeP loadP zp PlAt RowIn places)
open Go.Proofs.YtlfebfkphgelfaaGreatDoor.Ka (Kx nmS ixS s_key Led Mis Kx.take0)
open Go.Proofs.YtlfebfkphgelfaaGreatDoor.Gk (Lead Miss)
open Go.Proofs.YtlfebfkphgelfaaGreatDoor.Ed (AsIs)

variable {w w' : World} {s : ByteArray} {B : Nat → Prop}
theorem places_of {p : PT} (h : places s = some p) : bl s 0 = p.b ∧ WfV s p ∧ bl s p.e = s.size := by
  have hfin : val s (bl s 0) = some p ∧ bl s p.e = s.size := by
    unfold places at h
    cases hv : val s (bl s 0) with
    | none => rw [hv] at h; cases h
    | some p' =>
      rw [hv] at h
      have hpl : (if bl s p'.e = s.size then some p' else none) = some p := h
      split at hpl
      · rename_i g; cases hpl; exact ⟨rfl, g⟩
      · cases hpl
  obtain ⟨hpb, hwf⟩ := val_wf (bl_le s 0 (Nat.zero_le _)) hfin.1
  exact ⟨hpb.symm, hwf, hfin.2⟩
end Go.Proofs.YtlfebfkphgelfaaGreatDoor.Lj
namespace Go.Proofs.YtlfebfkphgelfaaGreatDoor.Lj
open Go Go.Proofs Go.RowKit Go.Proofs.YtlfebfkphgelfaaGreatDoor.Rx Go.Proofs.YtlfebfkphgelfaaGreatDoor.Tr Go.Proofs.YtlfebfkphgelfaaGreatDoor.Pl Go.Proofs.YtlfebfkphgelfaaGreatDoor.Pw
open Go.Proofs.YtlfebfkphgelfaaGreatDoor.Sr (slV tBs tB Sl tP pc PlAt AllAt RowIn spanC loadP storeP zp p_no p_yes places places_any)
open Go.Proofs.YtlfebfkphgelfaaGreatDoor.Ka (ixS nmS Kx s_key Led)
open Go.Proofs.YtlfebfkphgelfaaGreatDoor.Gk (Lead)

variable {w w' : World} {s : ByteArray} {B : Nat → Prop}
/-- Names on the way do not begin as an index does. -/
def NIx (s : ByteArray) (p : PT) (keys : List ByteArray) : Prop := ∀ (j : Nat) (p' : PT) (key : ByteArray), keys[j]? = some key → Lead (nmS s) ixS p (keys.take j) p' → p'.k = 6 → 0 < key.size → bt key 0 ≠ 91
theorem jpIndexP_any {key : ByteArray} : Calls Tryz.prog 34 #[.string key] w fun e w' => (∃ b : Bool, e = .returned (.bool b) ∧ (b = false → 0 < key.size → bt key 0 ≠ 91)) ∧ w' = w := by
  refine laws_jpIndex.calls _ ?_
  unfold laws_jpIndex.t
  refine s_ite (fun h => s_chk ?_ (s_leaf ⟨rfl, ⟨_, rfl, fun g _ => beq_eq_false_iff_ne.1 g⟩, rfl⟩)) (fun h => s_leaf ⟨rfl, ⟨false, rfl, fun _ g => ?_⟩, rfl⟩)
  · have : key.size ≠ 0 := fun h0 => by
      have e : key = ByteArray.mk #[] := by
        apply ByteArray.ext
        apply Array.toList_inj.1
        exact List.eq_nil_of_length_eq_zero (by rw [Array.length_toList]; exact h0)
      have hq : strEq key (ByteArray.mk #[]) = true := strEq_iff.2 e
      have h : (!strEq key (ByteArray.mk #[])) = true := h
      rw [hq] at h
      cases h
    omega
  · exfalso
    have h : (!strEq key (ByteArray.mk #[])) = false := h
    have hq : strEq key (ByteArray.mk #[]) = true := by
      cases hs : strEq key (ByteArray.mk #[]) with
      | true => rfl
      | false => rw [hs] at h; cases h
    have := strEq_iff.1 hq
    rw [this] at g
    exact absurd g (by decide)
/-- What keys lead to, as the law asks; on the way no object has a sought name twice. -/
theorem jpFoundP_any {q : Ka.Sl} {keys : List ByteArray} (hK : Kx w q keys) (hkz : ∀ key ∈ keys, key.size ≤ 140737488351232) (hkl : keys.length ≤ 140737488351232) :
    Calls Tryz.prog 17 #[.string s, Ka.slV q] w fun e w' => (∃ (k b e1 : Int) (na ka : Sl) (x : Bool), e = .returned (.tuple #[.agg (pc k b e1 na ka).toArray, .bool x]) ∧
      (x = true → s.size ≤ 65536 ∧ ∃ p0 p, Led s p0 keys p ∧ OnceP s p0 keys ∧ NIx s p0 keys ∧ places s = some p0 ∧ k = p.k ∧ b = p.b ∧ e1 = p.e ∧ PlAt Any w' p (pc p.k p.b p.e na ka)) ∧ (x = false → k = 0)) ∧ Kp Off w w' := by
  refine laws_jpFound.calls _ _ _ _ ?_
  unfold laws_jpFound.t
  refine s_alloc ?_
  have b0 := Blk.new w zp tP
  have k0 : Kp Off w (w.alloc (.cells zp.toArray tP (0, 0))) := (Kp.refl Off w).alloc _
  have z0 : (w.alloc (.cells zp.toArray tP (0, 0))).heap.size = w.heap.size + 1 := by simp
  show sat _ _ _ (w.alloc (.cells zp.toArray tP (0, 0)))
  generalize w.alloc (.cells zp.toArray tP (0, 0)) = w1 at k0 b0 z0
  refine s_call (jpPlaces_any (s := s)) ?_
  rintro e w2 ⟨⟨k, b, e1, na, ka, x, rfl, hx⟩, k2⟩
  refine ⟨((k, b, e1, na, ka, ()), x, ()), rfl, s_alloc ?_⟩
  have b02 := k2.blk b0 id
  have k02 := k0.trans k2
  obtain ⟨w3, h3, c3, k3⟩ := storeP (Blk.new w2 zp tP) rfl k b e1 na ka
  refine s_effU h3 ?_
  have kc : Kp Off w2 w3 := (((Kp.refl (fun q => q = w2.heap.size) w2).alloc _).trans (k3.mono fun q _ h => h)).mono fun q hq h => by omega
  have b03 := kc.blk b02 id
  have k03 := k02.trans kc
  have hz2 := k2.size
  have hql := hK.len
  -- the answer 'no'
  have no : ∀ {w4 : World} {l : Nat}, Kp Off w w4 → Blk w4 w.heap.size zp tP → ∀ {Q : Nat → List Value → World → Prop}, (∀ w' : World, Kp Off w w' → Q 0 [.agg zp.toArray, .bool false] w') →
      sat Tryz.prog (.effU (Instr.storeAt tP (Value.pointer (some ⟨w.heap.size, 0, none⟩)) (Value.agg #[(Value.int IntKind.i64 (0 : Int)), (Value.int IntKind.i64 (0 : Int)), (Value.int IntKind.i64 (0 : Int)), (Value.slice none 0 0), (Value.slice none 0 0)])) <|
      .effS (Instr.loadAt tP (Value.pointer (some ⟨w.heap.size, 0, none⟩))) (.agg (.cons (.int .i64) (.cons (.int .i64) (.cons (.int .i64) (.cons .slice (.cons .slice .nil)))))) fun (z25 : (Int × (Int × (Int × (((Option Addr) × (Nat × Nat)) × (((Option Addr) × (Nat × Nat)) × PUnit)))))) =>
      .leaf 0 [(Value.agg #[(Value.int IntKind.i64 (z25).1), (Value.int IntKind.i64 ((z25).2).1), (Value.int IntKind.i64 (((z25).2).2).1), (Value.slice (((((z25).2).2).2).1).1 ((((((z25).2).2).2).1).2).1 ((((((z25).2).2).2).1).2).2), (Value.slice ((((((z25).2).2).2).2).1).1 (((((((z25).2).2).2).2).1).2).1 (((((((z25).2).2).2).2).1).2).2)]), (Value.bool false)]) Q w4 := by
    intro w4 l k4 b4 Q hQ
    exact p_no b4 rfl fun w' k => hQ w' (k4.then k fun q hq e => by have : q = w.heap.size := e; omega)
  refine s_cut (fun z w' => Kp Off w3 w' ∧ (z.1 = true ∨ (z.1 = false ∧ x = true ∧ ∀ p, places s = some p → OnceP s p keys))) ?_ ?_
  · cases x with
    | false => exact sat_iteT.2 (s_leaf (by rw [if_pos rfl]; exact ⟨(true, ()), rfl, Kp.refl _ _, .inl rfl⟩))
    | true =>
      obtain ⟨hs, p, hpl, rfl, rfl, rfl, hp⟩ := hx rfl
      have hv : val s (bl s 0) = some p := by
        unfold places at hpl
        cases hv : val s (bl s 0) with
        | none => rw [hv] at hpl; cases hpl
        | some p' =>
          rw [hv] at hpl
          have hpl : (if bl s p'.e = s.size then some p' else none) = some p := hpl
          split at hpl
          · cases hpl; rfl
          · cases hpl
      have hwf := (val_wf (bl_le s 0 (Nat.zero_le _)) hv).2
      refine sat_iteF.2 ?_
      refine s_eff ((p.k : Int), (p.b : Int), (p.e : Int), na, ka, ()) (loadP c3) ?_
      have hp3 := PlAt.any hp kc
      refine s_call (onceP_any hs hwf hp3 (hK.kp k03) hkz hkl) ?_
      rintro e w4 ⟨⟨b, rfl, hb⟩, k4⟩
      refine ⟨b, rfl, s_leaf ?_⟩
      rw [if_pos rfl]
      refine ⟨(!b, ()), rfl, k4, ?_⟩
      cases b with
      | false => exact .inl rfl
      | true => exact .inr ⟨rfl, rfl, fun p' h' => by rw [hpl] at h'; cases h'; exact hb rfl⟩
  rintro ⟨bb, u⟩ w4 ⟨k4, hbb⟩
  show sat _ (laws_jpFound.t1 s q.1 q.2.1 ⟨w.heap.size, 0, none⟩ ⟨w2.heap.size, 0, none⟩ bb) _ _
  unfold laws_jpFound.t1
  have k04 := k03.trans k4
  have b04 := k4.blk b03 id
  have c4 := k4.blk c3 id
  rcases hbb with hbb | ⟨hbb, rfl, hun⟩
  · have hbb : bb = true := hbb
    subst hbb
    exact sat_iteT.2 (no (l := 0) k04 b04 fun w' k => ⟨rfl, ⟨_, _, _, _, _, false, rfl, (fun g => by cases g), fun _ => rfl⟩, k⟩)
  have hbb : bb = false := hbb
  subst hbb
  obtain ⟨hs, p, hpl, rfl, rfl, rfl, hp⟩ := hx rfl
  have hfin : val s (bl s 0) = some p ∧ bl s p.e = s.size := by
    unfold places at hpl
    cases hv : val s (bl s 0) with
    | none => rw [hv] at hpl; cases hpl
    | some p' =>
      rw [hv] at hpl
      have hpl : (if bl s p'.e = s.size then some p' else none) = some p := hpl
      split at hpl
      · rename_i g; cases hpl; exact ⟨rfl, g⟩
      · cases hpl
  obtain ⟨hpb, hwf⟩ := val_wf (bl_le s 0 (Nat.zero_le _)) hfin.1
  have hpB : PlAt (fun b => w1.heap.size ≤ b ∧ b < w2.heap.size) w2 p (pc p.k p.b p.e na ka) := Sr.PlAt.kp (Kp.refl Off w2) (fun b hb h => ⟨⟨h, hb⟩, id⟩) hp
  have hp4 : PlAt (fun b => w1.heap.size ≤ b ∧ b < w2.heap.size) w4 p (pc p.k p.b p.e na ka) := Sr.PlAt.kp (kc.trans k4) (fun b _ h => ⟨h, id⟩) hpB
  refine sat_iteF.2 (s_loop (fun m z w' => ∃ (i : Nat) (pi : PT) (na ka : Sl), m = keys.length - i ∧ z = ((i : Int), ()) ∧ i ≤ keys.length ∧ Lead (nmS s) ixS p (keys.take i) pi ∧ (∀ (j : Nat) (p' : PT) (key : ByteArray), j < i → keys[j]? = some key → Lead (nmS s) ixS p (keys.take j) p' → p'.k = 6 → 0 < key.size → bt key 0 ≠ 91) ∧ PlAt (fun b => w1.heap.size ≤ b ∧ b < w2.heap.size) w' pi (pc pi.k pi.b pi.e na ka) ∧ Blk w' w2.heap.size (pc pi.k pi.b pi.e na ka) tP ∧ Blk w' w.heap.size zp tP ∧ Kp Off w w') keys.length ((0 : Int), ()) rfl
    ⟨0, p, na, ka, rfl, rfl, Nat.zero_le _, .nil, fun j _ _ h => absurd h (Nat.not_lt_zero _), hp4, c4, b04, k04⟩ ?_)
  clear hp4 c4 b04 k04 hpB
  rintro m z w5 ⟨i, pi, na5, ka5, rfl, rfl, hi, hL, hNi, hp5, c5, b5, k5⟩
  show sat _ (laws_jpFound.t2 s q.1 q.2.1 ⟨w.heap.size, 0, none⟩ ⟨w2.heap.size, 0, none⟩ (i : Int)) _ _
  unfold laws_jpFound.t2
  have hwi := (Ka.Lead.wf hL hwf).1
  refine s_iteD (fun hlt => ?_) (fun hge => ?_)
  · have hin : i < keys.length := by omega
    have hkey : keys[i]? = some keys[i] := List.getElem?_eq_getElem hin
    have hkz1 := hkz _ (List.getElem_mem hin)
    refine s_key (hK.kp k5) hkey ?_
    refine s_cut (fun z w' => w5 = w' ∧ (z.1 = false → pi.k = 6 → 0 < keys[i].size → bt keys[i] 0 ≠ 91)) (s_load (pi.k : Int) (c5.cell 0) (s_iteE (fun _ => ?_) (fun g6 => s_leaf ?_))) ?_
    · refine s_call jpIndexP_any ?_
      rintro e w6 ⟨⟨b, rfl, hb⟩, rfl⟩
      refine ⟨b, rfl, s_leaf ?_⟩
      rw [if_pos rfl]; exact ⟨(b, ()), rfl, rfl, fun g _ => hb g⟩
    · rw [if_pos rfl]; exact ⟨(false, ()), rfl, rfl, fun _ g => absurd (by rw [g]; rfl) g6⟩
    rintro ⟨bb, u⟩ w' ⟨rfl, hix⟩
    show sat _ (laws_jpFound.t3 s ⟨w.heap.size, 0, none⟩ ⟨w2.heap.size, 0, none⟩ (i : Int) keys[i] bb) _ _
    unfold laws_jpFound.t3
    cases bb with
    | true => exact sat_iteT.2 (no (l := 0) k5 b5 fun w' k => by rw [if_neg (by decide)]; exact ⟨rfl, ⟨_, _, _, _, _, false, rfl, (fun g => by cases g), fun _ => rfl⟩, k⟩)
    | false =>
      refine sat_iteF.2 ?_
      refine s_eff ((pi.k : Int), (pi.b : Int), (pi.e : Int), na5, ka5, ()) (loadP c5) ?_
      refine s_call (step_any hs hwi hp5 hkz1) ?_
      rintro e w6 ⟨⟨k6', b6', e6', na6, ka6, ok, rfl, hok, _⟩, k6⟩
      refine ⟨((k6', b6', e6', na6, ka6, ()), ok, ()), rfl, ?_⟩
      obtain ⟨w7, h7, c7, k7⟩ := storeP (k6.blk c5 id) rfl k6' b6' e6' na6 ka6
      refine s_effU h7 ?_
      have n0 : ¬ On w2.heap.size w.heap.size := fun e => by have : w.heap.size = w2.heap.size := e; omega
      have b7 := k7.blk (k6.blk b5 id) n0
      have K7 := (k5.trans k6).then k7 fun q hq e => by have : q = w2.heap.size := e; omega
      cases ok with
      | false => exact sat_iteT.2 (no (l := 0) K7 b7 fun w' k => by rw [if_neg (by decide)]; exact ⟨rfl, ⟨_, _, _, _, _, false, rfl, (fun g => by cases g), fun _ => rfl⟩, k⟩)
      | true =>
        obtain ⟨p', hL', rfl, rfl, rfl, hp'⟩ := hok rfl
        refine sat_iteF.2 (s_leaf ?_)
        rw [if_pos rfl]
        have w1' : IntKind.wrap IntKind.i64 ((i : Int) + 1) = ((i + 1 : Nat) : Int) := by rw [wrap_in (by omega) (by omega)]; omega
        rw [w1']
        refine ⟨keys.length - (i + 1), (((i + 1 : Nat) : Int), ()), rfl, by omega, i + 1, p', na6, ka6, rfl, rfl, hin, ?_, ?_, ?_, c7, b7, K7⟩
        · have := Ka.Lead.snoc hL hL'
          rwa [List.take_append_getElem hin] at this
        · intro j pj key hj h1 h2 h3
          rcases Nat.lt_or_ge j i with g | g
          · exact hNi j pj key g h1 h2 h3
          · have : j = i := by omega
            subst this
            have := lead_uniqs hL h2
            subst this
            rw [hkey] at h1
            cases h1
            exact hix rfl h3
        · exact Sr.PlAt.kp k7 (fun b _ h => ⟨h, fun e => by have : b = w2.heap.size := e; omega⟩) hp'
  · have ei : i = keys.length := by omega
    subst ei
    rw [List.take_length] at hL
    refine s_eff ((pi.k : Int), (pi.b : Int), (pi.e : Int), na5, ka5, ()) (loadP c5) ?_
    obtain ⟨w6, h6, c6, k6⟩ := storeP b5 rfl pi.k pi.b pi.e na5 ka5
    refine s_effU h6 (s_effS ((pi.k : Int), (pi.b : Int), (pi.e : Int), na5, ka5, ()) (loadP c6) (s_leaf ?_))
    rw [if_neg (by decide)]
    refine ⟨rfl, ⟨pi.k, pi.b, pi.e, na5, ka5, true, rfl, (fun _ => ⟨hs, p, pi, ⟨hpb.symm, hwf, hfin.2, hL⟩, hun p hpl, fun j pj key h1 => hNi j pj key (List.getElem?_eq_some_iff.1 h1).1 h1, hpl, rfl, rfl, rfl, ?_⟩), fun g => by cases g⟩, k5.then k6 fun q hq e => by have : q = w.heap.size := e; omega⟩
    exact Sr.PlAt.kp k6 (fun b _ h => ⟨trivial, fun e => by have : b = w.heap.size := e; omega⟩) hp5
end Go.Proofs.YtlfebfkphgelfaaGreatDoor.Lj
