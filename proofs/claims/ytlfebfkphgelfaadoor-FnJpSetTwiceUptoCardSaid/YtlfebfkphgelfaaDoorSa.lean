/- jsonparser: a buffer that is filled from its begin on; where a text's last token stands; how much room new keys take. No statement of the set is proved here. -/
import Derived.Test.YtlfebfkphgelfaaDoorKz
import Derived.Test.YtlfebfkphgelfaaDoorIb
import Derived.Test.YtlfebfkphgelfaaDoorTc
import Derived.Lib.LazyBuf
namespace Go.Proofs.YtlfebfkphgelfaaDoor.Ka
open Go Go.Proofs Go.RowKit Go.Proofs.YtlfebfkphgelfaaDoor.Rx Go.Proofs.YtlfebfkphgelfaaDoor.Tr Go.Proofs.YtlfebfkphgelfaaDoor.Pl Go.Proofs.YtlfebfkphgelfaaDoor.Pw Go.Proofs.YtlfebfkphgelfaaDoor.Sk
open Go.Proofs.YtlfebfkphgelfaaDoor.Bw (bv gb bt_bv)
open Go.Proofs.YtlfebfkphgelfaaDoor.Ed (opn nstL AsIs mkB len_of)

variable {w w' : World} {x y q : Sl} {s t : ByteArray} {keys : List ByteArray} {h N : Nat} {l : List UInt8}
/-- The first bytes of a buffer of N. -/
structure FB (w : World) (h N : Nat) (l : List UInt8) : Prop where
  lt : h < w.heap.size
  le : l.length ≤ N
  at' : ∀ j u, l[j]? = some u → w.cell? ⟨h, j, none⟩ = some (bv u)
  there : ∀ j, j < N → (w.cell? ⟨h, j, none⟩).isSome = true ∧ w.frozen? ⟨h, j, none⟩ = false
theorem FB.kp {S : Nat → Prop} (hF : FB w h N l) (k : Kp S w w') (hS : ¬ S h) : FB w' h N l := by
  have hb := k.block h hF.lt hS
  exact ⟨Nat.lt_of_lt_of_le hF.lt k.size, hF.le, fun j u hj => (World.cell?_of_block (a := ⟨h, j, none⟩) hb).trans (hF.at' j u hj), fun j hj => ⟨by rw [World.cell?_of_block (a := ⟨h, j, none⟩) hb]; exact (hF.there j hj).1, (World.frozen?_of_block (a := ⟨h, j, none⟩) hb).trans (hF.there j hj).2⟩⟩
theorem kp_set (h : Nat) : ∀ (vs : List Value) (o : Nat) (w : World), Kp (On h) w (w.setCells h o vs)
  | [], o, w => Kp.refl _ w
  | v :: vs, o, w => by
    show Kp (On h) w ((w.setCell ⟨h, o, none⟩ v).setCells h (o + 1) vs)
    exact ((Kp.refl (On h) w).set (a := ⟨h, o, none⟩) rfl v).trans (kp_set h vs (o + 1) _)
theorem FB.put (hF : FB w h N l) {bs : List UInt8} (hn : l.length + bs.length ≤ N) : FB (w.setCells h l.length (bs.map bv)) h N (l ++ bs) := by
  have k := kp_set h (bs.map bv) l.length w
  have hin := World.cell?_setCells_in h (bs.map bv) l.length w (fun i hi => (hF.there _ (by rw [List.length_map] at hi; omega)).1)
  refine ⟨Nat.lt_of_lt_of_le hF.lt k.size, by rw [List.length_append]; exact hn, fun j u hj => ?_, fun j hj => ?_⟩
  · rcases Nat.lt_or_ge j l.length with g1 | g1
    · rw [List.getElem?_append_left g1] at hj
      rw [World.cell?_setCells_out h _ _ _ _ (fun _ _ => .inl g1)]
      exact hF.at' j u hj
    · rw [List.getElem?_append_right g1] at hj
      have hj2 : j - l.length < bs.length := (List.getElem?_eq_some_iff.1 hj).1
      have := hin (j - l.length) (by rw [List.length_map]; exact hj2)
      rw [show l.length + (j - l.length) = j by omega] at this
      rw [this, List.getElem_map]
      exact congrArg (fun z => some (bv z)) (List.getElem?_eq_some_iff.1 hj).2
  · refine ⟨?_, by rw [World.frozen?_setCells]; exact (hF.there j hj).2⟩
    by_cases g1 : l.length ≤ j ∧ j < l.length + bs.length
    · have := hin (j - l.length) (by rw [List.length_map]; omega)
      rw [show l.length + (j - l.length) = j by omega] at this
      rw [this]; rfl
    · rw [World.cell?_setCells_out h _ _ _ _ (fun _ _ => by rw [List.length_map]; show j < l.length ∨ l.length + bs.length ≤ j; omega)]
      exact (hF.there j hj).1
theorem FB.tx (hF : FB w h N l) (hN : l.length = N) {cap : Nat} (hc : N ≤ cap) : Tx w (some ⟨h, 0, none⟩, N, cap) (mkB l) 0 (mkB l).size := by
  have hz : (mkB l).size = l.length := Ed.mkB_size l
  refine ⟨by show N = (mkB l).size - 0; omega, Nat.zero_le _, Nat.le_refl _, hc, h, 0, rfl, hF.lt, fun j hj => ?_⟩
  rw [hz] at hj
  simp only [Nat.zero_add] at hj ⊢
  rw [hF.at' j _ (List.getElem?_eq_getElem hj), Ed.bt_mkB, List.getD_eq_getElem?_getD, List.getElem?_eq_getElem hj]
  rfl
/-- A new buffer. -/
theorem s_makeF {Q : Nat → List Value → World → Prop} {n m : Int} {K : Sh.slice.Ty → T} (hn : n = (N : Int)) (hm : m = (N : Int)) (hN : N ≤ 16000000) (hK : ∀ w', FB w' w.heap.size N [] → Kp Off w w' → sat Tryd.prog (K (some ⟨w.heap.size, 0, none⟩, N, N)) Q w') :
    sat Tryd.prog (.eff (Instr.makeSlice tBs (Value.int IntKind.i64 n) (Value.int IntKind.i64 m)) .slice K) Q w := by
  subst hn; subst hm
  have hr := run_makeSlice (P := Tryd.prog) w tBs tB _ (.int .u8 0) Tryd.underlying36 (info_some (by kernel_rfl)) (by kernel_rfl) .i64 .i64 (N : Int) (N : Int) (by omega) (by omega) (by
        rw [show ((Tryd.prog.info? tB).get (by kernel_rfl)).size = 1 from by kernel_rfl]; omega) (by
        rw [show ((Tryd.prog.info? tB).get (by kernel_rfl)).bytes = 1 from by kernel_rfl]; omega) (by omega)
  rw [show ((Tryd.prog.info? tB).get (by kernel_rfl)).size = 1 from by kernel_rfl, Int.toNat_natCast, Nat.mul_one, Je.made_zero N (Value.int IntKind.u8 0).cells rfl] at hr
  refine s_eff (some ⟨w.heap.size, 0, none⟩, N, N) hr (hK _ ?_ ((Kp.refl _ w).alloc _))
  have hh : (w.alloc (.cells (Je.cb (List.replicate N 0)).toArray tB)).heap[w.heap.size]? = some (.cells (Je.cb (List.replicate N 0)).toArray tB) := heap_alloc_new w _
  refine ⟨by simp, Nat.zero_le _, fun j u hj => by simp at hj, fun j hj => ?_⟩
  have hz : (Je.cb (List.replicate N 0)).toArray.size = N := by rw [List.size_toArray, Je.cb_len, List.length_replicate]
  simp only [World.cell?, World.frozen?, hh]
  rw [Array.getElem?_eq_getElem (by omega)]
  exact ⟨rfl, rfl⟩
theorem sz_run (w : World) : (Go.sizeOf tB).run Tryd.prog w = .ok 1 w := by
  have hi := info_some (P := Tryd.prog) (t := tB) (by kernel_rfl)
  rw [run_size hi, show ((Tryd.prog.info? tB).get (by kernel_rfl)).size = 1 from by kernel_rfl]
/-- A string's bytes go to the place behind the filled ones. -/
theorem wtb_any {d : Nat} {n c : Nat} (hF : FB w h N l) (hd : 0 < t.size → d = l.length) (hn : t.size ≤ n) (hN : l.length + t.size ≤ N) :
    Calls Tryd.prog 68 #[.slice (some ⟨h, d, none⟩) n c, .string t] w fun en w' => en = .returned (.int .i64 ((t.size : Nat) : Int)) ∧ FB w' h N (l ++ t.data.toList) ∧ Kp (On h) w w' := by
  refine jsonparser_WriteToBuffer.calls _ _ _ _ ?_
  unfold jsonparser_WriteToBuffer.t
  rcases Nat.eq_zero_or_pos t.size with h0 | h0
  · have hr := run_copy_string (P := Tryd.prog) w tBs 9 3 tB h d n c t Tryd.underlying36 sz_run hn (fun j hj => by omega) (fun j hj => by omega)
    have e : t.data.toList = [] := List.eq_nil_of_length_eq_zero (by rw [len_of]; exact h0)
    rw [e] at hr
    refine s_eff ((t.size : Nat) : Int) hr (s_leaf ⟨rfl, rfl, ?_, ?_⟩)
    · rw [e, List.append_nil]; exact hF
    · exact Kp.refl _ _
  · have hd := hd h0
    subst hd
    have hr := run_copy_string (P := Tryd.prog) w tBs 9 3 tB h l.length n c t Tryd.underlying36 sz_run hn (fun j hj => (hF.there _ (by omega)).1) (fun j hj => (hF.there _ (by omega)).2)
    exact s_eff ((t.size : Nat) : Int) hr (s_leaf ⟨rfl, rfl, hF.put (bs := t.data.toList) (by rw [len_of]; exact hN), kp_set h _ _ w⟩)
/-- A slice's bytes go there. -/
theorem s_copyF {Q : Nat → List Value → World → Prop} {a b d n c : Nat} {ats : Array TypeId} {K : Int → T} (hF : FB w h N l) (hT : Tx w y s a b) (ha : ats = #[tBs, tBs]) (hd : 0 < b - a → d = l.length) (hn : b - a ≤ n) (hN : l.length + (b - a) ≤ N)
    (hK : ∀ w', FB w' h N (l ++ (s.data.toList.drop a).take (b - a)) → Kp (On h) w w' → sat Tryd.prog (K ((b - a : Nat) : Int)) Q w') :
    sat Tryd.prog (.eff (Builtin.copy_ ats 3 #[.slice (some ⟨h, d, none⟩) n c, .slice y.1 y.2.1 y.2.2]) (.int .i64) K) Q w := by
  subst ha
  have hes := hT.es
  have hie := hT.ie
  have hyl := hT.len
  obtain ⟨g, o, hy1, hg, hc⟩ := hT.cell
  obtain ⟨ya, yl, yc⟩ := y
  have hy1 : ya = some ⟨g, o, none⟩ := hy1
  have hyl : yl = b - a := hyl
  subst hy1; subst hyl
  have hll : ((s.data.toList.drop a).take (b - a)).length = b - a := by rw [List.length_take, List.length_drop, len_of]; omega
  have hsz : (Tryd.prog.info? tB).map (·.size) = some 1 := by kernel_rfl
  rcases Nat.eq_zero_or_pos (b - a) with h0 | h0
  · have hr := run_copy_none (P := Tryd.prog) w tBs tBs 3 tB (some ⟨h, d, none⟩) (some ⟨g, o, none⟩) n c (b - a) yc Tryd.underlying36 hsz (by rw [h0]; exact Nat.zero_min _)
    refine s_eff ((b - a : Nat) : Int) (by rw [h0]; rw [h0] at hr; exact hr) (hK w ?_ (Kp.refl _ _))
    rw [List.eq_nil_of_length_eq_zero (hll.trans h0), List.append_nil]; exact hF
  · have hd := hd h0
    subst hd
    have hml : (((s.data.toList.drop a).take (b - a)).map bv).length = b - a := by rw [List.length_map, hll]
    have hr := run_copy_cells (P := Tryd.prog) w tBs tBs 3 tB h l.length n c ⟨g, o, none⟩ (b - a) yc (((s.data.toList.drop a).take (b - a)).map bv) Tryd.underlying36 hsz (by rw [hml]; exact (Nat.min_eq_left hn).symm) (fun j v hj => by
      have hj' := (List.getElem?_eq_some_iff.1 hj).1
      rw [hml] at hj'
      rw [addr_add, hc j (by omega)]
      rw [List.getElem?_map, List.getElem?_take_of_lt hj', List.getElem?_drop] at hj
      cases hu : s.data.toList[a + j]? with
      | none => rw [hu] at hj; cases hj
      | some u =>
        rw [hu] at hj
        rw [← hj, bt_bv]
        unfold gb
        rw [List.getD_eq_getElem?_getD, hu]; rfl) (fun j hj => (hF.there _ (by rw [hml] at hj; omega)).1) (fun j hj => (hF.there _ (by rw [hml] at hj; omega)).2) (fun u hu => by
      obtain ⟨b, _, rfl⟩ := List.mem_map.1 hu
      rfl)
    rw [hml] at hr
    exact s_eff ((b - a : Nat) : Int) hr (hK _ (hF.put (by rw [hll]; exact hN)) (kp_set h _ _ w))
/-- Where the last token stands. -/
theorem last_any {m : Nat} (hs : s.size ≤ 9000000) (hT : Tx w x s 0 s.size) (hm : m < s.size) (hnb : isB (bt s (m : Int)) = false) (hbk : ∀ j, m < j → j < s.size → isB (bt s (j : Int)) = true) :
    Calls Tryd.prog 53 #[slV x] w fun en w' => en = .returned (.int .i64 ((m : Nat) : Int)) ∧ w' = w := by
  have hl := hT.len
  refine jsonparser_lastToken.calls _ _ _ ?_
  unfold jsonparser_lastToken.t
  have e0 : IntKind.wrap IntKind.i64 (((x.2.1 : Nat) : Int) - (1 : Int)) = ((s.size - 1 : Nat) : Int) := by rw [hl, Nat.sub_zero, wdn _ (by omega) (by omega)]
  refine s_loop (fun n z w' => ∃ j : Nat, n = j ∧ z = ((j : Int), ()) ∧ m ≤ j ∧ j < s.size ∧ w = w') (s.size - 1) (((s.size - 1 : Nat) : Int), ()) (by rw [e0]; rfl) ⟨s.size - 1, rfl, rfl, by omega, by omega, rfl⟩ ?_
  rintro n z w1 ⟨j, rfl, rfl, hmj, hjs, rfl⟩
  show sat _ (jsonparser_lastToken.t1 x.1 x.2.1 (n : Int)) _ _
  unfold jsonparser_lastToken.t1
  refine s_iteD (fun _ => s_at hT (by omega) ?_) (fun g => absurd (by omega) g)
  rw [Nat.zero_add]
  have on : isB (bt s (n : Int)) = true → (fun l' vs w'' => if l' = 1 then ∃ n' x', vs = (Sh.cons (.int .i64) .nil).vals x' ∧ n' < n ∧ ∃ j : Nat, n' = j ∧ x' = ((j : Int), ()) ∧ m ≤ j ∧ j < s.size ∧ w = w'' else l' = 0 ∧ Ending.returned (retVal vs) = .returned (.int .i64 ((m : Nat) : Int)) ∧ w'' = w) 1 [Value.int IntKind.i64 (IntKind.wrap IntKind.i64 ((n : Int) - (1 : Int)))] w := fun hb => by
    have hne : m ≠ n := fun e => by subst e; rw [hb] at hnb; cases hnb
    show if (1 : Nat) = 1 then _ else _
    rw [if_pos rfl, wdn _ (by omega) (by omega)]
    exact ⟨n - 1, (((n - 1 : Nat) : Int), ()), rfl, by omega, n - 1, rfl, rfl, by omega, by omega, rfl⟩
  refine s_iteE (fun g => s_leaf (on (by rw [g]; rfl))) (fun g1 => s_iteE (fun g => s_leaf (on (by rw [g]; rfl))) (fun g2 => s_iteE (fun g => s_leaf (on (by rw [g]; rfl))) (fun g3 => s_iteE (fun g => s_leaf (on (by rw [g]; rfl))) (fun g4 => s_leaf ?_))))
  rw [if_neg (by decide)]
  have : m = n := by
    rcases Nat.lt_or_ge m n with g | g
    · have := isB_or (hbk n g hjs); omega
    · omega
  subst this
  exact ⟨rfl, rfl, rfl⟩
theorem enc_not : ∀ n : Nat, n < 256 → n ≠ 91 → strEq (Utf8.encode (n : Int)) (ByteArray.mk #[(91 : UInt8)]) = false := by decide +kernel
/-- A key that is no index. -/
def NoI (key : ByteArray) : Prop := 0 < key.size ∧ bt key 0 ≠ 91
theorem s_key0 {Q : Nat → List Value → World → Prop} {K : Sh.str.Ty → T} {key : ByteArray} (h : Kx w q keys) (hj : keys[0]? = some key) (hK : sat Tryd.prog (K key) Q w) :
    sat Tryd.prog (.chk (((0 : Int) ≤ (0 : Int)) ∧ ((0 : Int) < ((q.2.1 : Nat) : Int))) <| .ptr q.1 fun z => .load (Addr.add z 0) .str K) Q w := s_key (j := 0) h hj hK
theorem conv_ch {key : ByteArray} (w : World) : (convert 5 9 (Value.int IntKind.u8 (bt key (0 : Int)))).run Tryd.prog w = .ok (.string (Utf8.encode (bt key (0 : Int)))) w :=
  run_convert_int_string (P := Tryd.prog) w _ _ _ _ (by kernel_rfl) Tryd.underlying9
theorem s_isI {Q : Nat → List Value → World → Prop} {L j : Nat} {key : ByteArray} (h : Kx w q keys) (hj : keys[j]? = some key) (hk : NoI key) (hQ : Q L [.bool false] w) :
    sat Tryd.prog (.chk (((0 : Int) ≤ (j : Int)) ∧ ((j : Int) < ((q.2.1 : Nat) : Int))) <| .ptr q.1 fun z => .load (Addr.add z ((Int.toNat (j : Int)) * 1)) .str fun s16 =>
      .ite (decide ((((ByteArray.size s16) : Nat) : Int) > (0 : Int))) (
        .chk (((0 : Int) ≤ (j : Int)) ∧ ((j : Int) < ((q.2.1 : Nat) : Int))) <| .ptr q.1 fun z => .load (Addr.add z ((Int.toNat (j : Int)) * 1)) .str fun s18 =>
        .chk (((0 : Int) ≤ (0 : Int)) ∧ ((0 : Int) < (((ByteArray.size s18) : Nat) : Int))) <|
        .eff (convert 5 9 (Value.int IntKind.u8 (bt s18 (0 : Int)))) .str fun (s19 : ByteArray) =>
        .leaf L [(Value.bool (strEq s19 (ByteArray.mk #[(91 : UInt8)])))]) (
        .leaf L [(Value.bool Bool.false)])) Q w := by
  have h1 := hk.1
  refine s_key h hj (s_iteD (fun _ => s_key h hj (s_chk ⟨by omega, by omega⟩ ?_)) (fun g => absurd (by omega) g))
  refine s_eff (w' := w) (Utf8.encode (bt key (0 : Int))) (conv_ch w) (s_leaf ?_)
  have hr := bt_range key (0 : Int)
  have := enc_not (bt key (0 : Int)).toNat (by omega) (by have := hk.2; omega)
  rw [Int.toNat_of_nonneg hr.1] at this
  rw [this]
  exact hQ
theorem s_isI0 {Q : Nat → List Value → World → Prop} {L : Nat} {key : ByteArray} (h : Kx w q keys) (hj : keys[0]? = some key) (hk : NoI key) (hQ : Q L [.bool false] w) :
    sat Tryd.prog (.chk (((0 : Int) ≤ (0 : Int)) ∧ ((0 : Int) < ((q.2.1 : Nat) : Int))) <| .ptr q.1 fun z => .load (Addr.add z 0) .str fun s16 =>
      .ite (decide ((((ByteArray.size s16) : Nat) : Int) > (0 : Int))) (
        .chk (((0 : Int) ≤ (0 : Int)) ∧ ((0 : Int) < ((q.2.1 : Nat) : Int))) <| .ptr q.1 fun z => .load (Addr.add z 0) .str fun s18 =>
        .chk (((0 : Int) ≤ (0 : Int)) ∧ ((0 : Int) < (((ByteArray.size s18) : Nat) : Int))) <|
        .eff (convert 5 9 (Value.int IntKind.u8 (bt s18 (0 : Int)))) .str fun (s19 : ByteArray) =>
        .leaf L [(Value.bool (strEq s19 (ByteArray.mk #[(91 : UInt8)])))]) (
        .leaf L [(Value.bool Bool.false)])) Q w := s_isI (j := 0) h hj hk hQ
end Go.Proofs.YtlfebfkphgelfaaDoor.Ka
