/- The thin package's Set. No statement of the set is proved here. -/
import Derived.Test.YtlfebfkphgelfaaDoorEf
import Derived.Test.YtlfebfkphgelfaaDoorSp
import Derived.Test.YtlfebfkphgelfaaDoorTd
namespace Go.Proofs.YtlfebfkphgelfaaDoor.Ka
open Go Go.Proofs Go.RowKit Go.Proofs.YtlfebfkphgelfaaDoor.Rx Go.Proofs.YtlfebfkphgelfaaDoor.Tr Go.Proofs.YtlfebfkphgelfaaDoor.Pl Go.Proofs.YtlfebfkphgelfaaDoor.Pw Go.Proofs.YtlfebfkphgelfaaDoor.Sk
open Go.Proofs.YtlfebfkphgelfaaDoor.Ed (opn nstL AsIs mkB len_of mkB_size put put_size)

variable {w w' : World} {x y q : Sl} {s t : ByteArray} {keys rs ks1 : List ByteArray} {k : ByteArray} {p0 p : PT}
/-- Set at new keys. -/
theorem setN_any {b e : Nat} {ns : List (Nat × Nat)} {ks : List PT} {a : Addr} (hs : s.size ≤ 4000000) (hC : Je.Cv w) (hL : Je.Lt w) (hE : Je.Ev w Je.gE) (hk : Ek w a) (hT : Tx w x s 0 s.size) (hV : Tx w y t 0 t.size) (hKx : Kx w q (ks1 ++ k :: rs)) (hN : New s p0 ks1 b e ns ks k rs) (hb : k.size + clen rs + t.size ≤ 4000000) (hkn : ks1.length ≤ 4000000) :
    Calls Tryd.prog 19 #[slV x, slV y, slV q] w fun en w' => ∃ z : Sl, en = .returned (.tuple #[slV z, .nilIface]) ∧ Tx w' z (newT s ks1 b e ks k rs t.data.toList) 0 (newT s ks1 b e ks k rs t.data.toList).size ∧ Kp Off w w' := by
  refine jsonparser_Set.calls _ _ _ _ _ _ _ _ _ ?_
  unfold jsonparser_Set.t
  refine s_eff (w' := w) (false, false, (0 : Int), ()) (Je.loadAt_cells (cs := Je.cfg) (by kernel_rfl) (info_some (by kernel_rfl)) (by kernel_rfl) (fun j v hj => by rw [addr_add, Nat.zero_add]; exact hC j v hj)) ?_
  refine s_call (setNew_any hs hL hE hk hT hV hKx hN hb hkn) ?_
  rintro en w1 ⟨z, rfl, h1, k1⟩
  exact ⟨(z, Value.nilIface, ()), rfl, s_leaf ⟨rfl, z, rfl, h1, k1⟩⟩
/-- The thin package's Set, whatever Set itself gives. -/
theorem jpSet_of {R : ByteArray} (hset : ∀ (w1 : World) (x y : Sl), Kp Off w w1 → Tx w1 x s 0 s.size → Tx w1 y t 0 t.size → Calls Tryd.prog 19 #[slV x, slV y, slV q] w1 fun en w' => ∃ z : Sl, en = .returned (.tuple #[slV z, .nilIface]) ∧ Tx w' z R 0 R.size ∧ Kp Off w1 w') :
    Calls Tryd.prog 9 #[.string s, .string t, slV q] w fun en w' => en = .returned (.tuple #[.string R, .bool true]) ∧ Kp Off w w' := by
  refine impl_JpSet.calls _ _ _ _ _ ?_
  unfold impl_JpSet.t
  obtain ⟨x, w1, hcv, hT, k1, z1, hx⟩ := conv_any (w := w) s
  refine s_eff x hcv ?_
  obtain ⟨y, w2, hcv2, hV, k2, z2, hy⟩ := conv_any (w := w1) t
  refine s_eff y hcv2 ?_
  have K2 := k1.trans k2
  refine s_call (hset w2 x y K2 (hT.kp k2) hV) ?_
  rintro en w3 ⟨z, rfl, h3, k3⟩
  refine ⟨(z, Value.nilIface, ()), rfl, s_chk rfl (sat_iteF.2 ?_)⟩
  exact s_eff (w' := w3) R (tx_str h3) (s_leaf ⟨rfl, rfl, K2.trans k3⟩)
theorem jpSetOld_any (hs : s.size ≤ 8000000) (ht : t.size ≤ 4000000) (hC : Je.Cv w) (hL : Je.Lt w) (hE : Je.Ev w Je.gE) (hKx : Kx w q keys) (h : Led s p0 keys p) (hk : keys ≠ []) :
    Calls Tryd.prog 9 #[.string s, .string t, slV q] w fun en w' => en = .returned (.tuple #[.string (put s p.b p.e t), .bool true]) ∧ Kp Off w w' :=
  jpSet_of fun _ _ _ k1 hT hV => set_any hs ht (hC.off k1) (hL.off' k1) (hE.kp k1 id) hT hV (hKx.kp k1) h hk
theorem jpSetNew_any {b e : Nat} {ns : List (Nat × Nat)} {ks : List PT} {a : Addr} (hs : s.size ≤ 4000000) (hC : Je.Cv w) (hL : Je.Lt w) (hE : Je.Ev w Je.gE) (hk : Ek w a) (hKx : Kx w q (ks1 ++ k :: rs)) (hN : New s p0 ks1 b e ns ks k rs) (hb : k.size + clen rs + t.size ≤ 4000000) (hkn : ks1.length ≤ 4000000) :
    Calls Tryd.prog 9 #[.string s, .string t, slV q] w fun en w' => en = .returned (.tuple #[.string (newT s ks1 b e ks k rs t.data.toList), .bool true]) ∧ Kp Off w w' :=
  jpSet_of fun _ _ _ k1 hT hV => setN_any hs (hC.off k1) (hL.off' k1) (hE.kp k1 id) (hk.kp k1) hT hV (hKx.kp k1) hN hb hkn
end Go.Proofs.YtlfebfkphgelfaaDoor.Ka
