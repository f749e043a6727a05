/- jsonparser's Set where the keys lead to an object that lacks the next one: the text is put together. No statement of the set is proved here. -/
import Derived.Test.YtlfebfkphgelfaaDoorSb
import Derived.Test.YtlfebfkphgelfaaDoorTb
namespace Go.Proofs.YtlfebfkphgelfaaDoor.Ka
open Go Go.Proofs Go.RowKit Go.Proofs.YtlfebfkphgelfaaDoor.Rx Go.Proofs.YtlfebfkphgelfaaDoor.Tr Go.Proofs.YtlfebfkphgelfaaDoor.Pl Go.Proofs.YtlfebfkphgelfaaDoor.Pw Go.Proofs.YtlfebfkphgelfaaDoor.Sk
open Go.Proofs.YtlfebfkphgelfaaDoor.Ed (opn nstL AsIs mkB len_of mkB_size put put_size put_toList eq_of_list mkB_list)

variable {w w' : World} {x y q : Sl} {s t : ByteArray} {keys rs : List ByteArray} {k : ByteArray} {h N : Nat} {l : List UInt8}
/-- A slice's bytes go behind what is filled. -/
theorem s_copyZ {Q : Nat → List Value → World → Prop} {z : Sl} {a b : Nat} {off : Int} {ats : Array TypeId} {K : Int → T} (hz : z = (some ⟨h, 0, none⟩, N, N)) (hF : FB w h N l) (ho : off = ((l.length : Nat) : Int)) (hT : Tx w y s a b) (ha : ats = #[tBs, tBs]) (hN : l.length + (b - a) ≤ N)
    (hK : ∀ w', FB w' h N (l ++ (s.data.toList.drop a).take (b - a)) → Kp (On h) w w' → sat Tryd.prog (K ((b - a : Nat) : Int)) Q w') :
    sat Tryd.prog (.eff (Builtin.copy_ ats 3 #[(Value.slice (if (((z).2).2 = (Int.toNat off)) then (z).1 else (Option.map (fun (y140 : Addr) => (Addr.add y140 ((Int.toNat off) * 1))) (z).1)) ((Int.toNat ((((z).2).1 : Nat) : Int)) - (Int.toNat off)) (((z).2).2 - (Int.toNat off))), .slice y.1 y.2.1 y.2.2]) (.int .i64) K) Q w := by
  subst hz; subst ho
  show sat Tryd.prog (.eff (Builtin.copy_ ats 3 #[(Value.slice (if (N = (Int.toNat ((l.length : Nat) : Int))) then (some (⟨h, 0, none⟩ : Addr)) else (Option.map (fun (y45 : Addr) => (Addr.add y45 ((Int.toNat ((l.length : Nat) : Int)) * 1))) (some (⟨h, 0, none⟩ : Addr)))) ((Int.toNat ((N : Nat) : Int)) - (Int.toNat ((l.length : Nat) : Int))) (N - (Int.toNat ((l.length : Nat) : Int)))), .slice y.1 y.2.1 y.2.2]) (.int .i64) K) Q w
  rw [Int.toNat_natCast, Int.toNat_natCast, Je.sl_at]
  exact s_copyF hF hT ha (fun hp => by rw [if_neg (by omega), Nat.zero_add]) (by omega) hN hK
theorem comp_len (comma obj : Bool) (k : ByteArray) (rs : List ByteArray) (v : List UInt8) : (compL comma obj k rs v).length = b1 comma + b1 obj + (k.size + 3) + v.length + clen rs + b1 obj := by
  have h1 := opn_len rs
  have h2 := len_of k
  unfold compL
  cases comma <;> cases obj <;> simp [b1] <;> omega
theorem t22_any {Q : Nat → List Value → World → Prop} {d b' e' : Nat} {comma obj : Bool} (hs : s.size ≤ 4000000) (hT : Tx w x s 0 s.size) (hV : Tx w y t 0 t.size) (hKx : Kx w q keys) (hd : d ≤ keys.length) (hkd : keys.drop d = k :: rs) (hn : ∀ key ∈ k :: rs, NoI key) (hb : k.size + clen rs + t.size ≤ 4000000) (hbe : b' ≤ e') (hes : e' ≤ s.size)
    (hQ : ∀ (z : Sl) (w' : World), Tx w' z (put s b' e' (mkB (compL comma obj k rs t.data.toList))) 0 (put s b' e' (mkB (compL comma obj k rs t.data.toList))).size → Kp Off w w' → Q 0 [slV z, .nilIface] w') :
    sat Tryd.prog (jsonparser_setConfig.t22 x.1 x.2.1 x.2.2 y.1 y.2.1 y.2.2 q.1 q.2.1 q.2.2 (d : Int) (e' : Int) (b' : Int) obj comma) Q w := by
  have hl := hKx.len
  have hc := hKx.cap
  have hxl := hT.len
  have hxc := hT.cap
  have hdr := hKx.drop d hd
  rw [hkd] at hdr
  unfold jsonparser_setConfig.t22
  refine s_chk ⟨by omega, by omega, by omega⟩ ?_
  rw [Int.toNat_natCast, Int.toNat_natCast]
  have hcall := comp_any (comma := comma) (obj := obj) hdr hn hV (by omega)
  refine s_call hcall ?_
  rintro en w1 ⟨c, rfl, hC, k1⟩
  refine ⟨c, rfl, ?_⟩
  have hcl := comp_len comma obj k rs t.data.toList
  rw [len_of] at hcl
  have hc1 : b1 comma ≤ 1 := by cases comma <;> decide
  have ho1 : b1 obj ≤ 1 := by cases obj <;> decide
  generalize hcm : compL comma obj k rs t.data.toList = cm at hC hQ hcl
  have hcz : (mkB cm).size = cm.length := mkB_size cm
  have hcs := hC.len
  rw [Nat.sub_zero, hcz] at hcs
  rw [Nat.sub_zero] at hxl
  have eN : IntKind.wrap IntKind.i64 ((IntKind.wrap IntKind.i64 ((IntKind.wrap IntKind.i64 ((b' : Int) + (((c.2).1 : Nat) : Int))) + ((x.2.1 : Nat) : Int))) - (e' : Int)) = ((b' + cm.length + s.size - e' : Nat) : Int) := by
    rw [hcs, hxl, wad _ _ (by omega), wad _ _ (by omega), wsu _ _ (by omega) (by omega)]
  refine s_makeF (N := b' + cm.length + s.size - e') eN eN (by omega) fun w2 hF2 k2 => ?_
  generalize hN : b' + cm.length + s.size - e' = N at hF2
  generalize hh : w1.heap.size = h at hF2
  obtain ⟨z, hz⟩ : ∃ z : Sl, z = (some ⟨h, 0, none⟩, N, N) := ⟨_, rfl⟩
  rw [show ((some (⟨h, 0, none⟩ : Addr), N, N) : Sh.slice.Ty) = z from hz.symm]
  have fr : ∀ {a b : World}, Kp Off w1 a → Kp (On h) a b → Kp Off w1 b := fun k1 k2 => kpThen k1 k2 fun i hi ho => by unfold On at ho; omega
  have hT2 := (hT.kp k1).kp k2
  refine s_chk ⟨by omega, by omega, by omega⟩ ?_
  have hsb := hT2.sub (k := 0) (f := b') (Nat.le_refl _) (Nat.zero_le _) (by omega)
  have hcp : ∀ {Q' : Nat → List Value → World → Prop} {K' : Int → T}, (∀ w', FB w' h N ([] ++ (s.data.toList.drop 0).take (b' - 0)) → Kp (On h) w2 w' → sat Tryd.prog (K' ((b' - 0 : Nat) : Int)) Q' w') →
      sat Tryd.prog (.eff (Builtin.copy_ (Call.argTypes (Call.mk (Callee.builtin Builtin.copy) #[(Operand.tmp 337), (Operand.tmp 340)] #[tBs, tBs])) 3 #[(Value.slice (z).1 ((z).2).1 ((z).2).2), (Value.slice (if (x.2.2 = 0) then x.1 else (Option.map (fun (y138 : Addr) => (Addr.add y138 0)) x.1)) ((Int.toNat (b' : Int)) - 0) (x.2.2 - 0))]) (.int .i64) K') Q' w2 := by
    intro Q' K' hK'
    have hsb' : Tx w2 ((if x.2.2 = 0 then x.1 else x.1.map fun y => y.add 0), b' - 0, x.2.2 - 0) s 0 b' := hsb
    have hcf := s_copyF (Q := Q') (K := K') (n := N) (c := N) (l := []) (d := 0) (ats := #[tBs, tBs]) hF2 hsb' rfl (fun _ => rfl) (by omega) (by show 0 + (b' - 0) ≤ N; omega) hK'
    rw [hz, Int.toNat_natCast]
    exact hcf
  refine hcp fun w3 hF3 k3 => ?_
  rw [Nat.sub_zero, List.drop_zero, List.nil_append] at hF3
  rw [Nat.sub_zero]
  have lP : (s.data.toList.take b').length = b' := by rw [List.length_take, len_of]; omega
  generalize hP : s.data.toList.take b' = P at hF3 lP
  have k13 := fr k2 k3
  have hC3 := hC.kp k13
  refine s_chk ⟨by omega, by rw [hz]; show (b' : Int) ≤ (N : Int); omega, by rw [hz]; exact Int.le_refl _⟩ ?_
  refine s_copyZ hz hF3 (by rw [lP]) hC3 rfl (by rw [lP, Nat.sub_zero, hcz]; omega) fun w4 hF4 k4 => s_drew ?_
  rw [Nat.sub_zero, List.drop_zero, hcz, mkB_list, List.take_of_length_le (Nat.le_refl _)] at hF4
  rw [Nat.sub_zero, hcz]
  have ew : IntKind.wrap IntKind.i64 ((b' : Int) + ((cm.length : Nat) : Int)) = ((b' + cm.length : Nat) : Int) := wad _ _ (by omega)
  simp only [ew]
  have kd : Kp Off w4 w4.drew := (Kp.refl Off w4).drew
  have hF5 := hF4.kp kd id
  have k15 := (fr k13 k4).trans kd
  have hT5 := (hT.kp k1).kp k15
  generalize w4.drew = w5 at hF5 k15 hT5
  have lR : (P ++ cm).length = b' + cm.length := by rw [List.length_append, lP]
  refine s_chk ⟨by omega, by rw [hz]; show ((b' + cm.length : Nat) : Int) ≤ (N : Int); omega, by rw [hz]; exact Int.le_refl _⟩ (s_chk ⟨by omega, by omega, by omega⟩ ?_)
  have hse := hT5.sub (k := e') (f := s.size) (Nat.zero_le _) (by omega) (Nat.le_refl _)
  rw [Nat.sub_zero] at hse
  have e1 : ((Int.toNat ((x.2.1 : Nat) : Int)) - (Int.toNat (e' : Int))) = s.size - e' := by rw [Int.toNat_natCast, Int.toNat_natCast, hxl]
  rw [e1, Int.toNat_natCast (n := e')]
  refine s_copyZ (y := (if x.2.2 = e' then x.1 else x.1.map fun y => y.add (e' * 1), s.size - e', x.2.2 - e')) hz hF5 (by rw [lR]) hse rfl (by rw [lR]; omega) fun w6 hF6 k6 => s_leaf ?_
  have l6 : (s.data.toList.drop e').take (s.size - e') = s.data.toList.drop e' := List.take_of_length_le (by rw [List.length_drop, len_of]; omega)
  rw [l6] at hF6
  have k16 := fr k15 k6
  have lF : (P ++ cm ++ s.data.toList.drop e').length = N := by rw [List.length_append, lR, List.length_drop, len_of]; omega
  have hTx := hF6.tx lF (Nat.le_refl N)
  have heq : mkB (P ++ cm ++ s.data.toList.drop e') = put s b' e' (mkB cm) := by
    refine eq_of_list ?_
    rw [put_toList hes, mkB_list, mkB_list, hP, List.append_assoc]
  rw [heq, ← hz] at hTx
  exact hQ z w6 hTx (k1.trans k16)
end Go.Proofs.YtlfebfkphgelfaaDoor.Ka
