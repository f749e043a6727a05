/- The law FnJpDeleteGet: the law's walk. No condition beyond the statement's own guards. -/
import Derived.Test.YtlfebfkphgelfaaGreatDoorWE
import Derived.Test.YtlfebfkphgelfaaGreatDoorWC
import Derived.Test.YtlfebfkphgelfaaGreatDoorWL
namespace Go.Proofs.YtlfebfkphgelfaaGreatDoor.LawJpDeleteGet
open Go Go.Proofs Go.RowKit Go.Proofs.YtlfebfkphgelfaaGreatDoor.Rx Go.Proofs.YtlfebfkphgelfaaGreatDoor.Tr Go.Proofs.YtlfebfkphgelfaaGreatDoor.Pl Go.Proofs.YtlfebfkphgelfaaGreatDoor.Pw Go.Proofs.YtlfebfkphgelfaaGreatDoor.Lj
open Go.Proofs.YtlfebfkphgelfaaGreatDoor.Sr (tP pc storeP loadP zp PlAt places)
open Go.Proofs.YtlfebfkphgelfaaGreatDoor.Ka (Kx nmS Led DelC)
open Go.Proofs.YtlfebfkphgelfaaGreatDoor.Ed (put put_size)

theorem nm_size {s : ByteArray} (n : Nat × Nat) : (nmS s n).size ≤ 4 * s.size := by
  unfold nmS
  have hz : (s.extract (n.1 + 1) (n.2 - 1)).size ≤ s.size := by rw [ByteArray.size_extract]; omega
  cases h : Uq.uo (s.extract (n.1 + 1) (n.2 - 1)) 0 with
  | none => exact Nat.zero_le _
  | some l =>
    have := Ka.uo_len _ 0 l (Nat.le_refl _) h
    show l.toArray.size ≤ _
    rw [List.size_toArray]; omega
/-- The member that the keys lead to. -/
theorem del_of {s : ByteArray} {p0 p : PT} {ks1 : List ByteArray} {k : ByteArray} {b r : Nat} {ns : List (Nat × Nat)} {ks : List PT} (h1 : Led s p0 ks1 (.mk 6 b r ns ks)) (h2 : Gk.Lead (nmS s) Ka.ixS (.mk 6 b r ns ks) [k] p) :
    ∃ (t : Nat) (n : Nat × Nat) (f : Bool) (jt : Nat), DelC s p0 ks1 k b r ns ks t n p f jt ∧ (∀ A E, Ed.Hole s f jt (ks.drop (t + 1)) p A E → Ed.HoleAt s A E true (b + 1) ks t) ∧
      (∀ (t' : Nat) (n' : Nat × Nat), t' < t → ns[t']? = some n' → n'.2 < jt) ∧ (∀ (t' : Nat) (n' : Nat × Nat), t < t' → ns[t']? = some n' → bl s p.e < n'.1) := by
  cases h2 with
  | @mem _ _ _ _ t n p1 _ _ _ a1 a2 a3 a4 a5 =>
    cases a5
    obtain ⟨w1, w2, w3, w4⟩ := Gk.wf_obj h1.wfp
    obtain ⟨f, jt, c1, c2, c3, c4, c5, c6, _⟩ := Ed.hole_ctx ks ns true (b + 1) r t n p w4 a1 a2
    refine ⟨t, n, f, jt, ⟨h1, a1, a2, a3, a4, c2, fun hf => (c3 hf).2, fun hf => ?_⟩, c1, c5, c6⟩
    rcases c4 hf with ⟨g, _⟩ | g
    · cases g
    · exact g
theorem walk_q {s : ByteArray} {q : Ka.Sl} {keys : List ByteArray} {W : World} {ak : Addr} (hK : Kx W q keys) (hC : Je.Cv W) (hT : Je.Lt W) (hE : Je.Ev W Je.gE) (hk : Ka.Ek W ak) :
    Calls Tryz.prog 4 #[.string s, Ka.slV q] W fun e w' => e = .returned (.bool true) ∧ RowKit.Below W.heap.size W w' := by
  refine laws_FnJpDeleteGet.calls _ _ _ _ ?_
  unfold laws_FnJpDeleteGet.t
  have hl := hK.len
  have hqc := hK.cap
  have done : ∀ (w1 : World), Kp Off W w1 → (Ending.returned (retVal [.bool true]) = .returned (.bool true) ∧ RowKit.Below W.heap.size W w1) := fun w1 h => ⟨rfl, h.belowOff⟩
  refine s_cut (fun z w' => (z.1 = true ∨ (z.1 = false ∧ keys.length ≤ 2147483647 ∧ ∀ key ∈ keys, key.size ≤ 140737488351232)) ∧ W = w') (s_iteD (fun _ => s_leaf ?_) (fun _ => ?_)) ?_
  · rw [if_pos rfl]; exact ⟨(true, ()), rfl, .inl rfl, rfl⟩
  · refine s_call (fits1_any hK) ?_
    rintro e w1 ⟨⟨b, rfl, hb⟩, rfl⟩
    refine ⟨b, rfl, s_leaf ?_⟩
    rw [if_pos rfl]
    refine ⟨(!b, ()), rfl, ?_, rfl⟩
    cases b with
    | false => exact .inl rfl
    | true => exact .inr ⟨rfl, hb rfl⟩
  rintro ⟨bb, u⟩ w' ⟨hbb, rfl⟩
  show sat _ (laws_FnJpDeleteGet.t1 s q.1 q.2.1 q.2.2 bb) _ _
  unfold laws_FnJpDeleteGet.t1
  rcases hbb with hbb | ⟨hbb, hkl, hkz⟩
  · have hbb : bb = true := hbb
    subst hbb
    exact sat_iteT.2 (s_leaf ⟨rfl, done W (Kp.refl _ _)⟩)
  have hbb : bb = false := hbb
  subst hbb
  refine sat_iteF.2 ?_
  have place : ∀ (w1 : World) (k b e1 : Int) (na ka : Sr.Sl), ∃ w2, (Instr.storeAt tP (.pointer (some ⟨w1.heap.size, 0, none⟩)) (.agg (pc k b e1 na ka).toArray)).run Tryz.prog (w1.alloc (.cells zp.toArray tP (0, 0))) = .ok () w2 ∧ Blk w2 w1.heap.size (pc k b e1 na ka) tP ∧ Kp Off w1 w2 := by
    intro w1 k b e1 na ka
    obtain ⟨w2, h2, c2, k2⟩ := storeP (Blk.new w1 zp tP) rfl k b e1 na ka
    exact ⟨w2, h2, c2, (((Kp.refl (fun q => q = w1.heap.size) w1).alloc _).trans (k2.mono fun q _ h => h)).mono fun q hq h => by omega⟩
  have found : ∀ (w1 : World) (e v : ByteArray) (k a : Int), ∃ w2, (Instr.storeAt Ka.tFd (.pointer (some ⟨w1.heap.size, 0, none⟩)) (.agg (Ka.fdc e v k a).toArray)).run Tryz.prog (w1.alloc (.cells (Ka.fdc (ByteArray.mk #[]) (ByteArray.mk #[]) 0 0).toArray Ka.tFd (0, 0))) = .ok () w2 ∧ Blk w2 w1.heap.size (Ka.fdc e v k a) Ka.tFd ∧ Kp Off w1 w2 := by
    intro w1 e v k a
    obtain ⟨w2, h2, c2, k2⟩ := Ka.storeFd (Blk.new w1 (Ka.fdc (ByteArray.mk #[]) (ByteArray.mk #[]) 0 0) Ka.tFd) rfl e v k a
    exact ⟨w2, h2, c2, (((Kp.refl (fun q => q = w1.heap.size) w1).alloc _).trans (k2.mono fun q _ h => h)).mono fun q hq h => by omega⟩
  refine s_call (Nt.jpDeep_any (s := s) hK hkz (by omega)) ?_
  rintro e w1 ⟨⟨k, b, e1, na, ka, x, rfl, hx⟩, k1⟩
  refine ⟨((k, b, e1, na, ka, ()), x, ()), rfl, s_alloc ?_⟩
  obtain ⟨w2, h2, c2, k2⟩ := place w1 k b e1 na ka
  refine s_effU h2 ?_
  have k02 := k1.trans k2
  cases x with
  | false => exact sat_iteT.2 (s_leaf ⟨rfl, done w2 k02⟩)
  | true =>
  obtain ⟨p0, p, hD⟩ := hx rfl
  have hs := hD.size
  have hpos : 0 < keys.length := List.length_pos_iff.2 hD.ne
  obtain ⟨m, hm⟩ : ∃ m, keys.length = m + 1 := ⟨keys.length - 1, by omega⟩
  have hkey : keys[m]? = some keys[m] := List.getElem?_eq_getElem (by omega)
  generalize hkk : keys[m] = kk at hkey
  have hkeys : keys = keys.take m ++ [kk] := by
    have h1 : keys.take (m + 1) = keys.take m ++ [kk] := by rw [List.take_add_one, hkey]; rfl
    rw [← h1, ← hm, List.take_length]
  have htl : (keys.take m).length = m := by rw [List.length_take]; omega
  have eI : IntKind.wrap IntKind.i64 (((q.2.1 : Nat) : Int) - (1 : Int)) = (m : Int) := by rw [wrap_in (by omega) (by omega)]; omega
  refine sat_iteF.2 ?_
  simp only [eI]
  refine s_chk ⟨Int.le_refl 0, by omega, by omega⟩ ?_
  have htk : ∀ {w : World}, Kp Off W w → Kx w ((if q.2.2 = 0 then q.1 else q.1.map fun y => y.add 0), m - 0, q.2.2 - 0) (keys.take m) := fun k => Ka.Kx.take0 (hK.kp k) m (by omega)
  have hcall := jpFoundP_any (s := s) (htk k02) (fun key hk => hkz key (List.mem_of_mem_take hk)) (by rw [htl]; omega)
  refine s_call hcall ?_
  rintro e w5 ⟨⟨k5, b5, e5, na5, ka5, x5, rfl, hx5, hf5⟩, k25⟩
  refine ⟨((k5, b5, e5, na5, ka5, ()), x5, ()), rfl, s_alloc ?_⟩
  obtain ⟨w6, h6, c6, k6⟩ := place w5 k5 b5 e5 na5 ka5
  refine s_effU h6 ?_
  have k06 := (k02.trans k25).trans k6
  refine s_load k5 (by rw [addr_add, Nat.zero_add, c6.cell]; rfl) (s_iteN (fun _ => s_leaf ⟨rfl, done w6 k06⟩) (fun h6' => ?_))
  have hx5t : x5 = true := by
    cases x5 with
    | true => rfl
    | false => have := hf5 rfl; omega
  obtain ⟨_, p0', p', hled', _, _, hpl', hk5, _⟩ := hx5 hx5t
  have hp0 : p0' = p0 := by
    have := hD.pl
    rw [hpl'] at this
    exact Option.some.inj this
  subst hp0
  have hL0 := hD.led.lead
  rw [hkeys] at hL0
  obtain ⟨m1, l1, l2⟩ := Ka.lead_split hL0
  have := lead_uniqs l1 hled'.lead
  subst this
  obtain ⟨kq, b', r', ns, ks⟩ := m1
  have hkq : kq = 6 := by have hk5 : k5 = (kq : Int) := hk5; omega
  subst hkq
  obtain ⟨t, n, f, jt, hdc, hat, hpre, hsuf⟩ := del_of hled' l2
  have hU : OnceP s p0' (keys.take m ++ [kk]) := by rw [← hkeys]; exact hD.once
  have hk91 : 0 < kk.size → bt kk 0 ≠ 91 := fun hp => hD.nix m _ kk hkey hled'.lead rfl hp
  have hesc : ∀ j, j < kk.size → Ut.bn kk j ≠ 92 := fun j hj => by
    have h1 := hD.esc kk (by rw [hkeys]; simp) j hj
    rw [Ut.bt_bn] at h1
    omega
  have hkks : kk.size ≤ 4 * s.size := by rw [← hdc.hk]; exact nm_size n
  have hKa : ∀ {w : World}, Kp Off W w → Kx w q (keys.take m ++ [kk]) := fun k => by rw [← hkeys]; exact hK.kp k
  refine s_call (Ka.jpDelete_any (by omega) hdc (hC.off k06) (hT.off' k06) (hE.kp k06 id) (hk.kp k06) (hKa k06) (by omega) hesc hk91 (by rw [htl]; omega)) ?_
  rintro e w7 ⟨A, E, rfl, hH, hAE, hEs, k7⟩
  have k07 := k06.trans k7
  have hcut := Ed.cut_put (A := A) (E := E) hAE hEs
  obtain ⟨p0'', pq, hL', hq6, hmis⟩ := Ed.del_led hdc.led hU hdc.h1 hdc.h2 hdc.hk hcut hH (hat A E hH) hdc.ctx hpre hsuf
  have hz := put_size (t := ByteArray.mk #[]) hAE hEs
  have hz0 : (ByteArray.mk #[]).size = 0 := rfl
  generalize put s A E (ByteArray.mk #[]) = out at hcut hL' hmis hz
  refine ⟨out, rfl, ?_⟩
  have hmis' : Ka.Mis out p0'' keys := by rw [hkeys]; exact hmis
  refine s_call (Ka.jpGet_miss (by omega) (hC.off k07) (hT.off' k07) (hE.kp k07 id) (hk.kp k07) (hK.kp k07) hmis') ?_
  rintro e w8 ⟨rfl, k8⟩
  have k08 := k07.trans k8
  refine ⟨((ByteArray.mk #[], ByteArray.mk #[], (0 : Int), (0 : Int), ()), false, ()), rfl, s_alloc ?_⟩
  obtain ⟨w9, h9, c9, k9⟩ := found w8 (ByteArray.mk #[]) (ByteArray.mk #[]) 0 0
  refine s_effU h9 (s_chk ⟨Int.le_refl 0, by omega, by omega⟩ ?_)
  have k09 := k08.trans k9
  have hcall2 := Ka.jpGet_any (by omega) (hC.off k09) (hT.off' k09) (hE.kp k09 id) (htk k09) hL'
  refine s_call hcall2 ?_
  rintro e w10 ⟨rfl, k10⟩
  have c910 := k10.blk c9 id
  have k010 := k09.trans k10
  refine ⟨((ByteArray.mk #[], out.extract (Ka.rb pq) (Ka.re pq), Ka.jk pq.k, (pq.e : Int), ()), true, ()), rfl, s_alloc ?_⟩
  obtain ⟨w11, h11, c11, k11⟩ := found w10 (ByteArray.mk #[]) (out.extract (Ka.rb pq) (Ka.re pq)) (Ka.jk pq.k) (pq.e : Int)
  refine s_effU h11 ?_
  have k011 := k010.trans k11
  have c911 := k11.blk c910 id
  refine sat_iteT.2 (s_load (0 : Int) (by rw [addr_add, Nat.zero_add, c911.cell]; rfl) (s_iteE (fun _ => sat_iteT.2 (s_load (Ka.jk pq.k) (by rw [addr_add, Nat.zero_add, c11.cell]; rfl) (s_leaf ⟨rfl, ?_⟩))) (fun g => absurd rfl g)))
  rw [hq6]
  show Ending.returned (retVal [.bool ((Ka.jk 6 : Int) == (3 : Int))]) = _ ∧ _
  have : ((Ka.jk 6 : Int) == (3 : Int)) = true := by decide
  rw [this]
  exact done w11 k011
open Go.ChangeShapes Go.WideShapes
set_option maxRecDepth 100000 in
theorem walk {H : Type} {enc : TypeId × Value → H} {base : Nat} {spare : Nat → Bool} {held : Bool} {r : Reach} {b0 : Nat} (s : ByteArray) (v : Value) (W : World) {d : DataW H} {p : List MemPlace} (_ : s.size ≤ 140737488351232)
    (hv : Value.okWide Tryz.prog W r b0 Lv.tKs v) (h : DataW.Trod enc Tryz.prog W base spare held Lv.tKs v d p) (hL : laidMetH Tryz.prog Rows.fnJpDeleteGetRow.laid W) :
    Calls Tryz.prog 4 #[.string s, v] W fun e w' => e = .returned (.bool true) ∧ RowKit.Below W.heap.size W w' := by
  have hM := Lv.laid_of_H hL (by kernel_rfl)
  obtain ⟨q, keys, rfl, hK⟩ := Lv.keys_open hv h
  obtain ⟨ak, hak⟩ := Lv.evK (Lv.laidMet_drop 7 _ hM)
  exact walk_q hK (Lv.cv_of (Lv.laidMet_drop 5 _ hM)) (Lv.lt_of (Lv.laidMet_drop 6 _ hM)) (Lv.evE (Lv.laidMet_drop 13 _ hM)) hak
end Go.Proofs.YtlfebfkphgelfaaGreatDoor.LawJpDeleteGet
