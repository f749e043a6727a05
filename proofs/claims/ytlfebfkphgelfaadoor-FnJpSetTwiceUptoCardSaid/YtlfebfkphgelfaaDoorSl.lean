/- The law's jpEnd and jpNew. No statement of the set is proved here. -/
import Derived.Test.YtlfebfkphgelfaaDoorSj
namespace Go.Proofs.YtlfebfkphgelfaaDoor.Lj
open Go Go.Proofs Go.RowKit Go.Proofs.YtlfebfkphgelfaaDoor.Rx Go.Proofs.YtlfebfkphgelfaaDoor.Tr Go.Proofs.YtlfebfkphgelfaaDoor.Pl Go.Proofs.YtlfebfkphgelfaaDoor.Pw
open Go.Proofs.YtlfebfkphgelfaaDoor.Sr (Sl slV tP pc storeP loadP zp PlAt RowIn places)
open Go.Proofs.YtlfebfkphgelfaaDoor.Ka (Kx nmS ixS s_key Led Mis New NoI Kx.take0)
open Go.Proofs.YtlfebfkphgelfaaDoor.Gk (Lead Miss)
open Go.Proofs.YtlfebfkphgelfaaDoor.Ed (AsIs)

variable {w w' : World} {s : ByteArray} {B : Nat → Prop}
theorem p_no3 {Q : Nat → List Value → World → Prop} {z0 : Nat} {c0 : List Value} (h0 : Blk w z0 c0 tP) (hl : c0.length = 5)
    (hQ : ∀ w', Kp (On z0) w w' → Q 0 [.agg zp.toArray, .int .i64 0, .bool false] w') :
    sat Tryd.prog (.effU (Instr.storeAt tP (Value.pointer (some ⟨z0, 0, none⟩)) (Value.agg #[(Value.int IntKind.i64 (0 : Int)), (Value.int IntKind.i64 (0 : Int)), (Value.int IntKind.i64 (0 : Int)), (Value.slice none 0 0), (Value.slice none 0 0)])) <|
      .effS (Instr.loadAt tP (Value.pointer (some ⟨z0, 0, none⟩))) (.agg (.cons (.int .i64) (.cons (.int .i64) (.cons (.int .i64) (.cons .slice (.cons .slice .nil)))))) fun (z25 : (Int × (Int × (Int × (((Option Addr) × (Nat × Nat)) × (((Option Addr) × (Nat × Nat)) × PUnit)))))) =>
      .leaf 0 [(Value.agg #[(Value.int IntKind.i64 (z25).1), (Value.int IntKind.i64 ((z25).2).1), (Value.int IntKind.i64 (((z25).2).2).1), (Value.slice (((((z25).2).2).2).1).1 ((((((z25).2).2).2).1).2).1 ((((((z25).2).2).2).1).2).2), (Value.slice ((((((z25).2).2).2).2).1).1 (((((((z25).2).2).2).2).1).2).1 (((((((z25).2).2).2).2).1).2).2)]), (Value.int IntKind.i64 (0 : Int)), (Value.bool false)]) Q w := by
  obtain ⟨w2, h4, h5, h6⟩ := storeP h0 hl 0 0 0 (none, 0, 0) (none, 0, 0)
  refine s_effU h4 ?_
  exact s_effS ((0 : Int), (0 : Int), (0 : Int), (none, 0, 0), (none, 0, 0), ()) (loadP h5) (s_leaf (hQ w2 h6))
theorem places_of {p : PT} (h : places s = some p) : bl s 0 = p.b ∧ WfV s p ∧ bl s p.e = s.size := by
  have hfin : val s (bl s 0) = some p ∧ bl s p.e = s.size := by
    unfold places at h
    cases hv : val s (bl s 0) with
    | none => rw [hv] at h; cases h
    | some p' =>
      rw [hv] at h
      have hpl : (if bl s p'.e = s.size then some p' else none) = some p := h
      split at hpl
      · rename_i g; cases hpl; exact ⟨rfl, g⟩
      · cases hpl
  obtain ⟨hpb, hwf⟩ := val_wf (bl_le s 0 (Nat.zero_le _)) hfin.1
  exact ⟨hpb.symm, hwf, hfin.2⟩
/-- What the law asks of new keys. -/
structure EndP (s : ByteArray) (keys : List ByteArray) (p0 last : PT) (n : Nat) : Prop where
  size : s.size ≤ 65536
  led : Led s p0 (keys.take n) last
  lt : n < keys.length
  no : ∀ key, keys[n]? = some key → ∀ p', ¬ Lead (nmS s) ixS last [key] p'
  once : OnceP s p0 keys
  asis : ∀ key ∈ keys.drop n, AsIs key ∧ NoI key
theorem jpEnd_any {q : Ka.Sl} {keys : List ByteArray} (hK : Kx w q keys) (hkz : ∀ key ∈ keys, key.size ≤ 140737488351232) (hkl : keys.length ≤ 140737488351232) :
    Calls Tryd.prog 18 #[.string s, Ka.slV q] w fun e w' => (∃ (k b e1 : Int) (na ka : Sl) (n : Int) (x : Bool), e = .returned (.tuple #[.agg (pc k b e1 na ka).toArray, .int .i64 n, .bool x]) ∧
      (x = true → ∃ (p0 last : PT) (m : Nat), k = last.k ∧ n = (m : Int) ∧ EndP s keys p0 last m)) ∧ Kp Off w w' := by
  refine laws_jpEnd.calls _ _ _ _ ?_
  unfold laws_jpEnd.t
  refine s_alloc ?_
  have b0 := Blk.new w zp tP
  have k0 : Kp Off w (w.alloc (.cells zp.toArray tP (0, 0))) := (Kp.refl Off w).alloc _
  have z0 : (w.alloc (.cells zp.toArray tP (0, 0))).heap.size = w.heap.size + 1 := by simp
  show sat _ _ _ (w.alloc (.cells zp.toArray tP (0, 0)))
  generalize w.alloc (.cells zp.toArray tP (0, 0)) = w1 at k0 b0 z0
  refine s_call (jpPlaces_any (s := s)) ?_
  rintro e w2 ⟨⟨k, b, e1, na, ka, x, rfl, hx⟩, k2⟩
  refine ⟨((k, b, e1, na, ka, ()), x, ()), rfl, s_alloc ?_⟩
  have b02 := k2.blk b0 id
  have k02 := k0.trans k2
  obtain ⟨w3, h3, c3, k3⟩ := storeP (Blk.new w2 zp tP) rfl k b e1 na ka
  refine s_effU h3 ?_
  have kc : Kp Off w2 w3 := (((Kp.refl (fun q => q = w2.heap.size) w2).alloc _).trans (k3.mono fun q _ h => h)).mono fun q hq h => by omega
  have b03 := kc.blk b02 id
  have k03 := k02.trans kc
  have hz2 := k2.size
  have hql := hK.len
  have hqc := hK.cap
  refine s_cut (fun z w' => Kp Off w3 w' ∧ (z.1 = true ∨ (z.1 = false ∧ x = true ∧ ∀ p, places s = some p → OnceP s p keys))) ?_ ?_
  · cases x with
    | false => exact sat_iteT.2 (s_leaf (by rw [if_pos rfl]; exact ⟨(true, ()), rfl, Kp.refl _ _, .inl rfl⟩))
    | true =>
      obtain ⟨hs, p, hpl, rfl, rfl, rfl, hp⟩ := hx rfl
      obtain ⟨hp0, hwf, hfin⟩ := places_of hpl
      refine sat_iteF.2 ?_
      refine s_eff ((p.k : Int), (p.b : Int), (p.e : Int), na, ka, ()) (loadP c3) ?_
      have hp3 := PlAt.any hp kc
      refine s_call (onceP_any hs hwf hp3 (hK.kp k03) hkz hkl) ?_
      rintro e w4 ⟨⟨b, rfl, hb⟩, k4⟩
      refine ⟨b, rfl, s_leaf ?_⟩
      rw [if_pos rfl]
      refine ⟨(!b, ()), rfl, k4, ?_⟩
      cases b with
      | false => exact .inl rfl
      | true => exact .inr ⟨rfl, rfl, fun p' h' => by rw [hpl] at h'; cases h'; exact hb rfl⟩
  rintro ⟨bb, u⟩ w4 ⟨k4, hbb⟩
  show sat _ (laws_jpEnd.t1 s q.1 q.2.1 q.2.2 ⟨w.heap.size, 0, none⟩ ⟨w2.heap.size, 0, none⟩ bb) _ _
  unfold laws_jpEnd.t1
  have k04 := k03.trans k4
  have b04 := k4.blk b03 id
  have c4 := k4.blk c3 id
  have done : ∀ {w5 w' : World}, Kp Off w w5 → Kp (On w.heap.size) w5 w' → Kp Off w w' := fun h1 h2 => h1.then h2 fun q hq e => by have : q = w.heap.size := e; omega
  rcases hbb with hbb | ⟨hbb, rfl, hun⟩
  · have hbb : bb = true := hbb
    subst hbb
    exact sat_iteT.2 (p_no3 b04 rfl fun w' k => ⟨rfl, ⟨_, _, _, _, _, _, false, rfl, fun g => by cases g⟩, done k04 k⟩)
  have hbb : bb = false := hbb
  subst hbb
  obtain ⟨hs, p, hpl, rfl, rfl, rfl, hp⟩ := hx rfl
  obtain ⟨hp0, hwf, hfin⟩ := places_of hpl
  have hU := hun p hpl
  have hp4 : PlAt Lj.Any w4 p (pc p.k p.b p.e na ka) := PlAt.any hp (kc.trans k4)
  refine sat_iteF.2 (s_eff ((p.k : Int), (p.b : Int), (p.e : Int), na, ka, ()) (loadP c4) ?_)
  refine s_call (reach_any hs hwf hp4 (hK.kp k04) hkz hkl) ?_
  rintro e w5 ⟨⟨na5, ka5, last, n, rfl, hn, hL, hno⟩, k5⟩
  refine ⟨(((last.k : Int), (last.b : Int), (last.e : Int), na5, ka5, ()), (n : Int), ()), rfl, s_alloc ?_⟩
  have k05 := k04.trans k5
  have b05 := k5.blk b04 id
  obtain ⟨w6, h6, c6, k6⟩ := storeP (Blk.new w5 zp tP) rfl last.k last.b last.e na5 ka5
  refine s_effU h6 ?_
  have kc6 : Kp Off w5 w6 := (((Kp.refl (fun q => q = w5.heap.size) w5).alloc _).trans (k6.mono fun q _ h => h)).mono fun q hq h => by omega
  have k06 := k05.trans kc6
  have b06 := kc6.blk b05 id
  refine s_chk ⟨Int.le_refl 0, by show (0 : Int) ≤ (n : Int); omega, by show (n : Int) ≤ _; omega⟩ ?_
  have hcall := jpFound_any (s := s) (keys := keys.take n) (Kx.take0 (hK.kp k06) n hn) (fun key hk => hkz key (List.mem_of_mem_take hk)) (by rw [List.length_take]; omega)
  refine s_call hcall ?_
  rintro e w7 ⟨⟨k7, b7, e7, na7, ka7, x7, rfl, _⟩, k67⟩
  refine ⟨((k7, b7, e7, na7, ka7, ()), x7, ()), rfl, s_alloc ?_⟩
  have k07 := k06.trans k67
  have b07 := k67.blk b06 id
  have c7 := k67.blk c6 id
  obtain ⟨w8, h8, c8, k8⟩ := storeP (Blk.new w7 zp tP) rfl k7 b7 e7 na7 ka7
  refine s_effU h8 ?_
  have kc8 : Kp Off w7 w8 := (((Kp.refl (fun q => q = w7.heap.size) w7).alloc _).trans (k8.mono fun q _ h => h)).mono fun q hq h => by omega
  have k08 := k07.trans kc8
  have b08 := kc8.blk b07 id
  have c78 := kc8.blk c7 id
  refine s_cut (fun z w' => w8 = w' ∧ (z.1 = true ∨ (z.1 = false ∧ n < keys.length))) ?_ ?_
  · cases x7 with
    | false => exact sat_iteT.2 (s_leaf (by rw [if_pos rfl]; exact ⟨(true, ()), rfl, rfl, .inl rfl⟩))
    | true =>
      refine sat_iteF.2 (s_leaf ?_)
      rw [if_pos rfl]
      refine ⟨(((n : Int) == ((q.2.1 : Nat) : Int)), ()), rfl, rfl, ?_⟩
      cases hq : ((n : Int) == ((q.2.1 : Nat) : Int)) with
      | true => exact .inl rfl
      | false =>
        refine .inr ⟨rfl, ?_⟩
        have := beq_eq_false_iff_ne.1 hq
        omega
  rintro ⟨bb, u⟩ w' ⟨rfl, hbb⟩
  show sat _ (laws_jpEnd.t2 q.1 q.2.1 q.2.2 ⟨w.heap.size, 0, none⟩ (((last.k : Int), (last.b : Int), (last.e : Int), na5, ka5, ()), (n : Int), ()) ⟨w5.heap.size, 0, none⟩ bb) _ _
  unfold laws_jpEnd.t2
  rcases hbb with hbb | ⟨hbb, hlt⟩
  · have hbb : bb = true := hbb
    subst hbb
    exact sat_iteT.2 (p_no3 b08 rfl fun w' k => ⟨rfl, ⟨_, _, _, _, _, _, false, rfl, fun g => by cases g⟩, done k08 k⟩)
  have hbb : bb = false := hbb
  subst hbb
  have hn5 : w.heap.size < w5.heap.size := by have := k2.size; have := kc.size; have := k4.size; have := k5.size; omega
  refine sat_iteF.2 (s_chk ⟨by show (0 : Int) ≤ (n : Int); omega, by show (n : Int) ≤ _; omega, by omega⟩ ?_)
  refine s_loop (fun m z w' => ∃ i : Nat, m = keys.length - n - i ∧ z = ((i : Int), ()) ∧ i ≤ keys.length - n ∧ (∀ j key, j < i → keys[n + j]? = some key → AsIs key ∧ NoI key) ∧ w8 = w') (keys.length - n) ((0 : Int), ()) rfl ⟨0, by omega, rfl, Nat.zero_le _, fun j key h => absurd h (Nat.not_lt_zero _), rfl⟩ ?_
  rintro m z w9 ⟨i, rfl, rfl, hi, hall, rfl⟩
  show sat _ (laws_jpEnd.t3 q.1 q.2.1 q.2.2 ⟨w.heap.size, 0, none⟩ (((last.k : Int), (last.b : Int), (last.e : Int), na5, ka5, ()), (n : Int), ()) ⟨w5.heap.size, 0, none⟩ (i : Int)) _ _
  unfold laws_jpEnd.t3
  have hDr := (hK.kp k08).drop n hn
  have hdl : (keys.drop n).length = keys.length - n := List.length_drop
  have no : ∀ {Q : Nat → List Value → World → Prop}, (∀ w', Kp Off w w' → Q 0 [.agg zp.toArray, .int .i64 0, .bool false] w') → _ := fun {Q} hQ => p_no3 (Q := Q) b08 rfl fun w' k => hQ w' (done k08 k)
  refine s_iteD (fun hlt2 => ?_) (fun hge => ?_)
  · have hlt2 : (i : Int) < ((Int.toNat ((q.2.1 : Nat) : Int) - Int.toNat (n : Int) : Nat) : Int) := hlt2
    rw [Int.toNat_natCast, Int.toNat_natCast] at hlt2
    have hin : n + i < keys.length := by omega
    have hkey : (keys.drop n)[i]? = some keys[n + i] := by rw [List.getElem?_drop]; exact List.getElem?_eq_getElem hin
    have hkz1 := hkz _ (List.getElem_mem hin)
    refine s_key hDr hkey ?_
    refine s_call (asIs_any hkz1) ?_
    rintro e w10 ⟨⟨b, rfl, hb⟩, rfl⟩
    refine ⟨b, rfl, ?_⟩
    cases b with
    | false => exact sat_iteT.2 (no fun w' k => by rw [if_neg (by decide)]; exact ⟨rfl, ⟨_, _, _, _, _, _, false, rfl, fun g => by cases g⟩, k⟩)
    | true =>
      obtain ⟨hA, hpos⟩ := hb rfl
      refine sat_iteF.2 (s_chk ⟨by omega, by omega⟩ (s_iteE (fun _ => no fun w' k => by rw [if_neg (by decide)]; exact ⟨rfl, ⟨_, _, _, _, _, _, false, rfl, fun g => by cases g⟩, k⟩) (fun h91 => s_leaf ?_)))
      rw [if_pos rfl]
      have w1' : IntKind.wrap IntKind.i64 ((i : Int) + 1) = ((i + 1 : Nat) : Int) := by rw [wrap_in (by omega) (by omega)]; omega
      rw [w1']
      refine ⟨keys.length - n - (i + 1), (((i + 1 : Nat) : Int), ()), rfl, by omega, i + 1, rfl, rfl, by omega, fun j key hj hk => ?_, rfl⟩
      rcases Nat.lt_or_ge j i with g | g
      · exact hall j key g hk
      · have : j = i := by omega
        subst this
        rw [List.getElem?_eq_getElem hin] at hk
        cases hk
        exact ⟨hA, hpos, h91⟩
  · have hge : ¬ (i : Int) < ((Int.toNat ((q.2.1 : Nat) : Int) - Int.toNat (n : Int) : Nat) : Int) := hge
    rw [Int.toNat_natCast, Int.toNat_natCast] at hge
    refine s_eff ((last.k : Int), (last.b : Int), (last.e : Int), na5, ka5, ()) (loadP c78) ?_
    obtain ⟨w10, h10, c10, k10⟩ := storeP b08 rfl last.k last.b last.e na5 ka5
    refine s_effU h10 (s_effS ((last.k : Int), (last.b : Int), (last.e : Int), na5, ka5, ()) (loadP c10) (s_leaf ?_))
    rw [if_neg (by decide)]
    refine ⟨rfl, ⟨last.k, last.b, last.e, na5, ka5, n, true, rfl, fun _ => ⟨p, last, n, rfl, rfl, ⟨hs, ⟨hp0, hwf, hfin, hL⟩, hlt, hno, hU, fun key hk => ?_⟩⟩⟩, done k08 k10⟩
    obtain ⟨j, hj⟩ := List.mem_iff_getElem?.1 hk
    rw [List.getElem?_drop] at hj
    have := (List.getElem?_eq_some_iff.1 hj).1
    exact hall j key (by omega) hj
theorem jpNew_any {q : Ka.Sl} {keys : List ByteArray} (hK : Kx w q keys) (hkz : ∀ key ∈ keys, key.size ≤ 140737488351232) (hkl : keys.length ≤ 140737488351232) :
    Calls Tryd.prog 7 #[.string s, Ka.slV q] w fun e w' => (∃ (n : Int) (x : Bool), e = .returned (.tuple #[.int .i64 n, .bool x]) ∧
      (x = true → ∃ (p0 last : PT) (m : Nat), n = (m : Int) ∧ last.k = 6 ∧ EndP s keys p0 last m)) ∧ Kp Off w w' := by
  refine laws_jpNew.calls _ _ _ _ ?_
  unfold laws_jpNew.t
  refine s_call (jpEnd_any (s := s) hK hkz hkl) ?_
  rintro e w1 ⟨⟨k, b, e1, na, ka, n, x, rfl, hx⟩, k1⟩
  refine ⟨((k, b, e1, na, ka, ()), n, x, ()), rfl, s_alloc ?_⟩
  obtain ⟨w2, h2, c2, k2⟩ := storeP (Blk.new w1 zp tP) rfl k b e1 na ka
  refine s_effU h2 ?_
  have kc : Kp Off w1 w2 := (((Kp.refl (fun q => q = w1.heap.size) w1).alloc _).trans (k2.mono fun q _ h => h)).mono fun q hq h => by omega
  refine s_drew ?_
  have kd : Kp Off w2 w2.drew := (Kp.refl Off w2).drew
  have c3 := kd.blk c2 id
  have K := (k1.trans kc).trans kd
  cases x with
  | false => exact sat_iteF.2 (s_leaf ⟨rfl, ⟨n, false, rfl, fun g => by cases g⟩, K⟩)
  | true =>
    refine sat_iteT.2 (s_load k (c3.cell 0) (s_leaf ⟨rfl, ⟨n, (k == (6 : Int)), rfl, fun g => ?_⟩, K⟩))
    obtain ⟨p0, last, m, h1, h2, h3⟩ := hx rfl
    have : k = 6 := by simpa using g
    exact ⟨p0, last, m, h2, by omega, h3⟩
end Go.Proofs.YtlfebfkphgelfaaDoor.Lj
