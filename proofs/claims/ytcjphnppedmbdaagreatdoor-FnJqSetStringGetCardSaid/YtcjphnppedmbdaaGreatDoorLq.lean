/- What keys lead to, as the laws of the later functions ask (jqFound). No statement of the set is proved here. -/
import Derived.Test.YtcjphnppedmbdaaGreatDoorMI
import Derived.Test.YtcjphnppedmbdaaGreatDoorTa
namespace Go.Proofs.YtcjphnppedmbdaaGreatDoor.Ka
open Go Go.Proofs.YtcjphnppedmbdaaGreatDoor.Rx Go.Proofs.YtcjphnppedmbdaaGreatDoor.Pl Go.Proofs.YtcjphnppedmbdaaGreatDoor.Pw
open Go.Proofs.YtcjphnppedmbdaaGreatDoor.Gk (Lead)
variable {nm : Nat × Nat → ByteArray} {ix : ByteArray → Option Nat}
theorem Lead.split : ∀ {ks1 ks2 : List ByteArray} {p q : PT}, Lead nm ix p (ks1 ++ ks2) q → ∃ x, Lead nm ix p ks1 x ∧ Lead nm ix x ks2 q
  | [], _, p, _, h => ⟨p, .nil, h⟩
  | _ :: _, _, _, _, h => by
    cases h with
    | mem a b c d e =>
      obtain ⟨x, h1, h2⟩ := Lead.split e
      exact ⟨x, .mem a b c d h1, h2⟩
    | elt a b e =>
      obtain ⟨x, h1, h2⟩ := Lead.split e
      exact ⟨x, .elt a b h1, h2⟩
theorem Lead.uniqs : ∀ {ks : List ByteArray} {p a b : PT}, Lead nm ix p ks a → Lead nm ix p ks b → a = b
  | [], _, _, _, h1, h2 => by cases h1; cases h2; rfl
  | key :: ks, p, a, b, h1, h2 => by
    obtain ⟨x, x1, x2⟩ := Lead.split (ks1 := [key]) (ks2 := ks) h1
    obtain ⟨y, y1, y2⟩ := Lead.split (ks1 := [key]) (ks2 := ks) h2
    have := Lead.uniq x1 y1
    subst this
    exact Lead.uniqs x2 y2
end Go.Proofs.YtcjphnppedmbdaaGreatDoor.Ka
namespace Go.Proofs.YtcjphnppedmbdaaGreatDoor.Lj
open Go Go.Proofs Go.RowKit Go.Proofs.YtcjphnppedmbdaaGreatDoor.Rx Go.Proofs.YtcjphnppedmbdaaGreatDoor.Tr Go.Proofs.YtcjphnppedmbdaaGreatDoor.Pl Go.Proofs.YtcjphnppedmbdaaGreatDoor.Pw
open Go.Proofs.YtcjphnppedmbdaaGreatDoor.Sr (slV tBs tB Sl tP pc PlAt AllAt RowIn spanC loadP storeP zp p_no p_yes places places_any)
open Go.Proofs.YtcjphnppedmbdaaGreatDoor.Ka (ixS nmS Kx s_key Led)
open Go.Proofs.YtcjphnppedmbdaaGreatDoor.Gk (Lead)

variable {w w' : World} {s : ByteArray} {B : Nat → Prop}
theorem s_both {Q : Nat → List Value → World → Prop} {a b : T} (ha : sat Tryz.prog a Q w) (hb : sat Tryz.prog b Q w) : sat Tryz.prog (.both a b) Q w := ⟨ha, hb⟩
theorem s_here {Q : Nat → List Value → World → Prop} {K : World → T} (h : sat Tryz.prog (K w) Q w) : sat Tryz.prog (.here K) Q w := h
theorem jqPlace_any : Calls Tryz.prog 45 #[.string s] w fun e w' => (∃ (k b e1 : Int) (na ka : Sl) (x : Bool), e = .returned (.tuple #[.agg (pc k b e1 na ka).toArray, .bool x]) ∧
    (x = true → s.size ≤ 16384 ∧ ∃ p, places s = some p ∧ k = p.k ∧ b = p.b ∧ e1 = p.e ∧ PlAt (fun q => w.heap.size ≤ q) w' p (pc k b e1 na ka))) ∧ Kp Off w w' := by
  refine laws_jqPlace.calls _ ?_
  unfold laws_jqPlace.t
  refine s_alloc ?_
  have hb := Blk.new w zp tP
  have k0 : Kp Off w (w.alloc (.cells zp.toArray tP (0, 0))) := (Kp.refl Off w).alloc _
  have hz : (w.alloc (.cells zp.toArray tP (0, 0))).heap.size = w.heap.size + 1 := by simp
  refine s_iteD (fun h => ?_) (fun h => ?_)
  · refine p_no hb rfl fun w' k => ⟨rfl, ⟨_, _, _, _, _, false, rfl, fun h => by cases h⟩, k0.then k fun q hq e => by have : q = w.heap.size := e; omega⟩
  · refine s_call (places_any (by omega)) ?_
    rintro e w1 ⟨k, b, e1, na, ka, rfl, k1, hp⟩
    refine ⟨((k, b, e1, na, ka, ()), (places s).isSome, ()), rfl, ?_⟩
    obtain ⟨w2, h2, h3, h4⟩ := storeP (k1.blk hb (fun h => h)) rfl k b e1 na ka
    refine s_effU h2 ?_
    refine s_effS (k, b, e1, na, ka, ()) (loadP h3) (s_leaf ⟨rfl, ⟨k, b, e1, na, ka, _, rfl, fun hx => ⟨by omega, ?_⟩⟩, ?_⟩)
    · obtain ⟨p, hpl⟩ := Option.isSome_iff_exists.1 hx
      have hpp := hp p hpl
      obtain ⟨e1', e2', e3'⟩ : k = p.k ∧ b = p.b ∧ e1 = p.e := by
        obtain ⟨k', b', f', ns', ks'⟩ := p
        unfold PlAt at hpp
        obtain ⟨na', ka', xs, g1, _⟩ := hpp
        unfold pc at g1
        simp only [List.cons.injEq, Value.int.injEq, true_and] at g1
        exact ⟨g1.1, g1.2.1, g1.2.2.1⟩
      refine ⟨p, hpl, e1', e2', e3', Sr.PlAt.kp h4 (fun q _ hq => ?_) hpp⟩
      have hq : (w.alloc (.cells zp.toArray tP (0, 0))).heap.size ≤ q := hq
      rw [hz] at hq
      exact ⟨by omega, fun e => by have : q = w.heap.size := e; omega⟩
    · exact (k0.trans k1).then h4 fun q hq e => by have : q = w.heap.size := e; omega
/-- Down by all keys. -/
theorem seek_any {p : PT} {na ka : Sl} {q : Ka.Sl} {keys : List ByteArray} (hs : s.size ≤ 65536) (hw : WfV s p) (hp : PlAt B w p (pc p.k p.b p.e na ka)) (hK : Kx w q keys) (hkz : ∀ key ∈ keys, key.size ≤ 140737488351232) (hkl : keys.length ≤ 140737488351232) :
    Calls Tryz.prog 46 #[.string s, .agg (pc p.k p.b p.e na ka).toArray, Ka.slV q] w fun e w' => (∃ (k b e1 : Int) (na ka : Sl) (ok : Bool), e = .returned (.tuple #[.agg (pc k b e1 na ka).toArray, .bool ok]) ∧
      (ok = true → ∃ p', Lead (nmS s) ixS p keys p' ∧ k = p'.k ∧ b = p'.b ∧ e1 = p'.e ∧ PlAt B w' p' (pc p'.k p'.b p'.e na ka))) ∧ Kp Off w w' := by
  refine spec_Seek.calls _ _ _ _ _ _ _ _ _ _ _ _ _ ?_
  unfold spec_Seek.t
  refine s_alloc ?_
  have b0 := Blk.new w (pc p.k p.b p.e na ka) tP
  have k0 : Kp Off w (w.alloc (.cells (pc p.k p.b p.e na ka).toArray tP (0, 0))) := (Kp.refl Off w).alloc _
  have z0 : (w.alloc (.cells (pc p.k p.b p.e na ka).toArray tP (0, 0))).heap.size = w.heap.size + 1 := by simp
  show sat _ _ _ (w.alloc (.cells (pc p.k p.b p.e na ka).toArray tP (0, 0)))
  generalize w.alloc (.cells (pc p.k p.b p.e na ka).toArray tP (0, 0)) = w1 at k0 b0 z0
  refine s_alloc ?_
  have b1 := Blk.new w1 zp tP
  have k1 : Kp Off w1 (w1.alloc (.cells zp.toArray tP (0, 0))) := (Kp.refl Off w1).alloc _
  show sat _ _ _ (w1.alloc (.cells zp.toArray tP (0, 0)))
  generalize w1.alloc (.cells zp.toArray tP (0, 0)) = w2 at k1 b1
  rw [z0] at b1 ⊢
  have b02 := k1.blk b0 id
  have k02 := k0.trans k1
  have hp2 : PlAt (fun b => B b ∧ b < w.heap.size) w2 p (pc p.k p.b p.e na ka) := Sr.PlAt.kp k02 (fun b _ hb => ⟨hb, id⟩) (Sr.PlAt.kp (B' := fun b => B b ∧ b < w.heap.size) (Kp.refl Off w) (fun b hb hB => ⟨⟨hB, hb⟩, id⟩) hp)
  have hql := hK.len
  refine s_loop (fun k z w' => ∃ (i : Nat) (pi : PT) (na ka : Sl), k = keys.length - i ∧ z = ((i : Int), ()) ∧ i ≤ keys.length ∧ Lead (nmS s) ixS p (keys.take i) pi ∧ PlAt (fun b => B b ∧ b < w.heap.size) w' pi (pc pi.k pi.b pi.e na ka) ∧ Blk w' w.heap.size (pc pi.k pi.b pi.e na ka) tP ∧ Blk w' (w.heap.size + 1) zp tP ∧ Kp Off w w') keys.length ((0 : Int), ()) rfl ⟨0, p, na, ka, rfl, rfl, Nat.zero_le _, .nil, hp2, b02, b1, k02⟩ ?_
  clear hp hp2 b0 k0 b1 k1 b02 k02 z0
  rintro k z w3 ⟨i, pi, na, ka, rfl, rfl, hi, hL, hpi, hb, hz, hk⟩
  show sat _ (spec_Seek.t1 s q.1 q.2.1 ⟨w.heap.size, 0, none⟩ ⟨w.heap.size + 1, 0, none⟩ (i : Int)) _ _
  unfold spec_Seek.t1
  have hwi := (Ka.Lead.wf hL hw).1
  refine s_iteD (fun hlt => ?_) (fun hge => ?_)
  · have hin : i < keys.length := by omega
    have hkey : keys[i]? = some keys[i] := List.getElem?_eq_getElem hin
    have hkz1 := hkz _ (List.getElem_mem hin)
    refine s_key (hK.kp hk) hkey ?_
    refine s_eff ((pi.k : Int), (pi.b : Int), (pi.e : Int), na, ka, ()) (loadP hb) ?_
    refine s_call (step_any hs hwi hpi hkz1) ?_
    rintro e w4 ⟨⟨k', b', e', na', ka', ok, rfl, hok, _⟩, k4⟩
    refine ⟨((k', b', e', na', ka', ()), ok, ()), rfl, s_alloc ?_⟩
    have b4 := k4.blk hb id
    have z4 := k4.blk hz id
    have K4 := hk.trans k4
    have hl4 := z4.lt
    obtain ⟨w5, h5, c5, k5⟩ := storeP (Blk.new w4 zp tP) rfl k' b' e' na' ka'
    refine s_effU h5 ?_
    have kc : Kp Off w4 w5 := (((Kp.refl (fun q => q = w4.heap.size) w4).alloc _).trans (k5.mono fun q _ h => h)).mono fun q hq h => by omega
    have K5 := K4.trans kc
    have b5 := kc.blk b4 id
    have z5 := kc.blk z4 id
    cases ok with
    | false =>
      refine sat_iteT.2 (p_no z5 rfl fun w' k => ?_)
      rw [if_neg (by decide)]
      exact ⟨rfl, ⟨_, _, _, _, _, false, rfl, fun g => by cases g⟩, K5.then k fun q hq e => by have : q = w.heap.size + 1 := e; omega⟩
    | true =>
      obtain ⟨p', hL', rfl, rfl, rfl, hp'⟩ := hok rfl
      refine sat_iteF.2 ?_
      refine s_eff ((p'.k : Int), (p'.b : Int), (p'.e : Int), na', ka', ()) (loadP c5) ?_
      obtain ⟨w6, h6, c6, k6⟩ := storeP b5 rfl p'.k p'.b p'.e na' ka'
      refine s_effU h6 (s_leaf ?_)
      rw [if_pos rfl]
      have w1' : IntKind.wrap IntKind.i64 ((i : Int) + 1) = ((i + 1 : Nat) : Int) := by rw [wrap_in (by omega) (by omega)]; omega
      rw [w1']
      refine ⟨keys.length - (i + 1), (((i + 1 : Nat) : Int), ()), rfl, by omega, i + 1, p', na', ka', rfl, rfl, hin, ?_, ?_, c6, k6.blk z5 (fun e => by have : w.heap.size + 1 = w.heap.size := e; omega), K5.then k6 fun q hq e => by have : q = w.heap.size := e; omega⟩
      · have := Ka.Lead.snoc hL hL'
        rwa [List.take_append_getElem hin] at this
      · exact Sr.PlAt.kp k6 (fun b _ hb => ⟨hb, fun e => by have : b = w.heap.size := e; have hb := hb.2; omega⟩) (Sr.PlAt.kp kc (fun b _ hb => ⟨hb, id⟩) hp')
  · have ei : i = keys.length := by omega
    subst ei
    rw [List.take_length] at hL
    refine s_eff ((pi.k : Int), (pi.b : Int), (pi.e : Int), na, ka, ()) (loadP hb) ?_
    obtain ⟨w6, h6, c6, k6⟩ := storeP hz rfl pi.k pi.b pi.e na ka
    refine s_effU h6 (s_effS ((pi.k : Int), (pi.b : Int), (pi.e : Int), na, ka, ()) (loadP c6) (s_leaf ?_))
    rw [if_neg (by decide)]
    refine ⟨rfl, ⟨pi.k, pi.b, pi.e, na, ka, true, rfl, fun _ => ⟨pi, hL, rfl, rfl, rfl, ?_⟩⟩, hk.then k6 fun q hq e => by have : q = w.heap.size + 1 := e; omega⟩
    exact Sr.PlAt.kp k6 (fun b _ hb => ⟨hb.1, fun e => by have : b = w.heap.size + 1 := e; have hb := hb.2; omega⟩) hpi
/-- A key at a place that is no array begins with no bracket. -/
def Cln (s : ByteArray) (p : PT) (keys : List ByteArray) (j : Nat) : Prop := ∀ q' key, Lead (nmS s) ixS p (keys.take j) q' → keys[j]? = some key → q'.k ≠ 5 → bt key 0 ≠ 91
theorem clean_any {p : PT} {na ka : Sl} {q : Ka.Sl} {keys : List ByteArray} (hs : s.size ≤ 65536) (hw : WfV s p) (hp : PlAt B w p (pc p.k p.b p.e na ka)) (hK : Kx w q keys) (hkz : ∀ key ∈ keys, key.size ≤ 140737488351232) (hkl : keys.length ≤ 140737488351232) :
    Calls Tryz.prog 28 #[.string s, .agg (pc p.k p.b p.e na ka).toArray, Ka.slV q] w fun e w' => (∃ b : Bool, e = .returned (.bool b) ∧ (b = true → ∀ r, Lead (nmS s) ixS p keys r → ∀ j, j < keys.length → Cln s p keys j)) ∧ Kp Off w w' := by
  refine laws_jqClean.calls _ _ _ _ _ _ _ _ _ _ _ _ _ ?_
  unfold laws_jqClean.t
  refine s_alloc ?_
  have b0 := Blk.new w (pc p.k p.b p.e na ka) tP
  have k0 : Kp Off w (w.alloc (.cells (pc p.k p.b p.e na ka).toArray tP (0, 0))) := (Kp.refl Off w).alloc _
  show sat _ _ _ (w.alloc (.cells (pc p.k p.b p.e na ka).toArray tP (0, 0)))
  generalize w.alloc (.cells (pc p.k p.b p.e na ka).toArray tP (0, 0)) = w1 at k0 b0
  have hp1 : PlAt (fun b => b < w.heap.size) w1 p (pc p.k p.b p.e na ka) := Sr.PlAt.kp k0 (fun b _ hb => ⟨hb, id⟩) (Sr.PlAt.kp (B' := fun b => b < w.heap.size) (Kp.refl Off w) (fun b hb _ => ⟨hb, id⟩) hp)
  have hql := hK.len
  refine s_loop (fun k z w' => ∃ (i : Nat) (pi : PT) (na ka : Sl), k = keys.length - i ∧ z = ((i : Int), ()) ∧ i ≤ keys.length ∧ Lead (nmS s) ixS p (keys.take i) pi ∧ (∀ j, j < i → Cln s p keys j) ∧ PlAt (fun b => b < w.heap.size) w' pi (pc pi.k pi.b pi.e na ka) ∧ Blk w' w.heap.size (pc pi.k pi.b pi.e na ka) tP ∧ Kp Off w w') keys.length ((0 : Int), ()) rfl
    ⟨0, p, na, ka, rfl, rfl, Nat.zero_le _, .nil, fun _ h => absurd h (Nat.not_lt_zero _), hp1, b0, k0⟩ ?_
  clear hp hp1 b0 k0
  rintro k z w2 ⟨i, pi, na, ka, rfl, rfl, hi, hL, hC, hpi, hb, hk⟩
  show sat _ (laws_jqClean.t1 s q.1 q.2.1 ⟨w.heap.size, 0, none⟩ (i : Int)) _ _
  unfold laws_jqClean.t1
  refine s_iteD (fun hlt => ?_) (fun hge => s_leaf ?_)
  rotate_left
  · rw [if_neg (by decide)]
    exact ⟨rfl, ⟨true, rfl, fun _ _ _ j hj => hC j (by omega)⟩, hk⟩
  have hin : i < keys.length := by omega
  have hkey : keys[i]? = some keys[i] := List.getElem?_eq_getElem hin
  have hkz1 := hkz _ (List.getElem_mem hin)
  have hwi := (Ka.Lead.wf hL hw).1
  have hKx := hK.kp hk
  have cl : ¬ (pi.k ≠ 5 ∧ bt keys[i] 0 = 91) → Cln s p keys i := fun g q' key h1 h2 h3 h4 => by
    have := Ka.Lead.uniqs hL h1
    subst this
    rw [hkey] at h2
    cases h2
    exact g ⟨h3, h4⟩
  refine s_cut (fun z w' => (z.1 = true ∨ (z.1 = false ∧ Cln s p keys i)) ∧ w2 = w') (s_load (pi.k : Int) (hb.cell 0) (s_iteN (fun h5 => ?_) (fun h5 => s_leaf ?_))) ?_
  · refine s_key hKx hkey (s_ite (fun he => ?_) (fun he => s_leaf ?_))
    · have hpos : keys[i].size ≠ 0 := fun h0 => by
        have e : keys[i] = ByteArray.mk #[] := by
          apply ByteArray.ext
          apply Array.toList_inj.1
          exact List.eq_nil_of_length_eq_zero (by rw [Array.length_toList]; exact h0)
        have hq : strEq keys[i] (ByteArray.mk #[]) = true := strEq_iff.2 e
        have he : (!strEq keys[i] (ByteArray.mk #[])) = true := he
        rw [hq] at he
        cases he
      refine s_key hKx hkey (s_chk ⟨by omega, by omega⟩ (s_leaf ?_))
      rw [if_pos rfl]
      refine ⟨(bt keys[i] 0 == 91, ()), rfl, ?_, rfl⟩
      by_cases h91 : bt keys[i] 0 = 91
      · left
        show (bt keys[i] 0 == 91) = true
        rw [h91]; rfl
      · exact .inr ⟨beq_eq_false_iff_ne.2 h91, cl fun g => h91 g.2⟩
    · rw [if_pos rfl]
      refine ⟨(false, ()), rfl, .inr ⟨rfl, cl fun g => ?_⟩, rfl⟩
      have he : (!strEq keys[i] (ByteArray.mk #[])) = false := he
      have h0 : strEq keys[i] (ByteArray.mk #[]) = true := by
        cases h : strEq keys[i] (ByteArray.mk #[]) with
        | true => rfl
        | false => rw [h] at he; cases he
      have := strEq_iff.1 h0
      rw [this] at g
      exact absurd g.2 (by decide)
  · rw [if_pos rfl]
    exact ⟨(false, ()), rfl, .inr ⟨rfl, cl fun g => g.1 (by omega)⟩, rfl⟩
  rintro ⟨bb, u⟩ w' ⟨hbb, rfl⟩
  show sat _ (laws_jqClean.t2 s q.1 q.2.1 ⟨w.heap.size, 0, none⟩ (i : Int) bb) _ _
  unfold laws_jqClean.t2
  rcases hbb with hbb | ⟨hbb, hCi⟩
  · have hbb : bb = true := hbb
    subst hbb
    refine sat_iteT.2 (s_leaf ?_)
    rw [if_neg (by decide)]
    exact ⟨rfl, ⟨false, rfl, fun g => by cases g⟩, hk⟩
  have hbb : bb = false := hbb
  subst hbb
  refine sat_iteF.2 (s_drew ?_)
  have kd : Kp Off w2 w2.drew := (Kp.refl Off w2).drew
  have hb3 := kd.blk hb id
  have hKx3 := hKx.kp kd
  have hpi3 : PlAt (fun b => b < w.heap.size) w2.drew pi (pc pi.k pi.b pi.e na ka) := Sr.PlAt.kp kd (fun b _ hb => ⟨hb, id⟩) hpi
  have K3 := hk.trans kd
  generalize w2.drew = w3 at kd hb3 hKx3 hpi3 K3
  refine ⟨((pi.k : Int), (pi.b : Int), (pi.e : Int), na, ka, ()), fun w'' hw'' => loadP ((Kp.of_below (S := Off) hw'').blk hb3 id), ?_⟩
  refine s_key hKx3 hkey ?_
  -- what follows where the place's cells lie in block g
  have fin : ∀ {Q : Nat → List Value → World → Prop} (w4 : World) (g : Nat) (k' b' e' : Int) (na' ka' : Sl) (ok : Bool) (c0 : List Value), Kp Off w w4 → Blk w4 w.heap.size (pc pi.k pi.b pi.e na ka) tP → Blk w4 g c0 tP → c0.length = 5 → w.heap.size < g →
      (ok = true → ∃ p', Lead (nmS s) ixS pi [keys[i]] p' ∧ k' = p'.k ∧ b' = p'.b ∧ e' = p'.e ∧ PlAt (fun b => b < w.heap.size) w4 p' (pc p'.k p'.b p'.e na' ka')) → (∀ p', Lead (nmS s) ixS pi [keys[i]] p' → ok = true) →
      (∀ w' b, (b = true → ∀ r, Lead (nmS s) ixS p keys r → ∀ j, j < keys.length → Cln s p keys j) → Kp Off w w' → Q 0 [.bool b] w') →
      (∀ (p' : PT) (na' ka' : Sl) w', Lead (nmS s) ixS p (keys.take (i + 1)) p' → PlAt (fun b => b < w.heap.size) w' p' (pc p'.k p'.b p'.e na' ka') → Blk w' w.heap.size (pc p'.k p'.b p'.e na' ka') tP → Kp Off w w' → Q 1 [.int .i64 ((i + 1 : Nat) : Int)] w') →
      sat Tryz.prog (
        .effU (Instr.storeAt tP (Value.pointer (some ⟨g, 0, none⟩)) (Value.agg #[(Value.int IntKind.i64 k'), (Value.int IntKind.i64 b'), (Value.int IntKind.i64 e'), (Value.slice na'.1 na'.2.1 na'.2.2), (Value.slice ka'.1 ka'.2.1 ka'.2.2)])) <|
        .ite (!ok) (
          .leaf 0 [(Value.bool Bool.true)]) (
          .eff (Instr.loadAt tP (Value.pointer (some ⟨g, 0, none⟩))) (.agg (.cons (.int .i64) (.cons (.int .i64) (.cons (.int .i64) (.cons .slice (.cons .slice .nil)))))) fun (z13 : (Int × (Int × (Int × (((Option Addr) × (Nat × Nat)) × (((Option Addr) × (Nat × Nat)) × PUnit)))))) =>
          .effU (Instr.storeAt tP (Value.pointer (some ⟨w.heap.size, 0, none⟩)) (Value.agg #[(Value.int IntKind.i64 (z13).1), (Value.int IntKind.i64 ((z13).2).1), (Value.int IntKind.i64 (((z13).2).2).1), (Value.slice (((((z13).2).2).2).1).1 ((((((z13).2).2).2).1).2).1 ((((((z13).2).2).2).1).2).2), (Value.slice ((((((z13).2).2).2).2).1).1 (((((((z13).2).2).2).2).1).2).1 (((((((z13).2).2).2).2).1).2).2)])) <|
          .leaf 1 [(Value.int IntKind.i64 (IntKind.wrap IntKind.i64 ((i : Int) + (1 : Int))))])) Q w4 := by
    intro Q w4 g k' b' e' na' ka' ok c0 K4 hb4 hg4 hc0 hgw hok hno hQ0 hQ1
    obtain ⟨w5, h5, c5, k5⟩ := storeP hg4 hc0 k' b' e' na' ka'
    refine s_effU h5 ?_
    have K5 : Kp Off w w5 := K4.then k5 fun q hq e => by have : q = g := e; omega
    have hb5 := k5.blk hb4 (fun e => by have : w.heap.size = g := e; omega)
    cases ok with
    | false =>
      refine sat_iteT.2 (s_leaf (hQ0 w5 true (fun _ r hr => ?_) K5))
      exfalso
      have e1 : keys = keys.take i ++ ([keys[i]] ++ keys.drop (i + 1)) := by
        rw [List.singleton_append, List.getElem_cons_drop, List.take_append_drop]
      rw [e1] at hr
      obtain ⟨x, x1, x2⟩ := Ka.Lead.split hr
      have := Ka.Lead.uniqs hL x1
      subst this
      obtain ⟨y, y1, _⟩ := Ka.Lead.split (ks1 := [keys[i]]) x2
      exact absurd (hno y y1) (by decide)
    | true =>
      obtain ⟨p', hL', rfl, rfl, rfl, hp'⟩ := hok rfl
      refine sat_iteF.2 (s_eff ((p'.k : Int), (p'.b : Int), (p'.e : Int), na', ka', ()) (loadP c5) ?_)
      obtain ⟨w6, h6, c6, k6⟩ := storeP hb5 rfl p'.k p'.b p'.e na' ka'
      refine s_effU h6 (s_leaf ?_)
      have w1' : IntKind.wrap IntKind.i64 ((i : Int) + 1) = ((i + 1 : Nat) : Int) := by rw [wrap_in (by omega) (by omega)]; omega
      rw [w1']
      refine hQ1 p' na' ka' w6 ?_ ?_ c6 (K5.then k6 fun q hq e => by have : q = w.heap.size := e; omega)
      · have := Ka.Lead.snoc hL hL'
        rwa [List.take_append_getElem hin] at this
      · exact Sr.PlAt.kp k6 (fun b _ hb => ⟨hb, fun e => by have : b = w.heap.size := e; omega⟩) (Sr.PlAt.kp k5 (fun b _ hb => ⟨hb, fun e => by have : b = g := e; have hb : b < w.heap.size := hb; omega⟩) hp')
  have goal0 : ∀ (w' : World) (b : Bool), (b = true → ∀ r, Lead (nmS s) ixS p keys r → ∀ j, j < keys.length → Cln s p keys j) → Kp Off w w' → (fun e w' => (∃ b : Bool, e = .returned (.bool b) ∧ (b = true → ∀ r, Lead (nmS s) ixS p keys r → ∀ j, j < keys.length → Cln s p keys j)) ∧ Kp Off w w') (Ending.returned (retVal [.bool b])) w' := fun w' b h k => ⟨⟨b, rfl, h⟩, k⟩
  have hClt : ∀ j, j < i + 1 → Cln s p keys j := fun j hj => by
    rcases Nat.lt_or_ge j i with g | g
    · exact hC j g
    · have : j = i := by omega
      subst this; exact hCi
  have hwlt : w.heap.size < w3.heap.size := hb3.lt
  refine s_both ?_ ?_
  · refine s_call (step_any hs hwi hpi3 hkz1) ?_
    rintro e w4 ⟨⟨k', b', e', na', ka', ok, rfl, hok, hno⟩, k4⟩
    refine ⟨((k', b', e', na', ka', ()), ok, ()), rfl, s_alloc ?_⟩
    have ka4 : Kp Off w4 (w4.alloc (.cells zp.toArray tP (0, 0))) := (Kp.refl Off w4).alloc _
    refine fin _ w4.heap.size k' b' e' na' ka' ok zp ((K3.trans k4).trans ka4) (ka4.blk (k4.blk hb3 id) id) (Blk.new w4 zp tP) rfl (Nat.lt_of_lt_of_le hwlt k4.size) (fun g => ?_) hno (fun w' b h k => by rw [if_neg (by decide)]; exact ⟨rfl, goal0 w' b h k⟩) (fun p' na' ka' w' h1 h2 h3 h4 => ?_)
    · obtain ⟨p', g1, g2, g3, g4, g5⟩ := hok g
      exact ⟨p', g1, g2, g3, g4, Sr.PlAt.kp ka4 (fun b _ hb => ⟨hb, id⟩) g5⟩
    · rw [if_pos rfl]
      exact ⟨keys.length - (i + 1), (((i + 1 : Nat) : Int), ()), rfl, by omega, i + 1, p', na', ka', rfl, rfl, hin, h1, hClt, h2, h3, h4⟩
  · refine s_here (s_alloc ?_)
    have ka4 : Kp Off w3 (w3.alloc (.cells zp.toArray tP (0, 0))) := (Kp.refl Off w3).alloc _
    have bg := Blk.new w3 zp tP
    have hb4 := ka4.blk hb3 id
    have hpi4 : PlAt (fun b => b < w.heap.size) (w3.alloc (.cells zp.toArray tP (0, 0))) pi (pc pi.k pi.b pi.e na ka) := Sr.PlAt.kp ka4 (fun b _ hb => ⟨hb, id⟩) hpi3
    refine ⟨ka4.belowOff, ?_⟩
    refine s_call (step_any hs hwi hpi4 hkz1) ?_
    rintro e w4 ⟨⟨k', b', e', na', ka', ok, rfl, hok, hno⟩, k4⟩
    refine ⟨((k', b', e', na', ka', ()), ok, ()), rfl, ?_⟩
    refine fin w4 w3.heap.size k' b' e' na' ka' ok zp ((K3.trans ka4).trans k4) (k4.blk hb4 id) (k4.blk bg id) rfl hwlt hok hno (fun w' b h k => by rw [if_neg (by decide)]; exact ⟨rfl, goal0 w' b h k⟩) (fun p' na' ka' w' h1 h2 h3 h4 => ?_)
    rw [if_pos rfl]
    exact ⟨keys.length - (i + 1), (((i + 1 : Nat) : Int), ()), rfl, by omega, i + 1, p', na', ka', rfl, rfl, hin, h1, hClt, h2, h3, h4⟩
/-- What keys lead to, as the later laws ask. -/
theorem jqFound_any {q : Ka.Sl} {keys : List ByteArray} (hK : Kx w q keys) (hkz : ∀ key ∈ keys, key.size ≤ 140737488351232) (hkl : keys.length ≤ 140737488351232) :
    Calls Tryz.prog 21 #[.string s, Ka.slV q] w fun e w' => (∃ (k b e1 : Int) (na ka : Sl) (x : Bool), e = .returned (.tuple #[.agg (pc k b e1 na ka).toArray, .bool x]) ∧
      (x = true → s.size ≤ 16384 ∧ ∃ p0 p, Led s p0 keys p ∧ (∀ j, j < keys.length → Cln s p0 keys j) ∧ k = p.k ∧ b = p.b ∧ e1 = p.e ∧ PlAt Any w' p (pc p.k p.b p.e na ka))) ∧ Kp Off w w' := by
  refine laws_jqFound.calls _ _ _ _ ?_
  unfold laws_jqFound.t
  refine s_alloc ?_
  have b0 := Blk.new w zp tP
  have k0 : Kp Off w (w.alloc (.cells zp.toArray tP (0, 0))) := (Kp.refl Off w).alloc _
  show sat _ _ _ (w.alloc (.cells zp.toArray tP (0, 0)))
  generalize w.alloc (.cells zp.toArray tP (0, 0)) = w1 at k0 b0
  refine s_call (jqPlace_any (s := s)) ?_
  rintro e w2 ⟨⟨k, b, e1, na, ka, x, rfl, hx⟩, k2⟩
  refine ⟨((k, b, e1, na, ka, ()), x, ()), rfl, s_alloc ?_⟩
  have b02 := k2.blk b0 id
  have k02 := k0.trans k2
  obtain ⟨w3, h3, c3, k3⟩ := storeP (Blk.new w2 zp tP) rfl k b e1 na ka
  refine s_effU h3 ?_
  have kc : Kp Off w2 w3 := (((Kp.refl (fun q => q = w2.heap.size) w2).alloc _).trans (k3.mono fun q _ h => h)).mono fun q hq h => by omega
  have b03 := kc.blk b02 id
  have k03 := k02.trans kc
  have no : ∀ {w4 : World} {Q : Nat → List Value → World → Prop} (w' : World), Kp Off w w4 → Kp (On w.heap.size) w4 w' → Kp Off w w' := fun w' k4 k => k4.then k fun q hq e => by have : q = w.heap.size := e; omega
  cases x with
  | false => exact sat_iteT.2 (p_no b03 rfl fun w' k => ⟨rfl, ⟨_, _, _, _, _, false, rfl, fun g => by cases g⟩, no (Q := fun _ _ _ => True) w' k03 k⟩)
  | true =>
    obtain ⟨hs, p, hpl, rfl, rfl, rfl, hp⟩ := hx rfl
    have hfin : val s (bl s 0) = some p ∧ bl s p.e = s.size := by
      unfold places at hpl
      cases hv : val s (bl s 0) with
      | none => rw [hv] at hpl; cases hpl
      | some p' =>
        rw [hv] at hpl
        have hpl : (if bl s p'.e = s.size then some p' else none) = some p := hpl
        split at hpl
        · rename_i g; cases hpl; exact ⟨rfl, g⟩
        · cases hpl
    obtain ⟨hpb, hwf⟩ := val_wf (bl_le s 0 (Nat.zero_le _)) hfin.1
    have hp2 : PlAt (fun b => w1.heap.size ≤ b) w2 p (pc p.k p.b p.e na ka) := hp
    have hp3 : PlAt (fun b => w1.heap.size ≤ b) w3 p (pc p.k p.b p.e na ka) := Sr.PlAt.kp kc (fun b _ hb => ⟨hb, id⟩) hp2
    have hw1 := b0.lt
    refine sat_iteF.2 (s_eff ((p.k : Int), (p.b : Int), (p.e : Int), na, ka, ()) (loadP c3) ?_)
    refine s_call (once_any (by omega) hwf hp3 (hK.kp k03) hkz hkl) ?_
    rintro e w4 ⟨⟨b, rfl⟩, k4⟩
    refine ⟨b, rfl, ?_⟩
    have K4 := k03.trans k4
    have b4 := k4.blk b03 id
    have c4 := k4.blk c3 id
    cases b with
    | false => exact sat_iteT.2 (p_no b4 rfl fun w' k => ⟨rfl, ⟨_, _, _, _, _, false, rfl, fun g => by cases g⟩, no (Q := fun _ _ _ => True) w' K4 k⟩)
    | true =>
      refine sat_iteF.2 (s_eff ((p.k : Int), (p.b : Int), (p.e : Int), na, ka, ()) (loadP c4) ?_)
      refine s_call (clean_any (by omega) hwf (PlAt.any hp3 k4) (hK.kp K4) hkz hkl) ?_
      rintro e w5 ⟨⟨b, rfl, hcl⟩, k5⟩
      refine ⟨b, rfl, ?_⟩
      have K5 := K4.trans k5
      have b5 := k5.blk b4 id
      have c5 := k5.blk c4 id
      cases b with
      | false => exact sat_iteT.2 (p_no b5 rfl fun w' k => ⟨rfl, ⟨_, _, _, _, _, false, rfl, fun g => by cases g⟩, no (Q := fun _ _ _ => True) w' K5 k⟩)
      | true =>
        refine sat_iteF.2 (s_eff ((p.k : Int), (p.b : Int), (p.e : Int), na, ka, ()) (loadP c5) ?_)
        refine s_call (seek_any (B := fun b => w1.heap.size ≤ b) (by omega) hwf (Sr.PlAt.kp (k4.trans k5) (fun b _ hb => ⟨hb, id⟩) hp3) (hK.kp K5) hkz hkl) ?_
        rintro e w6 ⟨⟨k', b', e', na', ka', ok, rfl, hok⟩, k6⟩
        refine ⟨((k', b', e', na', ka', ()), ok, ()), rfl, ?_⟩
        have K6 := K5.trans k6
        obtain ⟨w7, h7, c7, k7⟩ := storeP (k6.blk b5 id) rfl k' b' e' na' ka'
        refine s_effU h7 (s_effS (k', b', e', na', ka', ()) (loadP c7) (s_leaf ⟨rfl, ⟨k', b', e', na', ka', ok, rfl, fun g => ?_⟩, no (Q := fun _ _ _ => True) w7 K6 k7⟩))
        obtain ⟨q', hL, rfl, rfl, rfl, hq'⟩ := hok g
        refine ⟨hs, p, q', ⟨hpb.symm, hwf, hfin.2, hL⟩, hcl rfl q' hL, rfl, rfl, rfl, ?_⟩
        exact Sr.PlAt.kp k7 (fun b _ hb => ⟨trivial, fun e => by have : b = w.heap.size := e; have hb : w1.heap.size ≤ b := hb; omega⟩) hq'
end Go.Proofs.YtcjphnppedmbdaaGreatDoor.Lj
