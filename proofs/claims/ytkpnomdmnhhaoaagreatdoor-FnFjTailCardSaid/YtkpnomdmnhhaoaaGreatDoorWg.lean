/- fastjson's validateValue over a value of a JSON text: an error, or what stands behind it; Validate of a text with more behind its value. No statement of the set is proved here. -/
import Derived.Test.YtkpnomdmnhhaoaaGreatDoorWf
namespace Go.Proofs.YtkpnomdmnhhaoaaGreatDoor.Fn
open Go Go.Proofs Go.Proofs.YtkpnomdmnhhaoaaGreatDoor.Rx Go.Proofs.YtkpnomdmnhhaoaaGreatDoor.Tr Go.Proofs.YtkpnomdmnhhaoaaGreatDoor.Pl

theorem vn_num {s : ByteArray} {m : Nat} (h : vnE s 0 = some m) : numE s 0 = some m ∧ numOk (bt s (0 : Nat)) = true := by
  have main : ∀ a : Nat, vnD s a = some m → intE s a = some m ∧ isDig (bt s (a : Int)) = true := by
    intro a h
    unfold vnD at h
    split at h
    · cases h
    · have hD : isDig (bt s (a : Int)) = true := by
        cases hD : isDig (bt s (a : Int)) with
        | true => rfl
        | false => exact absurd (digs_no hD) ‹_›
      split at h
      · cases h
      · rename_i hn
        refine ⟨?_, hD⟩
        by_cases hz : bt s (a : Int) = 48
        · have hd : digs s a = a + 1 := Classical.byContradiction fun hd => hn ⟨hz, hd⟩
          rw [intE_zero hz, ← hd]; exact h
        · rw [intE_dig hz hD]; exact h
  unfold vnE at h
  split at h
  · rename_i h45
    rw [numE_minus h45]
    exact ⟨(main 1 h).1, by rw [h45]; rfl⟩
  · rename_i h45
    rw [numE_plain h45]
    obtain ⟨a, b⟩ := main 0 h
    exact ⟨a, by unfold numOk; rw [b]; exact Bool.or_true _⟩
end Go.Proofs.YtkpnomdmnhhaoaaGreatDoor.Fn
namespace Go.Proofs.YtkpnomdmnhhaoaaGreatDoor.Zv
open Go Go.Proofs Go.RowKit Go.Proofs.YtkpnomdmnhhaoaaGreatDoor.Rx Go.Proofs.YtkpnomdmnhhaoaaGreatDoor.Tr Go.Proofs.YtkpnomdmnhhaoaaGreatDoor.Pl Go.Proofs.YtkpnomdmnhhaoaaGreatDoor.Pw Go.Proofs.YtkpnomdmnhhaoaaGreatDoor.Sk Go.Proofs.YtkpnomdmnhhaoaaGreatDoor.Zs Go.Proofs.YtkpnomdmnhhaoaaGreatDoor.Ut
open Go.Proofs.YtkpnomdmnhhaoaaGreatDoor.Zu (OkU)
open Go.Proofs.YtkpnomdmnhhaoaaGreatDoor.Ed (mvP mvP_k)

variable {w w1 w' : World} {s : ByteArray} {p : PT}
theorem valKey_any {q k : Nat} (hs : s.size ≤ 100000) (h : QE s q k) (hok : OkU (s.extract q (q + k)) 0) :
    Calls Tryz.prog 84 #[.string (sfx s q)] w (VsPost s (q + k + 1) w) := by
  have hz := sfx_size s q
  have hm := h.mark
  have hlt : q + k < s.size := lt_of_bt (by omega)
  refine fastjson_validateKey.calls _ ?_
  unfold fastjson_validateKey.t
  refine s_loop (fun m z w' => ∃ i : Nat, m = k + 1 - i ∧ z = ((i : Int), ()) ∧ i ≤ k ∧ (∀ j, j < i → bt s ((q + j : Nat) : Int) ≠ 92) ∧ w = w') (k + 1) ((0 : Int), ()) rfl ⟨0, rfl, rfl, Nat.zero_le _, fun j h => absurd h (Nat.not_lt_zero _), rfl⟩ ?_
  rintro m z w1 ⟨i, rfl, rfl, hi, hno, rfl⟩
  show sat _ (fastjson_validateKey.t1 (sfx s q) (i : Int)) _ _
  unfold fastjson_validateKey.t1
  refine s_iteD (fun _ => s_chk ⟨by omega, by omega⟩ ?_) (fun g => absurd (by omega) g)
  rw [sfx_bt]
  have w1' : IntKind.wrap IntKind.i64 ((i : Int) + 1) = ((i + 1 : Nat) : Int) := by rw [wrap_in (by omega) (by omega)]; omega
  refine s_iteE (fun h34 => ?_) (fun h34 => s_chk ⟨by omega, by omega⟩ (s_iteE (fun h92 => ?_) (fun h92 => s_leaf ?_)))
  · have hik : i = k := by
      rcases Nat.lt_or_ge i k with g | g
      · exfalso
        obtain ⟨j, j1, j2⟩ := bk_back (h.first i g h34)
        exact hno j j1 j2
      · omega
    subst hik
    rw [w1', Int.toNat_natCast, Int.toNat_natCast, Int.toNat_natCast, sfx_sfx]
    refine s_drew (s_chk (by omega) (s_chk (by omega) (s_leaf ?_)))
    rw [if_neg (by decide)]
    refine ⟨rfl, _, _, _, rfl, ?_, (Kp.refl Off _).drew, by rw [ByteArray.size_extract]; omega⟩
    rw [show q + (i + 1) = q + i + 1 by omega]
    exact Ends.ok
  · refine s_call (valStr_any hs h hok) ?_
    rintro e w2 ⟨y, tail, er, rfl, hE, k2, hy⟩
    refine ⟨(y, tail, er, ()), rfl, s_leaf ?_⟩
    rw [if_neg (by decide)]
    exact ⟨rfl, y, tail, er, rfl, hE, k2, hy⟩
  · rw [if_pos rfl, w1']
    have hik : i ≠ k := fun c => h34 (by rw [c]; exact hm)
    refine ⟨k + 1 - (i + 1), (((i + 1 : Nat) : Int), ()), rfl, by omega, i + 1, rfl, rfl, by omega, fun j hj => ?_, rfl⟩
    rcases Nat.lt_or_ge j i with g | g
    · exact hno j g
    · rw [show j = i by omega]; exact h92
/-- What validateValue says. -/
def VvPost (s : ByteArray) (m : Nat) (w : World) (e : Ending) (w' : World) : Prop :=
  ∃ (tail : ByteArray) (er : Value), e = .returned (.tuple #[.string tail, er]) ∧ Ends s m tail er ∧ Kp Off w w'
def VV (s : ByteArray) (N : Nat) : Prop := ∀ (p : PT) (w : World), p.e - p.b < N → WfV s p → Calls Tryz.prog 39 #[.string (sfx s p.b)] w (VvPost s p.e w)
/-- An error at the end of a walk. -/
theorem s_verr {Q : Nat → List Value → World → Prop} {text tail : ByteArray} {m : Nat} {w0 : World} (k : Kp Off w0 w) (hQ : ∀ vs w', VvPost s m w0 (.returned (retVal vs)) w' → Q 0 vs w') :
    sat Tryz.prog (.call 38 #[.string text] .any fun (v : Value) => .leaf 0 [.string tail, v]) Q w := by
  refine s_call new_any ?_
  rintro e w2 ⟨er, rfl, hE, k2⟩
  exact ⟨er, rfl, s_leaf (hQ _ _ ⟨tail, er, rfl, Ends.err hE, k.trans k2⟩)⟩
theorem cut1 {q : Nat} : ByteArray.extract (sfx s q) 1 (Int.toNat ((ByteArray.size (sfx s q) : Nat) : Int)) = sfx s (q + 1) := by
  rw [Int.toNat_natCast, sfx_sfx]
theorem valArr_any {N b e : Nat} {ks : List PT} (hs : s.size ≤ 100000) (ih : VV s N) (hE : WfE s true (b + 1) ks e) (hN : e - b ≤ N) :
    Calls Tryz.prog 60 #[.string (sfx s (b + 1))] w (VvPost s e w) := by
  have hs62 : s.size < 4611686018427387904 := by omega
  have hbl := bl_ge s (b + 1)
  refine fastjson_validateArray.calls _ ?_
  unfold fastjson_validateArray.t
  refine s_call (skip_any hs62) ?_
  rintro en w1 ⟨rfl, rfl⟩
  refine ⟨sfx s (bl s (b + 1)), rfl, ?_⟩
  have hz := sfx_size s (bl s (b + 1))
  rw [sfx_bt0]
  cases ks with
  | nil =>
    unfold WfE at hE
    obtain ⟨h93, rfl⟩ := hE
    have hlt : bl s (b + 1) < s.size := lt_of_bt (by omega)
    refine s_iteE (fun g => by omega) (fun _ => s_chk (by omega) (s_iteE (fun _ => s_chk (by omega) (s_leaf ?_)) (fun g => absurd h93 g)))
    rw [cut1]
    exact ⟨rfl, _, _, rfl, Ends.ok, Kp.refl _ _⟩
  | cons c r =>
    unfold WfE at hE
    obtain ⟨hq, hwq, hrs⟩ := hE
    rw [if_pos rfl] at hq
    have hst := start_byte hwq
    rw [hq] at hst
    have hst' := hst
    unfold St at hst
    have hlt : bl s (b + 1) < s.size := lt_of_bt (by omega)
    refine s_iteE (fun g => by omega) (fun _ => s_chk (by omega) (s_iteE (fun g => by omega) (fun _ => ?_)))
    refine s_loop (fun m z w' => ∃ (q : Nat) (c : PT) (r : List PT), m = r.length ∧ z = (sfx s q, ()) ∧ bl s q = c.b ∧ WfV s c ∧ WfE s false c.e r e ∧ b < c.b ∧ Kp Off w1 w') r.length (sfx s (bl s (b + 1)), ()) rfl ⟨bl s (b + 1), c, r, rfl, rfl, by rw [bl_start hst', hq], hwq, hrs, by omega, Kp.refl _ _⟩ ?_
    clear hst hst' hq hwq hrs hlt hz
    rintro m z w2 ⟨q, c, r, rfl, rfl, hq, hwc, hE, hbc, k2⟩
    show sat _ (fastjson_validateArray.t1 (sfx s q)) _ _
    unfold fastjson_validateArray.t1
    have hcl := hwc.lt
    refine s_call (skip_any hs62) ?_
    rintro en w3 ⟨rfl, rfl⟩
    refine ⟨sfx s (bl s q), rfl, ?_⟩
    rw [hq]
    have hce : c.e < e := by
      cases r with
      | nil => unfold WfE at hE; have := bl_ge s c.e; omega
      | cons c' r' => exact Nat.lt_of_lt_of_le (Nat.lt_succ_self _) (Nat.le_of_lt_succ (Nat.lt_succ_of_le (by have := Ka.wfE_len _ _ _ _ hE; omega)))
    refine s_call (ih c w3 (by omega) hwc) ?_
    rintro en w4 ⟨tail, er, rfl, ⟨hi, hn⟩, k4⟩
    have k14 := k2.trans k4
    refine ⟨(tail, er, ()), rfl, s_chk hi (s_ite (fun _ => ?_) (fun g => ?_))⟩
    · exact s_verr (m := e) k14 fun vs w' h => by rw [if_neg (by decide)]; exact ⟨rfl, h⟩
    have hnil : isNil er = true := by
      have g : (!(isNil er)) = false := g
      cases hx : isNil er with
      | true => rfl
      | false => rw [hx] at g; cases g
    have ht := hn hnil
    subst ht
    refine s_call (skip_any hs62) ?_
    rintro en w5 ⟨rfl, rfl⟩
    refine ⟨sfx s (bl s c.e), rfl, ?_⟩
    have hz := sfx_size s (bl s c.e)
    rw [sfx_bt0]
    refine s_iteE (fun _ => s_verr (m := e) k14 fun vs w' h => by rw [if_neg (by decide)]; exact ⟨rfl, h⟩) (fun hne => s_chk (by omega) (s_iteE (fun g44 => s_chk (by omega) (s_leaf ?_)) (fun g44 => s_chk (by omega) (s_iteE (fun g93 => s_chk (by omega) (s_leaf ?_)) (fun _ => s_verr (m := e) k14 fun vs w' h => by rw [if_neg (by decide)]; exact ⟨rfl, h⟩)))))
    · rw [if_pos rfl, cut1]
      cases r with
      | nil => unfold WfE at hE; omega
      | cons c' r' =>
        unfold WfE at hE
        rw [if_neg (by decide)] at hE
        refine ⟨r'.length, (sfx s (bl s c.e + 1), ()), rfl, by simp, bl s c.e + 1, c', r', rfl, rfl, hE.1.2.symm, hE.2.1, hE.2.2, ?_, k14⟩
        have := bl_ge s c.e
        have := bl_ge s (bl s c.e + 1)
        omega
    · rw [if_neg (by decide), cut1]
      cases r with
      | nil =>
        unfold WfE at hE
        rw [hE.2]
        exact ⟨rfl, _, _, rfl, Ends.ok, k14⟩
      | cons c' r' =>
        unfold WfE at hE
        rw [if_neg (by decide)] at hE
        exact absurd hE.1.1 g44
theorem wfM_end : ∀ {ks : List PT} {first : Bool} {j e : Nat} {ns : List (Nat × Nat)}, WfM s first j ns ks e → j < e
  | [], first, j, e, ns, h => by
    unfold WfM at h
    have := bl_ge s j
    omega
  | c :: ks, first, j, e, ns, h => by
    unfold WfM at h
    obtain ⟨n, ns', _, h0, _, hs, _, hb, hw, hM⟩ := h
    have h1 := wfM_end hM
    have g1 := bl_ge s j
    have g2 := bl_ge s (bl s j + 1)
    have g3 := bl_ge s n.2
    have g4 := bl_ge s (bl s n.2 + 1)
    have hl := hw.lt
    have hl2 := strE_le hs
    split at h0 <;> omega
theorem valObj_any {N b e : Nat} {ns : List (Nat × Nat)} {ks : List PT} (hs : s.size ≤ 100000) (ih : VV s N) (hM : WfM s true (b + 1) ns ks e) (hN : e - b ≤ N) :
    Calls Tryz.prog 59 #[.string (sfx s (b + 1))] w (VvPost s e w) := by
  have hs62 : s.size < 4611686018427387904 := by omega
  have hbl := bl_ge s (b + 1)
  refine fastjson_validateObject.calls _ ?_
  unfold fastjson_validateObject.t
  refine s_call (skip_any hs62) ?_
  rintro en w1 ⟨rfl, rfl⟩
  refine ⟨sfx s (bl s (b + 1)), rfl, ?_⟩
  have hz := sfx_size s (bl s (b + 1))
  rw [sfx_bt0]
  cases ks with
  | nil =>
    unfold WfM at hM
    obtain ⟨_, h125, rfl⟩ := hM
    have hlt : bl s (b + 1) < s.size := lt_of_bt (by omega)
    refine s_iteE (fun g => by omega) (fun _ => s_chk (by omega) (s_iteE (fun _ => s_chk (by omega) (s_leaf ?_)) (fun g => absurd h125 g)))
    rw [cut1]
    exact ⟨rfl, _, _, rfl, Ends.ok, Kp.refl _ _⟩
  | cons c r =>
    unfold WfM at hM
    obtain ⟨n, ns', _, hq, h34, hst, h58, hcb, hwc, hM⟩ := hM
    rw [if_pos rfl] at hq
    have h34' := h34
    rw [hq] at h34'
    have hlt : bl s (b + 1) < s.size := lt_of_bt (by omega)
    refine s_iteE (fun g => by omega) (fun _ => s_chk (by omega) (s_iteE (fun g => by omega) (fun _ => ?_)))
    refine s_loop (fun m z w' => ∃ (q : Nat) (n : Nat × Nat) (ns' : List (Nat × Nat)) (c : PT) (r : List PT), m = r.length ∧ z = (sfx s q, ()) ∧ bl s q = n.1 ∧ b < n.1 ∧ bt s (n.1 : Int) = 34 ∧ strE s (n.1 + 1) = some n.2 ∧ bt s (bl s n.2 : Int) = 58 ∧ c.b = bl s (bl s n.2 + 1) ∧ WfV s c ∧ WfM s false c.e ns' r e ∧ Kp Off w1 w')
      r.length (sfx s (bl s (b + 1)), ()) rfl ⟨bl s (b + 1), n, ns', c, r, rfl, rfl, by rw [bl_start (.inl h34'), hq], by omega, h34, hst, h58, hcb, hwc, hM, Kp.refl _ _⟩ ?_
    clear h34 h34' hq hwc hM hlt hz hst h58 hcb
    rintro m z w2 ⟨q, n, ns', c, r, rfl, rfl, hq, hbn, h34, hst, h58, hcb, hwc, hM, k2⟩
    show sat _ (fastjson_validateObject.t1 (sfx s q)) _ _
    unfold fastjson_validateObject.t1
    have hcl := hwc.lt
    refine s_call (skip_any hs62) ?_
    rintro en w3 ⟨rfl, rfl⟩
    refine ⟨sfx s (bl s q), rfl, ?_⟩
    rw [hq]
    have hzn := sfx_size s n.1
    have hnlt : n.1 < s.size := lt_of_bt (by omega)
    refine s_cut (fun z w' => z = (false, ()) ∧ w' = w3) (s_iteE (fun g => by omega) (fun _ => s_chk (by omega) (s_leaf ?_))) ?_
    · rw [if_pos rfl, sfx_bt0, h34]
      exact ⟨(false, ()), rfl, rfl, rfl⟩
    rintro z w4 ⟨rfl, rfl⟩
    show sat _ (fastjson_validateObject.t2 (sfx s n.1) false) _ _
    unfold fastjson_validateObject.t2
    refine sat_iteF.2 (s_chk (by omega) ?_)
    rw [cut1]
    obtain ⟨kk, hke, hqe⟩ := strE_QE hst
    obtain ⟨_, hok, _, _⟩ := raw_str hst
    have hext : s.extract (n.1 + 1) (n.2 - 1) = s.extract (n.1 + 1) (n.1 + 1 + kk) := by rw [hke, Nat.add_sub_cancel]
    rw [hext] at hok
    have hkey := valKey_any (w := w4) hs hqe hok
    rw [← hke] at hkey
    refine s_call hkey ?_
    rintro en w5 ⟨y, tail, er, rfl, ⟨hi, hn⟩, k5, hyz⟩
    have k15 := k2.trans k5
    refine ⟨(y, tail, er, ()), rfl, s_chk hi (s_ite (fun _ => ?_) (fun g => ?_))⟩
    · exact s_verr (m := e) k15 fun vs w' h => by rw [if_neg (by decide)]; exact ⟨rfl, h⟩
    have hnil : isNil er = true := by
      have g : (!(isNil er)) = false := g
      cases hx : isNil er with
      | true => rfl
      | false => rw [hx] at g; cases g
    have ht := hn hnil
    subst ht
    refine s_loop (fun m z w' => ∃ i : Nat, m = y.size - i ∧ z = ((i : Int), ()) ∧ i ≤ y.size ∧ w5 = w') y.size ((0 : Int), ()) rfl ⟨0, rfl, rfl, Nat.zero_le _, rfl⟩ ?_
    rintro m z w6 ⟨i, rfl, rfl, hiy, rfl⟩
    show sat _ (fastjson_validateObject.t3 (y, sfx s n.2, er, ()) (i : Int)) _ _
    unfold fastjson_validateObject.t3
    refine s_iteD (fun hlt => s_chk ⟨by omega, hlt⟩ (s_iteD (fun _ => ?_) (fun _ => s_leaf ?_))) (fun _ => ?_)
    · exact s_verr (m := e) k15 fun vs w' h => by rw [if_neg (by decide), if_neg (by decide)]; exact ⟨rfl, h⟩
    · rw [if_pos rfl]
      have hlt : (i : Int) < ((y.size : Nat) : Int) := hlt
      have w1' : IntKind.wrap IntKind.i64 ((i : Int) + 1) = ((i + 1 : Nat) : Int) := by rw [wrap_in (by omega) (by omega)]; omega
      rw [w1']
      exact ⟨y.size - (i + 1), (((i + 1 : Nat) : Int), ()), rfl, by omega, i + 1, rfl, rfl, by omega, rfl⟩
    refine s_call (skip_any hs62) ?_
    rintro en w7 ⟨rfl, rfl⟩
    refine ⟨sfx s (bl s n.2), rfl, ?_⟩
    have hzc := sfx_size s (bl s n.2)
    have hclt : bl s n.2 < s.size := lt_of_bt (by omega)
    refine s_cut (fun z w' => z = (false, ()) ∧ w' = w7) (s_iteE (fun g => by omega) (fun _ => s_chk (by omega) (s_leaf ?_))) ?_
    · rw [if_pos rfl, sfx_bt0, h58]
      exact ⟨(false, ()), rfl, rfl, rfl⟩
    rintro z w8 ⟨rfl, rfl⟩
    show sat _ (fastjson_validateObject.t4 (sfx s (bl s n.2)) false) _ _
    unfold fastjson_validateObject.t4
    refine sat_iteF.2 (s_chk (by omega) ?_)
    rw [cut1]
    refine s_call (skip_any hs62) ?_
    rintro en w9 ⟨rfl, rfl⟩
    refine ⟨sfx s (bl s (bl s n.2 + 1)), rfl, ?_⟩
    rw [← hcb]
    have hce := wfM_end hM
    have hn2 := strE_le hst
    have hg1 := bl_ge s n.2
    have hg2 := bl_ge s (bl s n.2 + 1)
    refine s_call (ih c w9 (by omega) hwc) ?_
    rintro en w10 ⟨tail, er2, rfl, ⟨hi2, hn2'⟩, k10⟩
    have k110 := k15.trans k10
    refine ⟨(tail, er2, ()), rfl, s_chk hi2 (s_ite (fun _ => ?_) (fun g => ?_))⟩
    · exact s_verr (m := e) k110 fun vs w' h => by rw [if_neg (by decide), if_neg (by decide)]; exact ⟨rfl, h⟩
    have hnil2 : isNil er2 = true := by
      have g : (!(isNil er2)) = false := g
      cases hx : isNil er2 with
      | true => rfl
      | false => rw [hx] at g; cases g
    have ht := hn2' hnil2
    subst ht
    refine s_call (skip_any hs62) ?_
    rintro en w11 ⟨rfl, rfl⟩
    refine ⟨sfx s (bl s c.e), rfl, ?_⟩
    have hz := sfx_size s (bl s c.e)
    rw [sfx_bt0]
    refine s_iteE (fun _ => s_verr (m := e) k110 fun vs w' h => by rw [if_neg (by decide), if_neg (by decide)]; exact ⟨rfl, h⟩) (fun hne => s_chk (by omega) (s_iteE (fun g44 => s_chk (by omega) (s_leaf ?_)) (fun g44 => s_chk (by omega) (s_iteE (fun g125 => s_chk (by omega) (s_leaf ?_)) (fun _ => s_verr (m := e) k110 fun vs w' h => by rw [if_neg (by decide), if_neg (by decide)]; exact ⟨rfl, h⟩)))))
    · rw [if_neg (by decide), if_pos rfl, cut1]
      cases r with
      | nil => unfold WfM at hM; omega
      | cons c' r' =>
        unfold WfM at hM
        obtain ⟨n', ns'', _, hq', h34', hst', h58', hcb', hwc', hM'⟩ := hM
        rw [if_neg (by decide)] at hq'
        refine ⟨r'.length, (sfx s (bl s c.e + 1), ()), rfl, by simp, bl s c.e + 1, n', ns'', c', r', rfl, rfl, hq'.2.symm, ?_, h34', hst', h58', hcb', hwc', hM', k110⟩
        have := bl_ge s c.e
        have := bl_ge s (bl s c.e + 1)
        omega
    · rw [if_neg (by decide), if_neg (by decide), cut1]
      cases r with
      | nil =>
        unfold WfM at hM
        rw [hM.2.2]
        exact ⟨rfl, _, _, rfl, Ends.ok, k110⟩
      | cons c' r' =>
        unfold WfM at hM
        obtain ⟨n', ns'', _, hq', _⟩ := hM
        rw [if_neg (by decide)] at hq'
        exact absurd hq'.1 g44
theorem word4 {b : Nat} {u : ByteArray} (h : wordB s b u = true) : b + u.size ≤ s.size ∧ (sfx s b).extract 0 u.size = u := word_ext h
/-- The value itself. -/
theorem vv_step {N : Nat} (hs : s.size ≤ 100000) (ih : VV s N) : VV s (N + 1) := by
  intro p w hN hw
  have hl := hw.lt
  have hs62 : s.size < 4611686018427387904 := by omega
  have hst := start_byte hw
  have hz := sfx_size s p.b
  obtain ⟨hwm, hqb, hqe⟩ := wf_sfx hw
  have hkm := mvP_k p.b 0 p
  generalize hpm : mvP p.b 0 p = pm at hwm hqb hqe hkm
  clear hpm
  obtain ⟨k, b, e, ns, ks⟩ := p
  have hz : (sfx s b).size = s.size - b := hz
  have hl1 : b < e := hl.1
  have hl2 : e ≤ s.size := hl.2
  have hst : St (bt s (b : Int)) := hst
  have hN : e - b < N + 1 := hN
  have hqe : pm.e = e - b := hqe
  have hkm : pm.k = k := hkm
  have hwm : WfV (sfx s b) pm := hwm
  show Calls Tryz.prog 39 #[.string (sfx s b)] w (VvPost s e w)
  refine fastjson_validateValue.calls _ ?_
  unfold fastjson_validateValue.t
  rw [sfx_bt0]
  refine s_iteE (fun g => ?_) (fun _ => s_chk ⟨Int.le_refl _, ?_⟩ ?_)
  · have g : (((sfx s b).size : Nat) : Int) = 0 := g
    omega
  · show (0 : Int) < (((sfx s b).size : Nat) : Int); omega
  have one : (0 : Int) ≤ 1 ∧ (1 : Int) ≤ (((sfx s b).size : Nat) : Int) ∧ (((sfx s b).size : Nat) : Int) ≤ (((sfx s b).size : Nat) : Int) := by omega
  have zer : (0 : Int) ≤ 0 ∧ (0 : Int) < (((sfx s b).size : Nat) : Int) := by omega
  have fin : ∀ {tail : ByteArray} {er : Value} {w' : World} {K : Prop}, Ends s e tail er → Kp Off w w' → (isNil er = true → True) → (0 : Nat) = 0 ∧ VvPost s e w (.returned (.tuple #[.string tail, er])) w' := fun {tail} {er} {w'} {_} h1 h2 _ => ⟨rfl, tail, er, rfl, h1, h2⟩
  have pass : ∀ {tail : ByteArray} {er : Value} {w' : World} {text : ByteArray}, Ends s e tail er → Kp Off w w' →
      sat Tryz.prog (.chk ((isIface er) = Bool.true) <| .ite (!(isNil er)) (.call 38 #[.string text] .any fun (v2 : Value) => .leaf 0 [.string tail, v2]) (.leaf 0 [.string tail, Value.nilIface])) (fun l vs w'' => l = 0 ∧ VvPost s e w (.returned (retVal vs)) w'') w' := fun {tail} {er} {w'} {text} h1 h2 => by
    refine s_chk h1.1 (s_ite (fun _ => s_verr (m := e) h2 fun vs w'' h => ⟨rfl, h⟩) (fun g => s_leaf ?_))
    have hnil : isNil er = true := by
      have g : (!(isNil er)) = false := g
      cases hx : isNil er with
      | true => rfl
      | false => rw [hx] at g; cases g
    exact ⟨rfl, tail, .nilIface, rfl, ⟨rfl, fun _ => h1.2 hnil⟩, h2⟩
  have hw0 := hw
  unfold WfV at hw
  obtain ⟨_, _, ⟨rfl, rfl, _, hlit⟩ | ⟨rfl, rfl, rfl, h34, hse⟩ | ⟨rfl, rfl, h91, hE⟩ | ⟨rfl, h123, hM⟩⟩ := hw
  · have wd : ∀ {u : ByteArray}, 1 ≤ u.size → wordB s b u = true → b + u.size ≤ s.size ∧ (sfx s b).extract 0 u.size = u ∧ bt s (b : Int) = bt u 0 := fun {u} h1 h => by
      obtain ⟨g1, g2⟩ := word_ext h
      refine ⟨g1, g2, ?_⟩
      have := Ka.ext_bt (s := sfx s b) (p := 0) (k := u.size) (j := 0) (by omega) (by omega)
      rw [Nat.zero_add, g2] at this
      have h0 : bt (sfx s b) ((0 + 0 : Nat) : Int) = bt s (b : Int) := sfx_bt0 b
      rw [h0] at this
      exact this.symm
    rcases hlit with ⟨rfl, hno, hnum⟩ | ⟨rfl, hwd, rfl⟩ | ⟨rfl, hwd, rfl⟩ | ⟨rfl, hwd, rfl⟩
    · have hno : bt s (b : Int) = 45 ∨ (48 ≤ bt s (b : Int) ∧ bt s (b : Int) ≤ 57) := by
        simp only [numOk, Bool.or_eq_true, beq_iff_eq] at hno
        exact hno.imp id isDig_iff.1
      refine s_iteE (fun g => by omega) (fun _ => s_chk zer (s_iteE (fun g => by omega) (fun _ => s_chk zer (s_iteE (fun g => by omega) (fun _ => s_chk zer (s_iteE (fun g => by omega) (fun _ => s_chk zer (s_iteE (fun g => by omega) (fun _ => s_chk zer (s_iteE (fun g => by omega) (fun _ => ?_)))))))))))
      refine s_call (Fn.validateNumber_any (s := sfx s b) (by omega)) ?_
      rintro en w5 ⟨k5, t, v, rfl, hi, hn, hm⟩
      refine ⟨(t, v, ()), rfl, pass (text := _) ⟨hi, fun hv => ?_⟩ k5⟩
      rw [hn] at hv
      obtain ⟨m, hv⟩ := Option.isSome_iff_exists.1 hv
      rw [hm m hv]
      have hnum2 := (Fn.vn_num hv).1
      have : numE (sfx s b) 0 = some (e - b) := by
        obtain ⟨k', b', e', ns', ks'⟩ := pm
        have hqe : e' = e - b := hqe
        have hkm : k' = 3 := hkm
        have hqb : b' = 0 := hqb
        subst hqe; subst hkm; subst hqb
        unfold WfV at hwm
        obtain ⟨_, _, ⟨_, _, _, h⟩ | ⟨h, _⟩ | ⟨h, _⟩ | ⟨h, _⟩⟩ := hwm
        · rcases h with ⟨_, _, h⟩ | ⟨h, _⟩ | ⟨h, _⟩ | ⟨h, _⟩
          · exact h
          · omega
          · omega
          · omega
        · omega
        · omega
        · omega
      rw [hnum2] at this
      cases this
      have := sfx_sfx s b (e - b)
      rw [show b + (e - b) = e by omega] at this
      exact this
    · obtain ⟨g1, g2, g3⟩ := wd (u := nullW) (by decide) hwd
      have g1 : b + 4 ≤ s.size := g1
      have g2 : (sfx s b).extract 0 4 = nullW := g2
      have g3 : bt s (b : Int) = 110 := g3
      refine s_iteE (fun g => by omega) (fun _ => s_chk zer (s_iteE (fun g => by omega) (fun _ => s_chk zer (s_iteE (fun g => by omega) (fun _ => s_chk zer (s_iteE (fun g => by omega) (fun _ => s_chk zer (s_iteE (fun g => by omega) (fun _ => s_chk zer (s_iteE (fun _ => ?_) (fun g => absurd g3 g)))))))))))
      refine s_cut (fun z w' => z = (false, ()) ∧ w' = w) (s_iteD (fun g => by omega) (fun _ => s_chk (by omega) (s_leaf ?_))) ?_
      · rw [if_pos rfl, g2]
        refine ⟨(false, ()), ?_, rfl, rfl⟩
        have : strEq nullW nullW = true := strEq_iff.2 rfl
        show [Value.bool (!(strEq nullW nullW))] = _
        rw [this]; rfl
      rintro z w2 ⟨rfl, rfl⟩
      show sat _ (fastjson_validateValue.t4 (sfx s b) false) _ _
      unfold fastjson_validateValue.t4
      refine sat_iteF.2 (s_chk (by omega) (s_leaf ?_))
      rw [Int.toNat_natCast, sfx_sfx]
      exact ⟨rfl, _, _, rfl, Ends.ok, Kp.refl _ _⟩
    · obtain ⟨g1, g2, g3⟩ := wd (u := falseW) (by decide) hwd
      have g1 : b + 5 ≤ s.size := g1
      have g2 : (sfx s b).extract 0 5 = falseW := g2
      have g3 : bt s (b : Int) = 102 := g3
      refine s_iteE (fun g => by omega) (fun _ => s_chk zer (s_iteE (fun g => by omega) (fun _ => s_chk zer (s_iteE (fun g => by omega) (fun _ => s_chk zer (s_iteE (fun g => by omega) (fun _ => s_chk zer (s_iteE (fun _ => ?_) (fun g => absurd g3 g)))))))))
      refine s_cut (fun z w' => z = (false, ()) ∧ w' = w) (s_iteD (fun g => by omega) (fun _ => s_chk (by omega) (s_leaf ?_))) ?_
      · rw [if_pos rfl, g2]
        refine ⟨(false, ()), ?_, rfl, rfl⟩
        have : strEq falseW falseW = true := strEq_iff.2 rfl
        show [Value.bool (!(strEq falseW falseW))] = _
        rw [this]; rfl
      rintro z w2 ⟨rfl, rfl⟩
      show sat _ (fastjson_validateValue.t3 (sfx s b) false) _ _
      unfold fastjson_validateValue.t3
      refine sat_iteF.2 (s_chk (by omega) (s_leaf ?_))
      rw [Int.toNat_natCast, sfx_sfx]
      exact ⟨rfl, _, _, rfl, Ends.ok, Kp.refl _ _⟩
    · obtain ⟨g1, g2, g3⟩ := wd (u := trueW) (by decide) hwd
      have g1 : b + 4 ≤ s.size := g1
      have g2 : (sfx s b).extract 0 4 = trueW := g2
      have g3 : bt s (b : Int) = 116 := g3
      refine s_iteE (fun g => by omega) (fun _ => s_chk zer (s_iteE (fun g => by omega) (fun _ => s_chk zer (s_iteE (fun g => by omega) (fun _ => s_chk zer (s_iteE (fun _ => ?_) (fun g => absurd g3 g)))))))
      refine s_cut (fun z w' => z = (false, ()) ∧ w' = w) (s_iteD (fun g => by omega) (fun _ => s_chk (by omega) (s_leaf ?_))) ?_
      · rw [if_pos rfl, g2]
        refine ⟨(false, ()), ?_, rfl, rfl⟩
        have : strEq trueW trueW = true := strEq_iff.2 rfl
        show [Value.bool (!(strEq trueW trueW))] = _
        rw [this]; rfl
      rintro z w2 ⟨rfl, rfl⟩
      show sat _ (fastjson_validateValue.t2 (sfx s b) false) _ _
      unfold fastjson_validateValue.t2
      refine sat_iteF.2 (s_chk (by omega) (s_leaf ?_))
      rw [Int.toNat_natCast, sfx_sfx]
      exact ⟨rfl, _, _, rfl, Ends.ok, Kp.refl _ _⟩
  · refine s_iteE (fun g => by omega) (fun _ => s_chk zer (s_iteE (fun g => by omega) (fun _ => s_chk zer (s_iteE (fun _ => s_chk one ?_) (fun g => absurd h34 g)))))
    rw [cut1]
    obtain ⟨kk, hke, hqe⟩ := strE_QE hse
    obtain ⟨_, hok, _, _⟩ := raw_str hse
    have hext : s.extract (b + 1) (e - 1) = s.extract (b + 1) (b + 1 + kk) := by rw [hke, Nat.add_sub_cancel]
    rw [hext] at hok
    have hstr := valStr_any (w := w) hs hqe hok
    rw [← hke] at hstr
    refine s_call hstr ?_
    rintro en w5 ⟨y, tail, er, rfl, hEnds, k5, hyz⟩
    refine ⟨(y, tail, er, ()), rfl, s_chk hEnds.1 (s_ite (fun _ => ?_) (fun g => ?_))⟩
    · exact s_verr (m := e) k5 fun vs w' h => ⟨rfl, h⟩
    have hnil : isNil er = true := by
      have g : (!(isNil er)) = false := g
      cases hx : isNil er with
      | true => rfl
      | false => rw [hx] at g; cases g
    have ht := hEnds.2 hnil
    subst ht
    refine s_loop (fun m z w' => ∃ i : Nat, m = y.size - i ∧ z = ((i : Int), ()) ∧ i ≤ y.size ∧ w5 = w') y.size ((0 : Int), ()) rfl ⟨0, rfl, rfl, Nat.zero_le _, rfl⟩ ?_
    rintro m z w6 ⟨i, rfl, rfl, hiy, rfl⟩
    show sat _ (fastjson_validateValue.t1 (y, sfx s e, er, ()) (i : Int)) _ _
    unfold fastjson_validateValue.t1
    refine s_iteD (fun hlt => s_chk ⟨by omega, hlt⟩ (s_iteD (fun _ => ?_) (fun _ => s_leaf ?_))) (fun _ => s_leaf ?_)
    · exact s_verr (m := e) k5 fun vs w' h => by rw [if_neg (by decide)]; exact ⟨rfl, h⟩
    · rw [if_pos rfl]
      have hlt : (i : Int) < ((y.size : Nat) : Int) := hlt
      have w1' : IntKind.wrap IntKind.i64 ((i : Int) + 1) = ((i + 1 : Nat) : Int) := by rw [wrap_in (by omega) (by omega)]; omega
      rw [w1']
      exact ⟨y.size - (i + 1), (((i + 1 : Nat) : Int), ()), rfl, by omega, i + 1, rfl, rfl, by omega, rfl⟩
    · rw [if_neg (by decide)]
      exact ⟨rfl, sfx s e, .nilIface, rfl, Ends.ok, k5⟩
  · refine s_iteE (fun g => by omega) (fun _ => s_chk zer (s_iteE (fun _ => s_chk one ?_) (fun g => absurd h91 g)))
    rw [cut1]
    refine s_call (valArr_any hs ih hE (by omega)) ?_
    rintro en w5 ⟨tail, er, rfl, hEnds, k5⟩
    exact ⟨(tail, er, ()), rfl, pass hEnds k5⟩
  · refine s_iteE (fun _ => s_chk one ?_) (fun g => absurd h123 g)
    rw [cut1]
    refine s_call (valObj_any hs ih hM (by omega)) ?_
    rintro en w5 ⟨tail, er, rfl, hEnds, k5⟩
    exact ⟨(tail, er, ()), rfl, pass hEnds k5⟩
end Go.Proofs.YtkpnomdmnhhaoaaGreatDoor.Zv
