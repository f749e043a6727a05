/- fastjson's parseValue, parseArray, parseObject over a value of a JSON text. No statement of the set is proved here. -/
import Derived.Test.YtkpnomdmnhhaoaaGreatDoorZr
namespace Go.Proofs.YtkpnomdmnhhaoaaGreatDoor.Zv
open Go Go.Proofs Go.RowKit Go.Proofs.YtkpnomdmnhhaoaaGreatDoor.Rx Go.Proofs.YtkpnomdmnhhaoaaGreatDoor.Tr Go.Proofs.YtkpnomdmnhhaoaaGreatDoor.Pl Go.Proofs.YtkpnomdmnhhaoaaGreatDoor.Pw Go.Proofs.YtkpnomdmnhhaoaaGreatDoor.Sk Go.Proofs.YtkpnomdmnhhaoaaGreatDoor.Zs
open Go.Proofs.YtkpnomdmnhhaoaaGreatDoor.Sr (Sl slV)

variable {w w0 w' w'' w1 : World} {gp o : Nat} {x0 x x1 x2 : Sl} {v c : Nat × Nat} {s : ByteArray}
mutual
/-- How deep a value is. -/
def lv : PT → Nat
  | .mk _ _ _ _ ks => lvL ks + 1
def lvL : List PT → Nat
  | [] => 0
  | p :: ks => max (lv p) (lvL ks)
end
theorem lv_mem : ∀ (ks : List PT) (q : PT), q ∈ ks → lv q ≤ lvL ks
  | [], q, h => by cases h
  | p :: ks, q, h => by
    unfold lvL
    rcases List.mem_cons.1 h with rfl | h
    · exact Nat.le_max_left _ _
    · exact Nat.le_trans (lv_mem ks q h) (Nat.le_max_right _ _)
/-- The byte that a value begins with. -/
def St (c : Int) : Prop := c = 34 ∨ c = 91 ∨ c = 123 ∨ c = 110 ∨ c = 102 ∨ c = 116 ∨ c = 45 ∨ (48 ≤ c ∧ c ≤ 57)
theorem start_byte {p : PT} (h : WfV s p) : St (bt s (p.b : Int)) := by
  obtain ⟨k, b, e, ns, ks⟩ := p
  unfold WfV at h
  show St (bt s (b : Int))
  unfold St
  have word : ∀ {u : ByteArray}, 0 < u.size → wordB s b u = true → bt s (b : Int) = bt u (0 : Int) := fun {u} hu h => wordB_at h 0 hu
  obtain ⟨_, _, ⟨_, _, _, ⟨_, h, _⟩ | ⟨_, h, _⟩ | ⟨_, h, _⟩ | ⟨_, h, _⟩⟩ | ⟨_, _, _, h, _⟩ | ⟨_, _, h, _⟩ | ⟨_, h, _⟩⟩ := h
  · simp only [numOk, Bool.or_eq_true, beq_iff_eq] at h
    rcases h with h | h
    · omega
    · have := isDig_iff.1 h; omega
  · have := word (by decide) h
    have e : bt nullW (0 : Int) = 110 := by decide
    omega
  · have := word (by decide) h
    have e : bt falseW (0 : Int) = 102 := by decide
    omega
  · have := word (by decide) h
    have e : bt trueW (0 : Int) = 116 := by decide
    omega
  · omega
  · omega
  · omega
/-- A number ends ahead of what may stand behind a value. -/
theorem delim {j : Nat} {c : Int} (h : bt s (bl s j : Int) = c) (hc : c = 93 ∨ c = 44 ∨ c = 125 ∨ c = 0) : isN (bt s (j : Int)) = false := by
  cases hb : isB (bt s (j : Int)) with
  | true =>
    have := isB_iff.1 hb
    exact isN_no (by omega)
  | false =>
    rw [bl_no hb] at h
    exact isN_no (by omega)
/-- What a function that reads a value says. -/
def PvPost (s : ByteArray) (p : PT) (gp o : Nat) (x : Sl) (w : World) (e : Ending) (w' : World) : Prop :=
  ∃ (x1 : Sl) (v : Nat × Nat), e = .returned (.tuple #[ptrV v, .string (sfx s p.e), .nilIface]) ∧ CS w' gp o x1 ∧ Adv x w.heap.size x1 w'.heap.size ∧ Kc (On gp) x w w' ∧ VAt s w' p v (Reg x w.heap.size x1 w'.heap.size) ∧ x1.2.1 ≤ x.2.1 + (p.e - p.b)
theorem PvPost.pre {p : PT} {e : Ending} (k : Kp Off w w1) (h : PvPost s p gp o x w1 e w') : PvPost s p gp o x w e w' := by
  obtain ⟨x1, v, h1, h2, h3, h4, h5, h6⟩ := h
  have hg := Adv.grow x k.size
  exact ⟨x1, v, h1, h2, hg.trans h3, (Kc.of (Kp.off k)).trans hg h4, h5.sub fun y hy => hy.later hg, h6⟩
/-- What is asked of parseValue for values of fewer than N bytes. -/
def PV (s : ByteArray) (N : Nat) : Prop :=
  ∀ (p : PT) (w : World) (x : Sl) (d gp o : Nat), p.e - p.b < N → WfV s p → (p.k = 3 → isN (bt s (p.e : Int)) = false) → CS w gp o x → x.2.1 + (p.e - p.b) ≤ 100000 → d + lv p ≤ 300 →
    Calls Tryz.prog 27 #[.pointer (some ⟨gp, o, none⟩), .string (sfx s p.b), .int .i64 d] w (PvPost s p gp o x w)
theorem sfx_bt0 (i : Nat) : bt (sfx s i) (0 : Int) = bt s (i : Int) := sfx_bt s i 0
theorem bl_start {j : Nat} (h : St (bt s (bl s j : Int))) : bl s (bl s j) = bl s j := bl_no (isB_no (by unfold St at h; omega))
/-- An array. -/
theorem arr_any {N b e d : Nat} {ks : List PT} (hs : s.size ≤ 100000) (ih : PV s N) (hw : WfV s (.mk 5 b e [] ks)) (hN : e - b ≤ N) (hC : CS w gp o x) (hx : x.2.1 + (e - b) ≤ 100000) (hd : d + lvL ks ≤ 300) :
    Calls Tryz.prog 45 #[.pointer (some ⟨gp, o, none⟩), .string (sfx s (b + 1)), .int .i64 d] w (PvPost s (.mk 5 b e [] ks) gp o x w) := by
  obtain ⟨hbe, hes, hE⟩ : b < e ∧ e ≤ s.size ∧ WfE s true (b + 1) ks e := by
    unfold WfV at hw
    obtain ⟨h1, h2, ⟨_, _, _, h⟩ | ⟨h, _⟩ | ⟨_, _, _, h⟩ | ⟨h, _⟩⟩ := hw
    · rcases h with ⟨g, _⟩ | ⟨g, _⟩ | ⟨g, _⟩ | ⟨g, _⟩ <;> omega
    · omega
    · exact ⟨h1, h2, h⟩
    · omega
  have hs62 : s.size < 4611686018427387904 := by omega
  have hbl := bl_ge s (b + 1)
  refine fastjson_cache_parseArray.calls _ _ _ ?_
  unfold fastjson_cache_parseArray.t
  refine s_call (skip_any hs62) ?_
  rintro en w1 ⟨rfl, rfl⟩
  refine ⟨sfx s (bl s (b + 1)), rfl, ?_⟩
  have hz := sfx_size s (bl s (b + 1))
  rw [sfx_bt0]
  cases ks with
  | nil =>
    unfold WfE at hE
    obtain ⟨h93, rfl⟩ := hE
    have hlt : bl s (b + 1) < s.size := lt_of_bt (by omega)
    refine s_iteE (fun g => by omega) (fun _ => s_chk (by omega) (s_iteE (fun _ => ?_) (fun g => absurd h93 g)))
    refine s_call (getValue_any hC (by omega)) ?_
    intro en w2 hG
    obtain ⟨x1, v, rfl, hx1, P1⟩ := PS.of hG
    refine ⟨some ⟨v.1, v.2, none⟩, rfl, s_ptr (s_store (P1.at_ (j := 4) rfl).1 (P1.at_ (j := 4) rfl).2 ?_)⟩
    rw [addr_add]
    have P2 := P1.put (i := 4) (by decide) (.int .i64 2)
    generalize w2.setCell ⟨v.1, v.2 + 4, none⟩ (.int .i64 2) = w3 at P2
    refine s_ptr (s_load (none, 0, 0) (P2.at_ (j := 2) rfl).1 (s_chk (by decide) (s_ptr (s_store (P2.at_ (j := 2) rfl).1 (P2.at_ (j := 2) rfl).2 ?_))))
    show sat _ _ _ (w3.setCell (Addr.add ⟨v.1, v.2, none⟩ 2) (slV (none, 0, 0)))
    rw [addr_add]
    have P3 := P2.put (i := 2) (by decide) (slV (none, 0, 0))
    generalize w3.setCell ⟨v.1, v.2 + 2, none⟩ (slV (none, 0, 0)) = w4 at P3
    have P4 := P3.off ((Kp.refl Off w4).drew)
    refine s_drew (s_chk (by omega) (s_leaf ⟨rfl, ?_⟩))
    rw [Int.toNat_natCast, sfx_sfx]
    exact ⟨x1, v, rfl, P4.cache, P4.adv, P4.keep, PS.vat (k := 5) (b := b) P4, by rw [hx1]; show x.2.1 + 1 ≤ x.2.1 + (bl s (b + 1) + 1 - b); omega⟩
  | cons q0 rs0 =>
    unfold WfE at hE
    obtain ⟨hq, hwq, hrs⟩ := hE
    rw [if_pos rfl] at hq
    have hst := start_byte hwq
    rw [hq] at hst
    have hlt : bl s (b + 1) < s.size := by have := hwq.lt; omega
    unfold St at hst
    refine s_iteE (fun g => by omega) (fun _ => s_chk (by omega) (s_iteE (fun g => by omega) (fun _ => ?_)))
    refine s_call (getValue_any hC (by omega)) ?_
    intro en w2 hG
    obtain ⟨x1, v, rfl, hx1, P1⟩ := PS.of hG
    refine ⟨some ⟨v.1, v.2, none⟩, rfl, s_ptr (s_store (P1.at_ (j := 4) rfl).1 (P1.at_ (j := 4) rfl).2 ?_)⟩
    rw [addr_add]
    have P2 := P1.put (i := 4) (by decide) (.int .i64 2)
    generalize w2.setCell ⟨v.1, v.2 + 4, none⟩ (.int .i64 2) = w3 at P2
    refine s_ptr (s_load (none, 0, 0) (P2.at_ (j := 2) rfl).1 (s_chk (by decide) (s_ptr (s_store (P2.at_ (j := 2) rfl).1 (P2.at_ (j := 2) rfl).2 ?_))))
    show sat _ _ _ (w3.setCell (Addr.add ⟨v.1, v.2, none⟩ 2) (slV (none, 0, 0)))
    rw [addr_add]
    have P3 := P2.put (i := 2) (by decide) (slV (none, 0, 0))
    generalize w3.setCell ⟨v.1, v.2 + 2, none⟩ (slV (none, 0, 0)) = w4 at P3
    have N3 : NS s gp o x w1 x1 w4 v (vc (none, 0, 0) false (none, 0, 0) (ByteArray.mk #[]) 2) tPv 1 (none, 0, 0) 0 [] [] [] (fun _ => False) := NS.of P3 hC
    clear P1 P2 P3 hG
    refine s_loop (fun n z w' => ∃ (dn : List PT) (q : PT) (rs : List PT) (j : Nat) (x1 a : Sl) (ad : List (Nat × Nat)) (G : Nat × Nat → Prop), n = rs.length ∧ z = (sfx s j, ()) ∧ q0 :: rs0 = dn ++ q :: rs ∧ b < j ∧ bl s j = q.b ∧ WfV s q ∧ WfE s false q.e rs e ∧
      NS s gp o x w1 x1 w' v (vc (none, 0, 0) false a (ByteArray.mk #[]) 2) tPv 1 a dn.length (ad.map ptrV) dn ad G ∧ x1.2.1 ≤ x.2.1 + (j - b)) rs0.length (sfx s (bl s (b + 1)), ()) rfl
      ⟨[], q0, rs0, bl s (b + 1), x1, (none, 0, 0), [], fun _ => False, rfl, rfl, rfl, by omega, by rw [bl_start (by unfold St; omega)]; exact hq.symm, hwq, hrs, N3, by omega⟩ ?_
    clear N3 hst hq hwq hrs hx1 hz hlt
    rintro n z w5 ⟨dn, q, rs, j, x1, a, ad, G, rfl, rfl, hks, hbj, hblj, hwq, hrs, N0, hx1⟩
    show sat _ (fastjson_cache_parseArray.t1 (some ⟨gp, o, none⟩) (d : Int) (some ⟨v.1, v.2, none⟩) (sfx s j)) _ _
    unfold fastjson_cache_parseArray.t1
    have hql := hwq.lt
    have hjq := bl_ge s j
    -- what comes behind
    have hnext : q.e < e ∧ (bt s (bl s q.e : Int) = 93 ∨ bt s (bl s q.e : Int) = 44) := by
      cases rs with
      | nil =>
        unfold WfE at hrs
        have := bl_ge s q.e
        exact ⟨by omega, .inl hrs.1⟩
      | cons r rs =>
        have := Ka.wfE_len _ _ _ _ hrs
        unfold WfE at hrs
        rw [if_neg (by decide)] at hrs
        exact ⟨by rw [List.length_cons] at this; omega, .inr hrs.1.1⟩
    have hlvq : lv q ≤ lvL (q0 :: rs0) := lv_mem _ _ (by rw [hks]; simp)
    have hdl : dn.length + rs.length + 1 = rs0.length + 1 := by
      have := congrArg List.length hks
      simp at this
      omega
    have hlen : (q0 :: rs0).length ≤ s.size := (Lj.wf_len hw).1
    rw [List.length_cons] at hlen
    refine s_call (skip_any hs62) ?_
    rintro en w6 ⟨rfl, rfl⟩
    refine ⟨sfx s (bl s j), rfl, ?_⟩
    rw [hblj]
    refine s_call (ih q w6 x1 d gp o (by omega) hwq (fun _ => delim (c := bt s (bl s q.e : Int)) rfl (by omega)) N0.ps.cache (by omega) (by omega)) ?_
    rintro en w7 ⟨x2, c, rfl, hC2, hA2, hK2, hV2, hn2⟩
    obtain ⟨N1, hsepF⟩ := N0.child hK2 hA2 hC2
    refine ⟨(some ⟨c.1, c.2, none⟩, sfx s q.e, .nilIface, ()), rfl, s_chk rfl (sat_iteF.2 (s_ptr (s_load a (N1.ps.at_ (j := 2) rfl).1 ?_)))⟩
    have hti := info_some (P := Tryz.prog) (t := tPv) (by kernel_rfl)
    obtain ⟨w8, hb, sa, sc, w9, hap, hO9, k9, hblk9⟩ := push_run (P := Tryz.prog) (t := tPvs) (size := 1) (z0 := .pointer none) Tryz.underlying70 hti (by kernel_rfl) (by kernel_rfl) (of_decide_eq_true (by kernel_rfl)) rfl (by decide) (by decide) N1.row (ptrV c) [ptrV c] rfl rfl
      (by intro u hu; simp at hu; subst hu; rfl) (by omega) N1.ps.adv.1
    refine s_eff (some ⟨w7.heap.size, 0, none⟩, 1, 1) hb (s_eff (sa, dn.length + 1, sc) hap ?_)
    have N2 := N1.grow (a' := (sa, dn.length + 1, sc)) k9 hO9 hblk9
    have V2 := kid_kp k9 hV2 fun y hy => (hsepF y hy).2.2
    have N3 := N2.add V2 fun y hy => ⟨(hy.later N0.ps.adv).sub (Adv.grow x2 k9.size), (hsepF y hy).2.1, (hsepF y hy).1, fun b hb c => by
      rcases hblk9 b hb with g | g
      · exact (hsepF y hy).2.2 b g c
      · have := hy.2.1
        omega⟩
    refine s_ptr (s_store (N3.ps.at_ (j := 2) rfl).1 (N3.ps.at_ (j := 2) rfl).2 ?_)
    show sat _ _ _ (w9.setCell (Addr.add ⟨v.1, v.2, none⟩ 2) (slV (sa, dn.length + 1, sc)))
    rw [addr_add]
    have N4 := N3.put (i := 2) (by decide) (slV (sa, dn.length + 1, sc))
    generalize w9.setCell ⟨v.1, v.2 + 2, none⟩ (slV (sa, dn.length + 1, sc)) = w10 at N4
    have N5 : NS s gp o x w1 x2 w10 v (vc (none, 0, 0) false (sa, dn.length + 1, sc) (ByteArray.mk #[]) 2) tPv 1 (sa, dn.length + 1, sc) (dn ++ [q]).length ((ad ++ [c]).map ptrV) (dn ++ [q]) (ad ++ [c]) (fun y => G y ∨ Reg x1 w6.heap.size x2 w7.heap.size y) := by
      rw [List.length_append, List.map_append]; exact N4
    clear N0 N1 N2 N3 N4 V2 hsepF hV2
    refine s_call (skip_any hs62) ?_
    rintro en w11 ⟨rfl, rfl⟩
    refine ⟨sfx s (bl s q.e), rfl, ?_⟩
    have hz := sfx_size s (bl s q.e)
    have hlt : bl s q.e < s.size := by
      rcases hnext.2 with g | g <;> exact lt_of_bt (by omega)
    have hbq := bl_ge s q.e
    refine s_iteE (fun g => by omega) (fun _ => s_chk (by omega) ?_)
    rw [sfx_bt0]
    cases rs with
    | nil =>
      unfold WfE at hrs
      obtain ⟨h93, rfl⟩ := hrs
      refine s_iteE (fun g => by omega) (fun _ => s_chk (by omega) (s_iteE (fun _ => s_chk (by omega) (s_leaf ?_)) (fun g => absurd h93 g)))
      rw [if_neg (by decide), Int.toNat_natCast, sfx_sfx, hks]
      exact ⟨rfl, x2, v, rfl, N5.ps.cache, N5.ps.adv, N5.ps.keep, N5.vatA, by show x2.2.1 ≤ x.2.1 + (bl s q.e + 1 - b); omega⟩
    | cons r rs =>
      unfold WfE at hrs
      rw [if_neg (by decide)] at hrs
      obtain ⟨⟨h44, hrb⟩, hwr, hrs⟩ := hrs
      refine s_iteE (fun _ => s_chk (by omega) (s_leaf ?_)) (fun g => absurd h44 g)
      rw [if_pos rfl, Int.toNat_natCast, sfx_sfx]
      exact ⟨rs.length, (sfx s (bl s q.e + 1), ()), rfl, by simp, dn ++ [q], r, rs, bl s q.e + 1, x2, (sa, dn.length + 1, sc), ad ++ [c], _, rfl, rfl, by rw [hks]; simp, by omega, hrb.symm, hwr, hrs, N5, by omega⟩
theorem kvC_snoc {ns : List (Nat × Nat)} {ad : List (Nat × Nat)} (n : Nat × Nat) (c : Nat × Nat) (h : ns.length = ad.length) : kvC s (ns ++ [n]) (ad ++ [c]) = kvC s ns ad ++ [.string (s.extract (n.1 + 1) (n.2 - 1)), ptrV c] := by
  unfold kvC
  rw [List.zip_append h, List.flatMap_append]
  rfl
theorem set_two {l : List Value} {u0 u1 a b : Value} {i : Nat} (h : l.length = i) : ((l ++ [u0, u1]).set i a).set (i + 1) b = l ++ [a, b] := by
  subst h
  rw [List.set_append_right _ _ (Nat.le_refl _), Nat.sub_self, List.set_append_right _ _ (Nat.le_succ _), show l.length.succ - l.length = 1 by omega]
  rfl
/-- An object. -/
theorem obj_any {N b e d : Nat} {ns : List (Nat × Nat)} {ks : List PT} (hs : s.size ≤ 100000) (ih : PV s N) (hw : WfV s (.mk 6 b e ns ks)) (hN : e - b ≤ N) (hC : CS w gp o x) (hx : x.2.1 + (e - b) ≤ 100000) (hd : d + lvL ks ≤ 300) :
    Calls Tryz.prog 44 #[.pointer (some ⟨gp, o, none⟩), .string (sfx s (b + 1)), .int .i64 d] w (PvPost s (.mk 6 b e ns ks) gp o x w) := by
  obtain ⟨hbe, hes, hM⟩ : b < e ∧ e ≤ s.size ∧ WfM s true (b + 1) ns ks e := by
    unfold WfV at hw
    obtain ⟨h1, h2, ⟨_, _, _, h⟩ | ⟨h, _⟩ | ⟨h, _⟩ | ⟨_, _, h⟩⟩ := hw
    · rcases h with ⟨g, _⟩ | ⟨g, _⟩ | ⟨g, _⟩ | ⟨g, _⟩ <;> omega
    · omega
    · omega
    · exact ⟨h1, h2, h⟩
  have hs62 : s.size < 4611686018427387904 := by omega
  have hbl := bl_ge s (b + 1)
  refine fastjson_cache_parseObject.calls _ _ _ ?_
  unfold fastjson_cache_parseObject.t
  refine s_call (skip_any hs62) ?_
  rintro en w1 ⟨rfl, rfl⟩
  refine ⟨sfx s (bl s (b + 1)), rfl, ?_⟩
  have hz := sfx_size s (bl s (b + 1))
  rw [sfx_bt0]
  cases ks with
  | nil =>
    unfold WfM at hM
    obtain ⟨rfl, h125, rfl⟩ := hM
    have hlt : bl s (b + 1) < s.size := lt_of_bt (by omega)
    refine s_iteE (fun g => by omega) (fun _ => s_chk (by omega) (s_iteE (fun _ => ?_) (fun g => absurd h125 g)))
    refine s_call (getValue_any hC (by omega)) ?_
    intro en w2 hG
    obtain ⟨x1, v, rfl, hx1, P1⟩ := PS.of hG
    refine ⟨some ⟨v.1, v.2, none⟩, rfl, s_ptr (s_store (P1.at_ (j := 4) rfl).1 (P1.at_ (j := 4) rfl).2 ?_)⟩
    rw [addr_add]
    have P2 := P1.put (i := 4) (by decide) (.int .i64 1)
    generalize w2.setCell ⟨v.1, v.2 + 4, none⟩ (.int .i64 1) = w3 at P2
    refine s_ptr ?_
    rw [addr_add, Nat.add_zero]
    refine s_call (oreset_any P2.node) ?_
    rintro en w4 ⟨rfl, rfl⟩
    have P3 := P2.oreset rfl
    generalize (w3.setCell ⟨v.1, v.2, none⟩ (slV (none, 0, 0))).setCell ⟨v.1, v.2 + 1, none⟩ (.bool false) = w4 at P3
    have P4 := P3.off ((Kp.refl Off w4).drew)
    refine ⟨(), rfl, s_drew (s_chk (by omega) (s_leaf ⟨rfl, ?_⟩))⟩
    rw [Int.toNat_natCast, sfx_sfx]
    exact ⟨x1, v, rfl, P4.cache, P4.adv, P4.keep, PS.vat (k := 6) (b := b) P4, by rw [hx1]; show x.2.1 + 1 ≤ x.2.1 + (bl s (b + 1) + 1 - b); omega⟩
  | cons q0 rs0 =>
    have hM0 := hM
    unfold WfM at hM
    obtain ⟨n0, ns0, rfl, hq, hn34, hnE, hn58, hqb, hwq, hrs⟩ := hM
    rw [if_pos rfl] at hq
    have hlt : bl s (b + 1) < s.size := lt_of_bt (by rw [← hq]; omega)
    rw [hq] at hn34
    refine s_iteE (fun g => by omega) (fun _ => s_chk (by omega) (s_iteE (fun g => by omega) (fun _ => ?_)))
    refine s_call (getValue_any hC (by omega)) ?_
    intro en w2 hG
    obtain ⟨x1, v, rfl, hx1, P1⟩ := PS.of hG
    refine ⟨some ⟨v.1, v.2, none⟩, rfl, s_ptr (s_store (P1.at_ (j := 4) rfl).1 (P1.at_ (j := 4) rfl).2 ?_)⟩
    rw [addr_add]
    have P2 := P1.put (i := 4) (by decide) (.int .i64 1)
    generalize w2.setCell ⟨v.1, v.2 + 4, none⟩ (.int .i64 1) = w3 at P2
    refine s_ptr ?_
    rw [addr_add, Nat.add_zero]
    refine s_call (oreset_any P2.node) ?_
    rintro en w4 ⟨rfl, rfl⟩
    have P3 := P2.oreset rfl
    generalize (w3.setCell ⟨v.1, v.2, none⟩ (slV (none, 0, 0))).setCell ⟨v.1, v.2 + 1, none⟩ (.bool false) = w4 at P3
    refine ⟨(), rfl, ?_⟩
    have N3 : NS s gp o x w1 x1 w4 v (vc (none, 0, 0) false (none, 0, 0) (ByteArray.mk #[]) 1) tKv 2 (none, 0, 0) 0 [] [] [] (fun _ => False) := NS.of P3 hC
    clear P1 P2 P3 hG
    refine s_loop (fun m z w' => ∃ (dn : List PT) (q : PT) (rs : List PT) (dns : List (Nat × Nat)) (n : Nat × Nat) (rns : List (Nat × Nat)) (j : Nat) (x1 a : Sl) (ad : List (Nat × Nat)) (G : Nat × Nat → Prop), m = rs.length ∧ z = (sfx s j, ()) ∧ q0 :: rs0 = dn ++ q :: rs ∧ n0 :: ns0 = dns ++ n :: rns ∧ dns.length = dn.length ∧ b < j ∧ bl s j = n.1 ∧
      bt s (n.1 : Int) = 34 ∧ strE s (n.1 + 1) = some n.2 ∧ bt s (bl s n.2 : Int) = 58 ∧ q.b = bl s (bl s n.2 + 1) ∧ WfV s q ∧ WfM s false q.e rns rs e ∧
      NS s gp o x w1 x1 w' v (vc a false (none, 0, 0) (ByteArray.mk #[]) 1) tKv 2 a dn.length (kvC s dns ad) dn ad G ∧ x1.2.1 ≤ x.2.1 + (j - b)) rs0.length (sfx s (bl s (b + 1)), ()) rfl
      ⟨[], q0, rs0, [], n0, ns0, bl s (b + 1), x1, (none, 0, 0), [], fun _ => False, rfl, rfl, rfl, rfl, rfl, by omega, by rw [bl_start (by unfold St; omega)]; exact hq.symm, by rw [hq]; exact hn34, hnE, hn58, hqb, hwq, hrs, N3, by omega⟩ ?_
    clear N3 hq hn34 hnE hn58 hqb hwq hrs hx1 hz hlt
    rintro m z w5 ⟨dn, q, rs, dns, n, rns, j, x1, a, ad, G, rfl, rfl, hks, hns, hdns, hbj, hblj, hn34, hnE, hn58, hqb, hwq, hrs, N0, hx1⟩
    show sat _ (fastjson_cache_parseObject.t1 (some ⟨gp, o, none⟩) (d : Int) (some ⟨v.1, v.2, none⟩) (sfx s j)) _ _
    unfold fastjson_cache_parseObject.t1
    have hql := hwq.lt
    have hjn := bl_ge s j
    have hnl := strE_le hnE
    have hb1 := bl_ge s n.2
    have hb2 := bl_ge s (bl s n.2 + 1)
    have hnext : q.e < e ∧ (bt s (bl s q.e : Int) = 125 ∨ bt s (bl s q.e : Int) = 44) := by
      cases rs with
      | nil =>
        unfold WfM at hrs
        have := bl_ge s q.e
        exact ⟨by omega, .inl hrs.2.1⟩
      | cons r rs =>
        have := Lj.wfM_len _ _ _ _ _ hrs
        unfold WfM at hrs
        obtain ⟨_, _, _, h1, _⟩ := hrs
        rw [if_neg (by decide)] at h1
        exact ⟨by rw [List.length_cons] at this; omega, .inr h1.1⟩
    have hlvq : lv q ≤ lvL (q0 :: rs0) := lv_mem _ _ (by rw [hks]; simp)
    have hdl : dn.length + rs.length + 1 = rs0.length + 1 := by
      have := congrArg List.length hks
      simp at this
      omega
    have hlen : (q0 :: rs0).length ≤ s.size := (Lj.wf_len hw).1
    rw [List.length_cons] at hlen
    have hadl : ad.length = dn.length := AllV.len _ _ _ N0.all
    have hkl : (kvC s dns ad).length = dn.length * 2 := N0.row.1
    refine s_ptr ?_
    rw [addr_add, Nat.add_zero]
    refine s_call (getKV_any N0.ps.node N0.row N0.ps.adv.1 (fun g hg => (N0.sep g hg).2.1) (by omega)) ?_
    rintro en w6 ⟨kvs', g, u0, u1, wk, rfl, hg, hOk, kk, hbk, rfl⟩
    have N1 := N0.grow kk hOk fun b hb => by
      have : b = g := (own_blk_iff hg).1 hb
      rw [this]; exact hbk
    have N2 := (N1.put (i := 0) (by decide) (slV kvs')).off ((Kp.refl Off _).drew)
    have N2 : NS s gp o x w1 x1 (wk.setCell ⟨v.1, v.2, none⟩ (slV kvs')).drew v (vc kvs' false (none, 0, 0) (ByteArray.mk #[]) 1) tKv 2 kvs' (dn.length + 1) (kvC s dns ad ++ [u0, u1]) dn ad G := N2
    generalize (wk.setCell ⟨v.1, v.2, none⟩ (slV kvs')).drew = w6 at N2
    clear N0 N1 hOk kk hbk
    refine ⟨some ⟨g, dn.length * 2, none⟩, rfl, ?_⟩
    refine s_call (skip_any hs62) ?_
    rintro en w7 ⟨rfl, rfl⟩
    refine ⟨sfx s (bl s j), rfl, ?_⟩
    rw [hblj]
    have hzn := sfx_size s n.1
    refine s_cut (fun y w' => y = (false, ()) ∧ w' = w7) ?_ ?_
    · refine s_iteE (fun g => by omega) (fun _ => s_chk (by omega) (s_leaf ?_))
      rw [if_pos rfl, sfx_bt0, hn34]
      exact ⟨(false, ()), rfl, rfl, rfl⟩
    rintro y w8 ⟨rfl, rfl⟩
    show sat _ (fastjson_cache_parseObject.t2 (some ⟨gp, o, none⟩) (d : Int) (some ⟨v.1, v.2, none⟩) (some ⟨g, dn.length * 2, none⟩) (sfx s n.1) false) _ _
    unfold fastjson_cache_parseObject.t2
    refine sat_iteF.2 (s_chk (by omega) ?_)
    rw [Int.toNat_natCast, sfx_sfx]
    obtain ⟨k, hk, hQ⟩ := strE_QE hnE
    refine s_call (rawKey_any hs62 hQ) ?_
    rintro en w9 ⟨rfl, k9⟩
    have N3 := N2.off k9
    refine ⟨(s.extract (n.1 + 1) (n.1 + 1 + k), sfx s (n.1 + 1 + k + 1), .nilIface, ()), rfl, ?_⟩
    have hkey : s.extract (n.1 + 1) (n.1 + 1 + k) = s.extract (n.1 + 1) (n.2 - 1) := by rw [hk]; rfl
    rw [← hk]
    have hx0 : (kvC s dns ad ++ [u0, u1])[dn.length * 2]? = some u0 := by rw [List.getElem?_append_right (by omega), hkl, Nat.sub_self]; rfl
    obtain ⟨rc, rf⟩ := N3.rowat hg hx0
    refine s_ptr (s_store rc rf ?_)
    rw [addr_add, Nat.add_zero]
    have N4 := N3.rowset hg (j := dn.length * 2) (by omega) (.string (s.extract (n.1 + 1) (n.1 + 1 + k)))
    generalize w9.setCell ⟨g, dn.length * 2, none⟩ (.string (s.extract (n.1 + 1) (n.1 + 1 + k))) = w10 at N4
    refine s_chk rfl (sat_iteF.2 ?_)
    refine s_call (skip_any hs62) ?_
    rintro en w11 ⟨rfl, rfl⟩
    refine ⟨sfx s (bl s n.2), rfl, ?_⟩
    have hz58 := sfx_size s (bl s n.2)
    have hlt58 : bl s n.2 < s.size := lt_of_bt (by omega)
    refine s_cut (fun y w' => y = (false, ()) ∧ w' = w11) ?_ ?_
    · refine s_iteE (fun g => by omega) (fun _ => s_chk (by omega) (s_leaf ?_))
      rw [if_pos rfl, sfx_bt0, hn58]
      exact ⟨(false, ()), rfl, rfl, rfl⟩
    rintro y w12 ⟨rfl, rfl⟩
    show sat _ (fastjson_cache_parseObject.t3 (some ⟨gp, o, none⟩) (d : Int) (some ⟨v.1, v.2, none⟩) (some ⟨g, dn.length * 2, none⟩) (sfx s (bl s n.2)) false) _ _
    unfold fastjson_cache_parseObject.t3
    refine sat_iteF.2 (s_chk (by omega) ?_)
    rw [Int.toNat_natCast, sfx_sfx]
    refine s_call (skip_any hs62) ?_
    rintro en w13 ⟨rfl, rfl⟩
    refine ⟨sfx s (bl s (bl s n.2 + 1)), rfl, ?_⟩
    rw [← hqb]
    refine s_call (ih q w13 x1 d gp o (by omega) hwq (fun _ => delim (c := bt s (bl s q.e : Int)) rfl (by omega)) N4.ps.cache (by omega) (by omega)) ?_
    rintro en w14 ⟨x2, c, rfl, hC2, hA2, hK2, hV2, hn2⟩
    obtain ⟨N5, hsepF⟩ := N4.child hK2 hA2 hC2
    refine ⟨(some ⟨c.1, c.2, none⟩, sfx s q.e, .nilIface, ()), rfl, ?_⟩
    have hx1' : ((kvC s dns ad ++ [u0, u1]).set (dn.length * 2) (.string (s.extract (n.1 + 1) (n.1 + 1 + k))))[dn.length * 2 + 1]? = some u1 := by
      rw [List.getElem?_set_ne (by omega), List.getElem?_append_right (by omega), hkl, Nat.add_sub_cancel_left]; rfl
    obtain ⟨rc1, rf1⟩ := N5.rowat hg hx1'
    rw [addr_add, Nat.add_zero] at rc1 rf1
    refine s_ptr (s_store (by rw [addr_add]; exact rc1) (by rw [addr_add]; exact rf1) ?_)
    rw [addr_add]
    have k15 : Kp (fun b => some b = (slV kvs').ownBlock) w14 (w14.setCell ⟨g, dn.length * 2 + 1, none⟩ (ptrV c)) := (Kp.refl _ w14).set (a := ⟨g, dn.length * 2 + 1, none⟩) ((own_blk_iff hg).2 rfl) (ptrV c)
    have N6 := N5.rowset hg (j := dn.length * 2 + 1) (by omega) (ptrV c)
    have V2 := kid_kp k15 hV2 fun y hy => (hsepF y hy).2.2
    have N7 := N6.add V2 fun y hy => ⟨(hy.later N4.ps.adv).sub (Adv.grow x2 k15.size), (hsepF y hy).2.1, (hsepF y hy).1, (hsepF y hy).2.2⟩
    show sat _ _ _ (w14.setCell ⟨g, dn.length * 2 + 1, none⟩ (ptrV c))
    generalize w14.setCell ⟨g, dn.length * 2 + 1, none⟩ (ptrV c) = w15 at N7
    have N8 : NS s gp o x w1 x2 w15 v (vc kvs' false (none, 0, 0) (ByteArray.mk #[]) 1) tKv 2 kvs' (dn ++ [q]).length (kvC s (dns ++ [n]) (ad ++ [c])) (dn ++ [q]) (ad ++ [c]) (fun y => G y ∨ Reg x1 w13.heap.size x2 w14.heap.size y) := by
      rw [List.length_append, kvC_snoc n c (by omega), ← hkey, ← set_two (u0 := u0) (u1 := u1) hkl]; exact N7
    clear N2 N3 N4 N5 N6 N7 V2 hsepF hV2
    refine s_chk rfl (sat_iteF.2 ?_)
    refine s_call (skip_any hs62) ?_
    rintro en w16 ⟨rfl, rfl⟩
    refine ⟨sfx s (bl s q.e), rfl, ?_⟩
    have hz := sfx_size s (bl s q.e)
    have hlt : bl s q.e < s.size := by
      rcases hnext.2 with g | g <;> exact lt_of_bt (by omega)
    have hbq := bl_ge s q.e
    refine s_iteE (fun g => by omega) (fun _ => s_chk (by omega) ?_)
    rw [sfx_bt0]
    cases rs with
    | nil =>
      unfold WfM at hrs
      obtain ⟨rfl, h125, rfl⟩ := hrs
      refine s_iteE (fun g => by omega) (fun _ => s_chk (by omega) (s_iteE (fun _ => s_drew (s_chk (by omega) (s_leaf ?_))) (fun g => absurd h125 g)))
      have N9 := N8.off ((Kp.refl Off w16).drew)
      rw [if_neg (by decide), Int.toNat_natCast, sfx_sfx, hks, hns]
      exact ⟨rfl, x2, v, rfl, N9.ps.cache, N9.ps.adv, N9.ps.keep, N9.vatO (by simp [hdns]), by show x2.2.1 ≤ x.2.1 + (bl s q.e + 1 - b); omega⟩
    | cons r rs =>
      unfold WfM at hrs
      obtain ⟨n', rns', rfl, h1, h34, hE', h58, hrb, hwr, hrs⟩ := hrs
      rw [if_neg (by decide)] at h1
      obtain ⟨h44, hn'⟩ := h1
      refine s_iteE (fun _ => s_chk (by omega) (s_leaf ?_)) (fun g => absurd h44 g)
      rw [if_pos rfl, Int.toNat_natCast, sfx_sfx]
      exact ⟨rs.length, (sfx s (bl s q.e + 1), ()), rfl, by simp, dn ++ [q], r, rs, dns ++ [n], n', rns', bl s q.e + 1, x2, kvs', ad ++ [c], _, rfl, rfl, by rw [hks]; simp, by rw [hns]; simp, by simp [hdns], by omega, hn'.symm, h34, hE', h58, hrb, hwr, hrs, N8, by omega⟩
end Go.Proofs.YtkpnomdmnhhaoaaGreatDoor.Zv
