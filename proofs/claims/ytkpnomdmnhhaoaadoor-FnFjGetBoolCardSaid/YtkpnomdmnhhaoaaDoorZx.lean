/- The reference's Find; laws.fjLook. No statement of the set is proved here. -/
import Derived.Test.YtkpnomdmnhhaoaaDoorZt
namespace Go.Proofs.YtkpnomdmnhhaoaaDoor.Zf
open Go Go.Proofs Go.RowKit Go.Proofs.YtkpnomdmnhhaoaaDoor.Rx Go.Proofs.YtkpnomdmnhhaoaaDoor.Tr Go.Proofs.YtkpnomdmnhhaoaaDoor.Pl Go.Proofs.YtkpnomdmnhhaoaaDoor.Pw Go.Proofs.YtkpnomdmnhhaoaaDoor.Nt
open Go.Proofs.YtkpnomdmnhhaoaaDoor.Sr (Sl slV RowIn places)
open Go.Proofs.YtkpnomdmnhhaoaaDoor.Lj (Any)
open Go.Proofs.YtkpnomdmnhhaoaaDoor.Zu (pd)

variable {w w' : World} {q : Sl} {keys : List ByteArray} {B : Nat → Prop} {s : ByteArray}
/-- What Find says. -/
def FindPost (B : Nat → Prop) (nt : NT) (keys : List ByteArray) (w : World) (e : Ending) (w' : World) : Prop :=
  ∃ (r : Option NT) (m : NT) (a' b' : Sl), e = .returned (.tuple #[.agg (nc m.k m.t a' b').toArray, .bool r.isSome]) ∧ FindR nt keys r ∧ (∀ n, r = some n → m = n ∧ NdAt B w' n (nc n.k n.t a' b')) ∧ Kp Off w w'
theorem find_any : ∀ (keys : List ByteArray) (nt : NT) (w : World) (B : Nat → Prop) (a b q : Sl), Kx w q keys → (∀ key ∈ keys, key.size ≤ 100000) → Sm nt → Lk nt → (∀ q, B q → q < w.heap.size) → NdAt B w nt (nc nt.k nt.t a b) →
    Calls Tryd.prog 20 #[.agg (nc nt.k nt.t a b).toArray, slV q, .bool false] w (FindPost B nt keys w)
  | keys, nt, w, B, a, b, q, hK, hsz, hsm, hlk, hB, hn => by
    obtain ⟨m1, m2, m3⟩ := hsm.inv
    obtain ⟨lk1, lk2⟩ := hlk.inv
    have hql := hK.len
    have hqc := hK.cap
    refine spec_Find.calls _ _ _ _ _ _ _ _ _ _ _ _ ?_
    unfold spec_Find.t
    refine s_alloc ?_
    have b0 := Blk.new w (nc nt.k nt.t a b) tN
    have k0 : Kp Off w (w.alloc (.cells (nc nt.k nt.t a b).toArray tN (0, 0))) := (Kp.refl Off w).alloc _
    show sat _ _ _ (w.alloc (.cells (nc nt.k nt.t a b).toArray tN (0, 0)))
    have hz0 := b0.lt
    generalize w.alloc (.cells (nc nt.k nt.t a b).toArray tN (0, 0)) = w1 at k0 b0 hz0
    refine s_alloc ?_
    have c0 := Blk.new w1 zn tN
    have k1 : Kp Off w1 (w1.alloc (.cells zn.toArray tN (0, 0))) := (Kp.refl Off w1).alloc _
    show sat _ _ _ (w1.alloc (.cells zn.toArray tN (0, 0)))
    generalize w1.alloc (.cells zn.toArray tN (0, 0)) = w2 at k1 c0
    have b2 := k1.blk b0 id
    have k2 := k0.trans k1
    have hne : ∀ q, q < w.heap.size → On w1.heap.size q → Off q := fun q hq e => by have : q = w1.heap.size := e; omega
    cases keys with
    | nil =>
      refine s_iteE (fun _ => ?_) (fun h => absurd (by rw [hql]; rfl) h)
      refine s_eff (w' := w2) ((nt.k : Int), nt.t, a, b, ()) (loadN b2) ?_
      obtain ⟨w3, h3, c3, k3⟩ := storeN c0 rfl nt.k nt.t a b
      refine s_effU h3 (s_effS ((nt.k : Int), nt.t, a, b, ()) (loadN c3) (s_leaf ⟨rfl, some nt, nt, a, b, rfl, FindR.fin nt, fun n h => ?_, k2.then k3 hne⟩))
      cases h
      exact ⟨rfl, hn.kp (k2.off.trans k3) fun q hq hb => ⟨hb, fun e => by have : q = w1.heap.size := e; omega⟩⟩
    | cons key ks =>
      have hl1 : q.2.1 = ks.length + 1 := hql
      refine s_iteE (fun h => by omega) (fun _ => ?_)
      refine s_load (nt.k : Int) (by rw [addr_add, b2.cell]; rfl) ?_
      obtain ⟨g, o, hq1, hq2, hq3⟩ : ∃ g o : Nat, q.1 = some ⟨g, o, none⟩ ∧ g < w.heap.size ∧ ∀ j k, (key :: ks)[j]? = some k → w.cell? ⟨g, o + j, none⟩ = some (.string k) := by
        rcases hK.cell with h0 | h0
        · cases h0
        · exact h0
      have hkey : ∀ {w'}, Kp Off w w' → w'.cell? ⟨g, o + 0, none⟩ = some (.string key) := fun k => by
        rw [k.cell (a := ⟨g, o + 0, none⟩) hq2 id]; exact hq3 0 key rfl
      have hksz := hsz key (List.mem_cons_self ..)
      let M : (Sh.tuple (.cons (.int .i64) .nil)).Ty → World → Prop := fun z w' => ∃ r : Int, z = (r, ()) ∧ ((r = -1 ∧ MissN nt key) ∨ ∃ (i : Nat) (c : NT), r = (i : Int) ∧ nt.kids[i]? = some c ∧ HitN nt key c) ∧ Kp Off w2 w'
      refine s_cut (fun z w' => ∃ r : Int, z = (r, ()) ∧ ((r = -1 ∧ MissN nt key) ∨ ∃ (i : Nat) (c : NT), r = (i : Int) ∧ nt.kids[i]? = some c ∧ HitN nt key c) ∧ Kp Off w2 w') ?_ ?_
      · refine s_cut (fun z w' => ∃ r : Int, z = (r, ()) ∧ ((r = -1 ∧ MissN nt key) ∨ ∃ (i : Nat) (c : NT), r = (i : Int) ∧ nt.kids[i]? = some c ∧ HitN nt key c) ∧ Kp Off w2 w') ?_ ?_
        · refine s_iteE (fun h6 => ?_) (fun h6 => ?_)
          · have h6 : nt.k = 6 := by omega
            refine s_drew ?_
            have kd : Kp Off w2 w2.drew := (Kp.refl Off w2).drew
            have bd := kd.blk b2 id
            have k2d := k2.trans kd
            generalize w2.drew = w3 at kd bd k2d
            refine s_effS ((nt.k : Int), nt.t, a, b, ()) (loadN bd) (s_chk (by omega) ⟨_, hq1, ?_⟩)
            refine s_load key (by rw [addr_add]; exact hkey k2d) ?_
            refine s_call (member_any (any_ hn k2d) (by omega)) ?_
            rintro e w4 ⟨⟨r, rfl, hr⟩, k4⟩
            refine ⟨r, rfl, ?_⟩
            refine s_cut (fun z w' => z = (r, ()) ∧ w' = w4) (sat_iteF.2 (s_leaf ?_)) ?_
            · rw [if_pos rfl]; exact ⟨(r, ()), rfl, rfl, rfl⟩
            rintro z w5 ⟨rfl, rfl⟩
            simp only [spec_Find.t1]
            refine s_leaf ?_
            rw [if_pos rfl]
            refine ⟨(r, ()), rfl, r, rfl, ?_, kd.trans k4⟩
            rcases hr with ⟨rfl, h⟩ | ⟨i, rfl, h1, h2⟩
            · exact .inl ⟨rfl, fun _ i hi => h i key hi rfl, fun h5 => by omega⟩
            · have hik : i < nt.kids.length := by rw [← lk1 h6]; exact (List.getElem?_eq_some_iff.1 h1).1
              exact .inr ⟨i, nt.kids[i], rfl, List.getElem?_eq_getElem hik, .inl ⟨h6, i, h1, List.getElem?_eq_getElem hik⟩⟩
          · have h6 : nt.k ≠ 6 := by omega
            refine s_cut (fun z w' => ∃ r : Int, z = (r, ()) ∧ ((r = -1 ∧ MissN nt key) ∨ ∃ (i : Nat) (c : NT), r = (i : Int) ∧ nt.kids[i]? = some c ∧ HitN nt key c) ∧ Kp Off w2 w') ?_ ?_
            · refine s_iteE (fun h5 => ?_) (fun h5 => s_leaf ?_)
              · have h5 : nt.k = 5 := by omega
                refine s_chk (by omega) ⟨_, hq1, ?_⟩
                refine s_load key (by rw [addr_add]; exact hkey k2) ?_
                refine s_call (index_any (by omega)) ?_
                rintro e w3 ⟨⟨n, bb, rfl, hb, hD⟩, rfl⟩
                refine ⟨((n : Int), bb, ()), rfl, ?_⟩
                refine s_cut (fun z w' => ∃ r : Bool, z = (r, ()) ∧ (r = true ↔ bb = true ∧ n < nt.kids.length) ∧ w' = w3) (s_ite (fun hbt => ?_) (fun hbf => s_leaf ?_)) ?_
                · refine s_load b (by rw [addr_add, b2.cell]; rfl) (s_leaf ?_)
                  rw [if_pos rfl]
                  obtain ⟨_, _, hr2, _⟩ := rows_ hn
                  refine ⟨(decide ((n : Int) < ((b.2.1 : Nat) : Int)), ()), rfl, _, rfl, ?_, rfl⟩
                  rw [hr2.1, decide_eq_true_iff]
                  exact ⟨fun h => ⟨hbt, by omega⟩, fun h => by omega⟩
                · rw [if_pos rfl]
                  have hbf : bb = false := hbf
                  exact ⟨(false, ()), rfl, false, rfl, ⟨(fun h => by cases h), (fun h => by rw [hbf] at h; cases h.1)⟩, rfl⟩
                rintro z w4 ⟨r, rfl, hr, rfl⟩
                show sat _ (spec_Find.t2 ((n : Int), bb, ()) r) _ _
                unfold spec_Find.t2
                refine s_cut (fun z w' => ∃ v : Int, z = (v, ()) ∧ (r = true → v = n) ∧ (r = false → v = -1) ∧ w' = w4) (s_ite (fun h => s_leaf ?_) (fun h => s_leaf ?_)) ?_
                · rw [if_pos rfl]; exact ⟨((n : Int), ()), rfl, (n : Int), rfl, fun _ => rfl, (fun c => by rw [h] at c; cases c), rfl⟩
                · rw [if_pos rfl]; exact ⟨((-1 : Int), ()), rfl, -1, rfl, (fun c => by rw [show r = false from h] at c; cases c), fun _ => rfl, rfl⟩
                rintro z w5 ⟨v, rfl, hv1, hv2, rfl⟩
                simp only [spec_Find.t3]
                refine s_leaf ?_
                rw [if_pos rfl]
                refine ⟨(v, ()), rfl, v, rfl, ?_, Kp.refl _ _⟩
                by_cases hrt : r = true
                · rw [hv1 hrt]
                  obtain ⟨hbt, hlt⟩ := hr.1 hrt
                  rw [hbt] at hb
                  obtain ⟨D, hix⟩ := Option.isSome_iff_exists.1 hb.symm
                  have hDn : D = n := by
                    obtain ⟨g1, g2⟩ := hD D hix
                    rcases Nat.lt_or_ge D 1000000 with g | g
                    · exact (g1 g).symm
                    · have := g2 g; omega
                  subst hDn
                  exact .inr ⟨D, nt.kids[D], rfl, List.getElem?_eq_getElem hlt, .inr ⟨h5, D, hix, List.getElem?_eq_getElem hlt⟩⟩
                · rw [hv2 (by cases r with | true => exact absurd rfl hrt | false => rfl)]
                  refine .inl ⟨rfl, fun c => absurd c h6, fun _ i hi => ?_⟩
                  rcases Nat.lt_or_ge i nt.kids.length with g | g
                  · exfalso
                    refine hrt (hr.2 ⟨by rw [hb, hi]; rfl, ?_⟩)
                    obtain ⟨g1, g2⟩ := hD i hi
                    rw [g1 (by omega)]; exact g
                  · exact g
              · rw [if_pos rfl]
                exact ⟨((-1 : Int), ()), rfl, -1, rfl, .inl ⟨rfl, fun c => absurd c h6, fun c => by omega⟩, Kp.refl _ _⟩
            · rintro z w3 ⟨r, rfl, hr, k3⟩
              simp only [spec_Find.t4]
              refine s_leaf ?_
              rw [if_pos rfl]
              exact ⟨(r, ()), rfl, r, rfl, hr, k3⟩
        · rintro z w3 ⟨r, rfl, hr, k3⟩
          simp only [spec_Find.t5]
          refine s_leaf ?_
          rw [if_pos rfl]
          exact ⟨(r, ()), rfl, r, rfl, hr, k3⟩
      · rintro z w3 ⟨r, rfl, hr, k3⟩
        show sat _ (spec_Find.t6 q.1 q.2.1 q.2.2 false _ _ r) _ _
        unfold spec_Find.t6
        have b3 := k3.blk b2 id
        have c3 := k3.blk c0 id
        have k03 := k2.trans k3
        rcases hr with ⟨rfl, hm⟩ | ⟨i, c, rfl, hc, hh⟩
        · refine s_iteD (fun _ => ?_) (fun h => absurd (by decide) h)
          obtain ⟨w4, h4, c4, k4⟩ := storeN c3 rfl 0 (ByteArray.mk #[]) (none, 0, 0) (none, 0, 0)
          exact s_effU h4 (s_effS ((0 : Int), ByteArray.mk #[], (none, 0, 0), (none, 0, 0), ()) (loadN c4) (s_leaf ⟨rfl, none, .mk 0 (ByteArray.mk #[]) [] [], (none, 0, 0), (none, 0, 0), rfl, FindR.miss ks hm, (fun n h => by cases h), k03.then k4 hne⟩))
        · refine s_iteD (fun h => by omega) (fun _ => ?_)
          have hil := (List.getElem?_eq_some_iff.1 hc).1
          refine s_drew ?_
          have kd : Kp Off w3 w3.drew := (Kp.refl Off w3).drew
          have bd := kd.blk b3 id
          have cd := kd.blk c3 id
          have k0d := k03.trans kd
          generalize w3.drew = w4 at kd bd cd k0d
          obtain ⟨xs, _, hr2, hall⟩ := rows_ hn
          obtain ⟨l1, l2, l3⟩ := Lj.RowIn.any hr2 k0d
          rcases l3 with l3 | ⟨g', a1, _, ga, a4⟩
          · omega
          obtain ⟨cs, hcn, hcs⟩ := all_getN nt.kids xs i c hall hc
          have hcn0 := hcn
          obtain ⟨ac, bc, _, rfl, _⟩ := hcn0.inv
          refine s_load b (by rw [addr_add, bd.cell]; rfl) (s_chk ⟨by omega, by omega⟩ ⟨_, a1, ?_⟩)
          refine ⟨((c.k : Int), c.t, ac, bc, ()), fun w'' hw'' => ?_, ?_⟩
          · rw [addr_add, Int.toNat_natCast]
            refine node_run fun j hj => ?_
            have h1 := hcs j hj
            obtain ⟨y, hy⟩ : ∃ y, (nc c.k c.t ac bc)[j]? = some y := ⟨_, List.getElem?_eq_getElem (show j < 4 from hj)⟩
            rw [hy] at h1 ⊢
            rw [Nat.zero_add, (Kp.of_below (S := Off) hw'').cell (a := ⟨g', i * 4 + j, none⟩) ga id]
            exact a4 _ _ h1
          refine s_chk (by omega) ?_
          have hcn4 : NdAt B w4 c (nc c.k c.t ac bc) := hcn.kp k0d fun q _ hb => ⟨hb, id⟩
          have hz4 := k0d.size
          have hK4 := (hK.kp k0d).drop 1 (by show 1 ≤ ks.length + 1; omega)
          have hrec := find_any ks c w4 B ac bc _ hK4 (fun k hk => hsz k (List.mem_cons_of_mem _ hk)) (m3.get hc) (lk2.get hc) (fun q hq => Nat.lt_of_lt_of_le (hB q hq) hz4) hcn4
          rw [Int.toNat_natCast]
          refine s_call hrec ?_
          rintro e w5 ⟨r, m, a', b', rfl, hf, hm, k5⟩
          refine ⟨(((m.k : Int), m.t, a', b', ()), r.isSome, ()), rfl, ?_⟩
          have c5 := k5.blk cd id
          obtain ⟨w6, h6, c6, k6⟩ := storeN c5 rfl m.k m.t a' b'
          refine s_effU h6 (s_effS ((m.k : Int), m.t, a', b', ()) (loadN c6) (s_leaf ⟨rfl, r, m, a', b', rfl, FindR.hit hh hf, fun n hn' => ?_, (k0d.trans k5).then k6 hne⟩))
          obtain ⟨e1, e2⟩ := hm n hn'
          exact ⟨e1, e2.kp k6 fun q _ hb => ⟨hb, fun e => by have : q = w1.heap.size := e; have := hB q hb; omega⟩⟩
theorem inB {nt : NT} {cs : List Value} (h : NdAt B w nt cs) : NdAt (fun q => q < w.heap.size) w nt cs := NdAt.mv (Nat.le_refl _) (fun _ hb _ => ⟨hb, rfl⟩) nt cs h
/-- What fjLook says. -/
theorem fjLook_any (hs : s.size < 4611686018427387904) (hK : Kx w q keys) : Calls Tryd.prog 9 #[.string s, slV q] w fun e w' =>
    ∃ (m : NT) (a b : Sl) (is sp : Bool), e = .returned (.tuple #[.agg (nc m.k m.t a b).toArray, .bool is, .bool sp]) ∧
      (sp = true → s.size ≤ 4000 ∧ pd s 0 = true ∧ keys.length ≤ 20 ∧ (∀ key ∈ keys, key.size ≤ 200 ∧ KeyOk key) ∧ ∃ p, places s = some p ∧ depN (treeN s p) ≤ 250 ∧ UqN (treeN s p) ∧ ∃ r, FindR (treeN s p) keys r ∧ is = r.isSome ∧ ∀ n, r = some n → m = n) ∧ Kp Off w w' := by
  refine laws_fjLook.calls _ _ _ _ ?_
  unfold laws_fjLook.t
  refine s_alloc ?_
  have b0 := Blk.new w zn tN
  have k0 : Kp Off w (w.alloc (.cells zn.toArray tN (0, 0))) := (Kp.refl Off w).alloc _
  show sat _ _ _ (w.alloc (.cells zn.toArray tN (0, 0)))
  have hz0 := b0.lt
  generalize w.alloc (.cells zn.toArray tN (0, 0)) = w1 at k0 b0 hz0
  refine s_call (fjText_any hs) ?_
  rintro e w2 ⟨nt, a, b, r, rfl, hr, k2⟩
  refine ⟨(((nt.k : Int), nt.t, a, b, ()), r, ()), rfl, ?_⟩
  refine s_alloc ?_
  have c0 := Blk.new w2 zn tN
  have k3 : Kp Off w2 (w2.alloc (.cells zn.toArray tN (0, 0))) := (Kp.refl Off w2).alloc _
  show sat _ _ _ (w2.alloc (.cells zn.toArray tN (0, 0)))
  generalize w2.alloc (.cells zn.toArray tN (0, 0)) = w3 at k3 c0
  obtain ⟨w4, h4, c4, k4⟩ := storeN c0 rfl nt.k nt.t a b
  have k24 : Kp Off w2 w4 := k3.then k4 fun q hq e => by have : q = w2.heap.size := e; omega
  have k04 : Kp Off w w4 := (k0.trans k2).trans k24
  have b4 := (k2.trans k24).blk b0 id
  refine s_effU h4 ?_
  have hz2 := k2.size
  have hz24 := k24.size
  have hne : ∀ q, q < w.heap.size → On w.heap.size q → Off q := fun q hq e => by have : q = w.heap.size := e; omega
  refine s_cut (fun z w' => ∃ b6 : Bool, z = (b6, ()) ∧ (b6 = false → r = true ∧ (keys.length ≤ 20 ∧ ∀ key ∈ keys, key.size ≤ 200 ∧ KeyOk key) ∧ UqN nt) ∧ Kp Off w4 w') (s_ite (fun _ => s_leaf ?_) (fun hrf => ?_)) ?_
  · rw [if_pos rfl]; exact ⟨(true, ()), rfl, true, rfl, (fun h => by cases h), Kp.refl _ _⟩
  · have hrt : r = true := by cases r with | true => rfl | false => cases hrf
    obtain ⟨hsz, hpd, p, hp, hnt, hdep, hN⟩ := hr hrt
    refine s_call (fjKeys_any (hK.kp k04)) ?_
    rintro e w5 ⟨⟨b3, rfl, hb3⟩, rfl⟩
    refine ⟨b3, rfl, s_ite (fun _ => s_leaf ?_) (fun hb => ?_)⟩
    · rw [if_pos rfl]; exact ⟨(true, ()), rfl, true, rfl, (fun h => by cases h), Kp.refl _ _⟩
    have hb3t : b3 = true := by cases b3 with | true => rfl | false => cases hb
    obtain ⟨_, hwf, _⟩ := Lj.places_of hp
    have hl := hwf.lt
    refine s_eff (w' := w5) ((nt.k : Int), nt.t, a, b, ()) (loadN c4) ?_
    have hN5 : NdAt Any w5 nt (nc nt.k nt.t a b) := any_ hN k24
    refine s_call (unique2_any (SizeOf.sizeOf nt + 1) nt w5 _ a b (Nat.lt_succ_self _) (by rw [hnt]; exact sm_tree (by omega) _ p (Nat.lt_succ_self _) hwf) hN5) ?_
    rintro e w6 ⟨⟨u, rfl, hu⟩, k6⟩
    refine ⟨u, rfl, s_leaf ?_⟩
    rw [if_pos rfl]
    exact ⟨(!u, ()), rfl, !u, rfl, fun h => ⟨hrt, hb3 hb3t, hu (by cases u with | true => rfl | false => cases h)⟩, k6⟩
  rintro z w5 ⟨b6, rfl, hb6, k5⟩
  show sat _ (laws_fjLook.t1 q.1 q.2.1 q.2.2 _ _ b6) _ _
  unfold laws_fjLook.t1
  have b5 := k5.blk b4 id
  have c5 := k5.blk c4 id
  have k05 := k04.trans k5
  refine s_ite (fun _ => ?_) (fun hf => ?_)
  · obtain ⟨w6, h6, b6', k6⟩ := storeN b5 rfl 0 (ByteArray.mk #[]) (none, 0, 0) (none, 0, 0)
    exact s_effU h6 (s_effS ((0 : Int), ByteArray.mk #[], (none, 0, 0), (none, 0, 0), ()) (loadN b6') (s_leaf ⟨rfl, .mk 0 (ByteArray.mk #[]) [] [], (none, 0, 0), (none, 0, 0), false, false, rfl, (fun h => by cases h), k05.then k6 hne⟩))
  · obtain ⟨hrt, ⟨hk1, hk2⟩, huq⟩ := hb6 hf
    obtain ⟨hsz, hpd, p, hp, hnt, hdep, hN⟩ := hr hrt
    obtain ⟨_, hwf, _⟩ := Lj.places_of hp
    have hl := hwf.lt
    refine s_eff (w' := w5) ((nt.k : Int), nt.t, a, b, ()) (loadN c5) ?_
    have hN5 := inB (any_ hN (k24.trans k5))
    refine s_call (find_any keys nt w5 _ a b q (hK.kp k05) (fun key hk => by have := (hk2 key hk).1; omega) (by rw [hnt]; exact sm_tree (by omega) _ p (Nat.lt_succ_self _) hwf) (by rw [hnt]; exact lk_tree _ p (Nat.lt_succ_self _) hwf) (fun q hq => hq) hN5) ?_
    rintro e w6 ⟨fr, m, a', b', rfl, hfr, hm, k6⟩
    refine ⟨(((m.k : Int), m.t, a', b', ()), fr.isSome, ()), rfl, ?_⟩
    refine s_alloc ?_
    have d0 := Blk.new w6 zn tN
    have k7 : Kp Off w6 (w6.alloc (.cells zn.toArray tN (0, 0))) := (Kp.refl Off w6).alloc _
    show sat _ _ _ (w6.alloc (.cells zn.toArray tN (0, 0)))
    generalize w6.alloc (.cells zn.toArray tN (0, 0)) = w7 at k7 d0
    obtain ⟨w8, h8, d8, k8⟩ := storeN d0 rfl m.k m.t a' b'
    have k68 : Kp Off w6 w8 := k7.then k8 fun q hq e => by have : q = w6.heap.size := e; omega
    refine s_effU h8 (s_eff (w' := w8) ((m.k : Int), m.t, a', b', ()) (loadN d8) ?_)
    have b8 := (k6.trans k68).blk b5 id
    obtain ⟨w9, h9, b9, k9⟩ := storeN b8 rfl m.k m.t a' b'
    refine s_effU h9 (s_effS ((m.k : Int), m.t, a', b', ()) (loadN b9) (s_leaf ⟨rfl, m, a', b', fr.isSome, true, rfl, fun _ => ⟨hsz, hpd, hk1, hk2, p, hp, by rw [← hnt]; exact hdep, by rw [← hnt]; exact huq, fr, by rw [← hnt]; exact hfr, rfl, fun n hn => (hm n hn).1⟩, ((k05.trans k6).trans k68).then k9 hne⟩))
end Go.Proofs.YtkpnomdmnhhaoaaDoor.Zf
