/- What the law asks of new keys: Once, Reach, AsIs, jpEnd, jpNew. No statement of the set is proved here. -/
import Derived.Test.YtlfebfkphgelfaaDoorSg
namespace Go.Proofs.YtlfebfkphgelfaaDoor.Lj
open Go Go.Proofs Go.RowKit Go.Proofs.YtlfebfkphgelfaaDoor.Rx Go.Proofs.YtlfebfkphgelfaaDoor.Tr Go.Proofs.YtlfebfkphgelfaaDoor.Pl Go.Proofs.YtlfebfkphgelfaaDoor.Pw
open Go.Proofs.YtlfebfkphgelfaaDoor.Sr (Sl slV tP pc storeP loadP zp PlAt RowIn p_no)
open Go.Proofs.YtlfebfkphgelfaaDoor.Ka (Kx nmS ixS s_key Led Mis New NoI Kx.take0)
open Go.Proofs.YtlfebfkphgelfaaDoor.Gk (Lead Miss)
open Go.Proofs.YtlfebfkphgelfaaDoor.Ed (AsIs)

variable {w w' : World} {s : ByteArray} {B : Nat → Prop}
theorem lead_uniqs {nm : Nat × Nat → ByteArray} {ix : ByteArray → Option Nat} : ∀ {ks : List ByteArray} {p a b : PT}, Lead nm ix p ks a → Lead nm ix p ks b → a = b
  | [], _, _, _, h1, h2 => by cases h1; cases h2; rfl
  | key :: ks, p, a, b, h1, h2 => by
    obtain ⟨x, x1, x2⟩ := Ka.lead_split (a := [key]) (b := ks) h1
    obtain ⟨y, y1, y2⟩ := Ka.lead_split (a := [key]) (b := ks) h2
    have := Ka.Lead.uniq x1 y1
    subst this
    exact lead_uniqs x2 y2
/-- A name stands once. -/
def UniqN (nm : Nat × Nat → ByteArray) (key : ByteArray) (ns : List (Nat × Nat)) : Prop := ∀ (i j : Nat) (n n' : Nat × Nat), ns[i]? = some n → ns[j]? = some n' → nm n = key → nm n' = key → i = j
def cnt (nm : Nat × Nat → ByteArray) (key : ByteArray) : List (Nat × Nat) → Nat
  | [] => 0
  | n :: ns => (if nm n = key then 1 else 0) + cnt nm key ns
theorem cnt_snoc (nm : Nat × Nat → ByteArray) (key : ByteArray) : ∀ (ns : List (Nat × Nat)) (n : Nat × Nat), cnt nm key (ns ++ [n]) = cnt nm key ns + (if nm n = key then 1 else 0)
  | [], n => by show (if nm n = key then 1 else 0) + 0 = 0 + _; omega
  | m :: ns, n => by
    show (if nm m = key then 1 else 0) + cnt nm key (ns ++ [n]) = (if nm m = key then 1 else 0) + cnt nm key ns + _
    rw [cnt_snoc nm key ns n]; omega
theorem cnt_mem {nm : Nat × Nat → ByteArray} {key : ByteArray} : ∀ {ns : List (Nat × Nat)} {i : Nat} {n : Nat × Nat}, ns[i]? = some n → nm n = key → 1 ≤ cnt nm key ns
  | [], i, n, h, _ => by simp at h
  | m :: ns, 0, n, h, hk => by
    simp only [List.getElem?_cons_zero, Option.some.injEq] at h
    subst h
    show 1 ≤ (if nm m = key then 1 else 0) + _
    rw [if_pos hk]; omega
  | m :: ns, i + 1, n, h, hk => by
    simp only [List.getElem?_cons_succ] at h
    have := cnt_mem h hk
    show 1 ≤ (if nm m = key then 1 else 0) + cnt nm key ns
    omega
theorem cnt_uniq {nm : Nat × Nat → ByteArray} {key : ByteArray} : ∀ {ns : List (Nat × Nat)}, cnt nm key ns ≤ 1 → UniqN nm key ns
  | [], _ => fun i j n n' h => by simp at h
  | m :: ns, hc => by
    have hc : (if nm m = key then 1 else 0) + cnt nm key ns ≤ 1 := hc
    intro i j n n' h1 h2 h3 h4
    cases i with
    | zero =>
      simp only [List.getElem?_cons_zero, Option.some.injEq] at h1
      subst h1
      rw [if_pos h3] at hc
      cases j with
      | zero => rfl
      | succ j =>
        simp only [List.getElem?_cons_succ] at h2
        have := cnt_mem h2 h4
        omega
    | succ i =>
      simp only [List.getElem?_cons_succ] at h1
      have c1 := cnt_mem h1 h3
      cases j with
      | zero =>
        simp only [List.getElem?_cons_zero, Option.some.injEq] at h2
        subst h2
        rw [if_pos h4] at hc
        omega
      | succ j =>
        simp only [List.getElem?_cons_succ] at h2
        have := cnt_uniq (ns := ns) (by omega) i j n n' h1 h2 h3 h4
        rw [this]
/-- On the way by keys no object has a sought name twice. -/
def OnceP (s : ByteArray) (p : PT) (keys : List ByteArray) : Prop := ∀ (j : Nat) (p' : PT) (key : ByteArray), keys[j]? = some key → Lead (nmS s) ixS p (keys.take j) p' → p'.k = 6 → UniqN (nmS s) key p'.ns
theorem take_split {keys : List ByteArray} {i j : Nat} {p a q : PT} {key : ByteArray} (hij : i < j) (hk : keys[i]? = some key) (h1 : Lead (nmS s) ixS p (keys.take i) a) (h2 : Lead (nmS s) ixS p (keys.take j) q) : ∃ b, Lead (nmS s) ixS a [key] b := by
  have hi := (List.getElem?_eq_some_iff.1 hk).1
  have e : keys.take j = keys.take i ++ ([key] ++ (keys.take j).drop (i + 1)) := by
    have h3 : keys.take j = (keys.take j).take (i + 1) ++ (keys.take j).drop (i + 1) := (List.take_append_drop _ _).symm
    have h4 : (keys.take j).take (i + 1) = keys.take i ++ [key] := by
      rw [List.take_take, Nat.min_eq_left hij, List.take_add_one, hk]; rfl
    rw [h4, List.append_assoc] at h3
    exact h3
  rw [e] at h2
  obtain ⟨x, b1, b2⟩ := Ka.lead_split h2
  obtain ⟨y, c1, c2⟩ := Ka.lead_split b2
  have := lead_uniqs h1 b1
  subst this
  exact ⟨y, c1⟩
theorem onceP_any {p : PT} {na ka : Sl} {q : Ka.Sl} {keys : List ByteArray} (hs : s.size ≤ 65536) (hw : WfV s p) (hp : PlAt B w p (pc p.k p.b p.e na ka)) (hK : Kx w q keys) (hkz : ∀ key ∈ keys, key.size ≤ 140737488351232) (hkl : keys.length ≤ 140737488351232) :
    Calls Tryd.prog 15 #[.string s, .agg (pc p.k p.b p.e na ka).toArray, Ka.slV q] w fun e w' => (∃ b : Bool, e = .returned (.bool b) ∧ (b = true → OnceP s p keys)) ∧ Kp Off w w' := by
  refine spec_Once.calls _ _ _ _ _ _ _ _ _ _ _ _ _ ?_
  unfold spec_Once.t
  refine s_alloc ?_
  have b0 := Blk.new w (pc p.k p.b p.e na ka) tP
  have k0 : Kp Off w (w.alloc (.cells (pc p.k p.b p.e na ka).toArray tP (0, 0))) := (Kp.refl Off w).alloc _
  show sat _ _ _ (w.alloc (.cells (pc p.k p.b p.e na ka).toArray tP (0, 0)))
  generalize w.alloc (.cells (pc p.k p.b p.e na ka).toArray tP (0, 0)) = w1 at k0 b0
  have hp0 : PlAt (fun b => b < w.heap.size) w p (pc p.k p.b p.e na ka) := Sr.PlAt.kp (Kp.refl Off w) (fun b hb _ => ⟨hb, id⟩) hp
  have hp1 : PlAt (fun b => b < w.heap.size) w1 p (pc p.k p.b p.e na ka) := Sr.PlAt.kp k0 (fun b _ hb => ⟨hb, id⟩) hp0
  have hql := hK.len
  generalize hp00 : p = p00 at hw
  refine s_loop (fun k z w' => ∃ (i : Nat) (p : PT) (na ka : Sl), k = keys.length - i ∧ z = ((i : Int), ()) ∧ i ≤ keys.length ∧ Lead (nmS s) ixS p00 (keys.take i) p ∧ (∀ j p' key, j < i → keys[j]? = some key → Lead (nmS s) ixS p00 (keys.take j) p' → p'.k = 6 → UniqN (nmS s) key p'.ns) ∧ PlAt (fun b => b < w.heap.size) w' p (pc p.k p.b p.e na ka) ∧ Blk w' w.heap.size (pc p.k p.b p.e na ka) tP ∧ Kp Off w w') keys.length ((0 : Int), ()) rfl ⟨0, p, na, ka, rfl, rfl, Nat.zero_le _, by rw [hp00]; exact .nil, fun j _ _ h => absurd h (Nat.not_lt_zero _), hp1, b0, k0⟩ ?_
  clear hp hp0 hp1 b0 k0 hp00
  rintro k z w2 ⟨i, p, na, ka, rfl, rfl, hi, hL, hU, hp, hb, hk⟩
  have hw0 := hw
  have hw := (Ka.Lead.wf hL hw0).1
  show sat _ (spec_Once.t1 s q.1 q.2.1 ⟨w.heap.size, 0, none⟩ (i : Int)) _ _
  unfold spec_Once.t1
  refine s_iteD (fun hlt => ?_) (fun hge => s_leaf ?_)
  rotate_left
  · rw [if_neg (by decide)]
    refine ⟨rfl, ⟨true, rfl, fun _ j p' key h1 => hU j p' key ?_ h1⟩, hk⟩
    have := (List.getElem?_eq_some_iff.1 h1).1
    omega
  have hin : i < keys.length := by omega
  have hkey : keys[i]? = some keys[i] := List.getElem?_eq_getElem hin
  have hkz1 := hkz _ (List.getElem_mem hin)
  generalize hki : keys[i] = key at hkey hkz1
  refine s_key (hK.kp hk) hkey (s_load (p.k : Int) (hb.cell 0) ?_)
  have hlen := (wf_len hw).2
  have hr := (PlAt.inv hp).1
  refine s_cut (fun _ w' => Kp Off w2 w' ∧ (p.k = 6 → UniqN (nmS s) key p.ns)) (s_iteE (fun h6 => ?_) (fun h6 => s_leaf ?_)) ?_
  · refine s_loop (fun k z w' => ∃ (i c : Nat), k = p.ns.length - i ∧ z = ((i : Int), (c : Int), ()) ∧ i ≤ p.ns.length ∧ c = cnt (nmS s) key (p.ns.take i) ∧ c ≤ i ∧ Kp Off w2 w') p.ns.length ((0 : Int), (0 : Int), ()) rfl ⟨0, 0, rfl, rfl, Nat.zero_le _, rfl, Nat.le_refl _, Kp.refl _ _⟩ ?_
    rintro k z w3 ⟨j, c, rfl, rfl, hj, hcc, hc, k3⟩
    show sat _ (spec_Once.t2 s ⟨w.heap.size, 0, none⟩ key (j : Int) (c : Int)) _ _
    unfold spec_Once.t2
    have b3 := k3.blk hb id
    have hr3 := RowIn.any hr k3
    have hl3 := hr3.1
    refine s_load na (by rw [addr_add, Nat.zero_add, b3.cell]; rfl) (s_iteD (fun hlt => ?_) (fun hge => ?_))
    · have hin : j < p.ns.length := by omega
      have hn : p.ns[j]? = some p.ns[j] := List.getElem?_eq_getElem hin
      have htk : p.ns.take (j + 1) = p.ns.take j ++ [p.ns[j]] := by rw [List.take_add_one, hn]; rfl
      refine s_span (cs := pc p.k p.b p.e na ka) hs b3 rfl hr3 hn (wf_names hw _ (List.getElem_mem hin)) fun w4 k4 => ?_
      have w1' : IntKind.wrap IntKind.i64 ((j : Int) + 1) = ((j + 1 : Nat) : Int) := by rw [wrap_in (by omega) (by omega)]; omega
      have w2' : IntKind.wrap IntKind.i64 ((c : Int) + 1) = ((c + 1 : Nat) : Int) := by rw [wrap_in (by omega) (by omega)]; omega
      refine s_ite (fun g => s_leaf ?_) (fun g => s_leaf ?_)
      · rw [if_pos rfl, w1', w2']
        refine ⟨p.ns.length - (j + 1), (((j + 1 : Nat) : Int), ((c + 1 : Nat) : Int), ()), rfl, by omega, j + 1, c + 1, rfl, rfl, hin, ?_, by omega, k3.trans k4⟩
        rw [htk, cnt_snoc, if_pos (strEq_iff.1 g), hcc]
      · rw [if_pos rfl, w1']
        refine ⟨p.ns.length - (j + 1), (((j + 1 : Nat) : Int), (c : Int), ()), rfl, by omega, j + 1, c, rfl, rfl, hin, ?_, by omega, k3.trans k4⟩
        rw [htk, cnt_snoc, if_neg (fun e => by rw [strEq_iff.2 e] at g; cases g), hcc]
        rfl
    · have ej : j = p.ns.length := by omega
      subst ej
      rw [List.take_length] at hcc
      refine s_iteD (fun _ => s_leaf ?_) (fun g => s_leaf ?_)
      · rw [if_neg (by decide), if_neg (by decide), if_neg (by decide)]
        exact ⟨rfl, ⟨false, rfl, fun g => by cases g⟩, hk.trans k3⟩
      · rw [if_neg (by decide), if_pos rfl]
        exact ⟨(), rfl, k3, fun _ => cnt_uniq (by omega)⟩
  · rw [if_pos rfl]
    exact ⟨(), rfl, Kp.refl _ _, fun g => absurd (by rw [g]; rfl) h6⟩
  rintro _ w3 ⟨k3, hun⟩
  have hU' : ∀ j p' key', j < i + 1 → keys[j]? = some key' → Lead (nmS s) ixS p00 (keys.take j) p' → p'.k = 6 → UniqN (nmS s) key' p'.ns := by
    intro j p' key' hj h1 h2 h3
    rcases Nat.lt_or_ge j i with g | g
    · exact hU j p' key' g h1 h2 h3
    · have : j = i := by omega
      subst this
      have := lead_uniqs hL h2
      subst this
      rw [hkey] at h1
      cases h1
      exact hun h3
  show sat _ (spec_Once.t3 s ⟨w.heap.size, 0, none⟩ (i : Int) key) _ _
  unfold spec_Once.t3
  have b3 := k3.blk hb id
  have K3 := hk.trans k3
  have hp3 : PlAt (fun b => b < w.heap.size) w3 p (pc p.k p.b p.e na ka) := Sr.PlAt.kp k3 (fun b _ hb => ⟨hb, id⟩) hp
  refine s_eff ((p.k : Int), (p.b : Int), (p.e : Int), na, ka, ()) (loadP b3) ?_
  refine s_call (step_any hs hw hp3 hkz1) ?_
  rintro e w4 ⟨⟨k, b, e1, na', ka', ok, rfl, hok, hno⟩, k4⟩
  refine ⟨((k, b, e1, na', ka', ()), ok, ()), rfl, s_alloc ?_⟩
  have K4 := K3.trans k4
  have b4 := k4.blk b3 id
  have hsz4 := K4.size
  have hlt4 := b4.lt
  obtain ⟨w5, h5, c5, k5⟩ := storeP (Blk.new w4 zp tP) rfl k b e1 na' ka'
  refine s_effU h5 ?_
  have kc : Kp Off w4 w5 := (((Kp.refl (fun q => q = w4.heap.size) w4).alloc _).trans (k5.mono fun q _ h => h)).mono fun q hq h => by omega
  cases ok with
  | false =>
    refine sat_iteT.2 (s_leaf ?_)
    rw [if_neg (by decide)]
    refine ⟨rfl, ⟨true, rfl, fun _ j p' key' h1 h2 h3 => ?_⟩, K4.trans kc⟩
    rcases Nat.lt_or_ge i j with g | g
    · obtain ⟨y, hy⟩ := take_split g hkey hL h2
      exact absurd (hno y hy) (by decide)
    · exact hU' j p' key' (by omega) h1 h2 h3
  | true =>
    obtain ⟨p', hL', rfl, rfl, rfl, hp'⟩ := hok rfl
    refine sat_iteF.2 ?_
    refine s_eff ((p'.k : Int), (p'.b : Int), (p'.e : Int), na', ka', ()) (loadP c5) ?_
    have b5 := kc.blk b4 id
    obtain ⟨w6, h6, c6, k6⟩ := storeP b5 rfl p'.k p'.b p'.e na' ka'
    refine s_effU h6 (s_leaf ?_)
    rw [if_pos rfl]
    have w1' : IntKind.wrap IntKind.i64 ((i : Int) + 1) = ((i + 1 : Nat) : Int) := by rw [wrap_in (by omega) (by omega)]; omega
    rw [w1']
    refine ⟨keys.length - (i + 1), (((i + 1 : Nat) : Int), ()), rfl, by omega, i + 1, p', na', ka', rfl, rfl, hin, ?_, hU', ?_, c6, (K4.trans kc).then k6 fun q hq e => by have : q = w.heap.size := e; omega⟩
    · have := Ka.Lead.snoc hL hL'
      rw [← hki] at this
      rwa [List.take_append_getElem hin] at this
    · refine Sr.PlAt.kp k6 (fun b _ hb => ⟨hb, fun e => by have : b = w.heap.size := e; omega⟩) (Sr.PlAt.kp kc (fun b _ hb => ⟨hb, id⟩) hp')
/-- Down by keys, as far as they lead. -/
theorem reach_any {p : PT} {na ka : Sl} {q : Ka.Sl} {keys : List ByteArray} (hs : s.size ≤ 65536) (hw : WfV s p) (hp : PlAt B w p (pc p.k p.b p.e na ka)) (hK : Kx w q keys) (hkz : ∀ key ∈ keys, key.size ≤ 140737488351232) (hkl : keys.length ≤ 140737488351232) :
    Calls Tryd.prog 30 #[.string s, .agg (pc p.k p.b p.e na ka).toArray, Ka.slV q] w fun e w' => (∃ (na ka : Sl) (last : PT) (n : Nat), e = .returned (.tuple #[.agg (pc last.k last.b last.e na ka).toArray, .int .i64 (n : Int)]) ∧
      n ≤ keys.length ∧ Lead (nmS s) ixS p (keys.take n) last ∧ ∀ key, keys[n]? = some key → ∀ p', ¬ Lead (nmS s) ixS last [key] p') ∧ Kp Off w w' := by
  refine spec_Reach.calls _ _ _ _ _ _ _ _ _ _ _ _ _ ?_
  unfold spec_Reach.t
  refine s_alloc ?_
  have b0 := Blk.new w (pc p.k p.b p.e na ka) tP
  have k0 : Kp Off w (w.alloc (.cells (pc p.k p.b p.e na ka).toArray tP (0, 0))) := (Kp.refl Off w).alloc _
  have z0 : (w.alloc (.cells (pc p.k p.b p.e na ka).toArray tP (0, 0))).heap.size = w.heap.size + 1 := by simp
  show sat _ _ _ (w.alloc (.cells (pc p.k p.b p.e na ka).toArray tP (0, 0)))
  generalize w.alloc (.cells (pc p.k p.b p.e na ka).toArray tP (0, 0)) = w1 at k0 b0 z0
  refine s_alloc ?_
  have b1 := Blk.new w1 zp tP
  have k1 : Kp Off w1 (w1.alloc (.cells zp.toArray tP (0, 0))) := (Kp.refl Off w1).alloc _
  show sat _ _ _ (w1.alloc (.cells zp.toArray tP (0, 0)))
  generalize w1.alloc (.cells zp.toArray tP (0, 0)) = w2 at k1 b1
  rw [z0] at b1 ⊢
  have b02 := k1.blk b0 id
  have k02 := k0.trans k1
  have hp2 : PlAt (fun b => B b ∧ b < w.heap.size) w2 p (pc p.k p.b p.e na ka) := Sr.PlAt.kp k02 (fun b _ hb => ⟨hb, id⟩) (Sr.PlAt.kp (B' := fun b => B b ∧ b < w.heap.size) (Kp.refl Off w) (fun b hb hB => ⟨⟨hB, hb⟩, id⟩) hp)
  have hql := hK.len
  refine s_loop (fun k z w' => ∃ (i : Nat) (pi : PT) (na ka : Sl), k = keys.length - i ∧ z = ((i : Int), ()) ∧ i ≤ keys.length ∧ Lead (nmS s) ixS p (keys.take i) pi ∧ PlAt (fun b => B b ∧ b < w.heap.size) w' pi (pc pi.k pi.b pi.e na ka) ∧ Blk w' w.heap.size (pc pi.k pi.b pi.e na ka) tP ∧ Blk w' (w.heap.size + 1) zp tP ∧ Kp Off w w') keys.length ((0 : Int), ()) rfl ⟨0, p, na, ka, rfl, rfl, Nat.zero_le _, .nil, hp2, b02, b1, k02⟩ ?_
  clear hp hp2 b0 k0 b1 k1 b02 k02 z0
  rintro k z w3 ⟨i, pi, na, ka, rfl, rfl, hi, hL, hpi, hb, hz, hk⟩
  show sat _ (spec_Reach.t1 s q.1 q.2.1 ⟨w.heap.size, 0, none⟩ ⟨w.heap.size + 1, 0, none⟩ (i : Int)) _ _
  unfold spec_Reach.t1
  have hwi := (Ka.Lead.wf hL hw).1
  refine s_iteD (fun hlt => ?_) (fun hge => ?_)
  · have hin : i < keys.length := by omega
    have hkey : keys[i]? = some keys[i] := List.getElem?_eq_getElem hin
    have hkz1 := hkz _ (List.getElem_mem hin)
    refine s_key (hK.kp hk) hkey ?_
    refine s_eff ((pi.k : Int), (pi.b : Int), (pi.e : Int), na, ka, ()) (loadP hb) ?_
    refine s_call (step_any hs hwi hpi hkz1) ?_
    rintro e w4 ⟨⟨k', b', e', na', ka', ok, rfl, hok, hno⟩, k4⟩
    refine ⟨((k', b', e', na', ka', ()), ok, ()), rfl, s_alloc ?_⟩
    have b4 := k4.blk hb id
    have z4 := k4.blk hz id
    have K4 := hk.trans k4
    have hl4 := z4.lt
    obtain ⟨w5, h5, c5, k5⟩ := storeP (Blk.new w4 zp tP) rfl k' b' e' na' ka'
    refine s_effU h5 ?_
    have kc : Kp Off w4 w5 := (((Kp.refl (fun q => q = w4.heap.size) w4).alloc _).trans (k5.mono fun q _ h => h)).mono fun q hq h => by omega
    have K5 := K4.trans kc
    have b5 := kc.blk b4 id
    have z5 := kc.blk z4 id
    cases ok with
    | false =>
      refine sat_iteT.2 ?_
      refine s_eff ((pi.k : Int), (pi.b : Int), (pi.e : Int), na, ka, ()) (loadP b5) ?_
      obtain ⟨w6, h6, c6, k6⟩ := storeP z5 rfl pi.k pi.b pi.e na ka
      refine s_effU h6 (s_effS ((pi.k : Int), (pi.b : Int), (pi.e : Int), na, ka, ()) (loadP c6) (s_leaf ?_))
      rw [if_neg (by decide)]
      refine ⟨rfl, ⟨na, ka, pi, i, rfl, hi, hL, fun key hkk p' hp' => ?_⟩, K5.then k6 fun q hq e => by have : q = w.heap.size + 1 := e; omega⟩
      rw [hkey] at hkk
      cases hkk
      exact absurd (hno p' hp') (by decide)
    | true =>
      obtain ⟨p', hL', rfl, rfl, rfl, hp'⟩ := hok rfl
      refine sat_iteF.2 ?_
      refine s_eff ((p'.k : Int), (p'.b : Int), (p'.e : Int), na', ka', ()) (loadP c5) ?_
      obtain ⟨w6, h6, c6, k6⟩ := storeP b5 rfl p'.k p'.b p'.e na' ka'
      refine s_effU h6 (s_leaf ?_)
      rw [if_pos rfl]
      have w1' : IntKind.wrap IntKind.i64 ((i : Int) + 1) = ((i + 1 : Nat) : Int) := by rw [wrap_in (by omega) (by omega)]; omega
      rw [w1']
      refine ⟨keys.length - (i + 1), (((i + 1 : Nat) : Int), ()), rfl, by omega, i + 1, p', na', ka', rfl, rfl, hin, ?_, ?_, c6, k6.blk z5 (fun e => by have : w.heap.size + 1 = w.heap.size := e; omega), K5.then k6 fun q hq e => by have : q = w.heap.size := e; omega⟩
      · have := Ka.Lead.snoc hL hL'
        rwa [List.take_append_getElem hin] at this
      · exact Sr.PlAt.kp k6 (fun b _ hb => ⟨hb, fun e => by have : b = w.heap.size := e; have hb := hb.2; omega⟩) (Sr.PlAt.kp kc (fun b _ hb => ⟨hb, id⟩) hp')
  · have ei : i = keys.length := by omega
    subst ei
    refine s_eff ((pi.k : Int), (pi.b : Int), (pi.e : Int), na, ka, ()) (loadP hb) ?_
    obtain ⟨w6, h6, c6, k6⟩ := storeP hz rfl pi.k pi.b pi.e na ka
    refine s_effU h6 (s_effS ((pi.k : Int), (pi.b : Int), (pi.e : Int), na, ka, ()) (loadP c6) (s_leaf ?_))
    rw [if_neg (by decide), hql]
    exact ⟨rfl, ⟨na, ka, pi, keys.length, rfl, Nat.le_refl _, hL, fun key hkk => by simp at hkk⟩, hk.then k6 fun q hq e => by have : q = w.heap.size + 1 := e; omega⟩
theorem asIs_any {key : ByteArray} (hk : key.size ≤ 140737488351232) : Calls Tryd.prog 31 #[.string key] w fun e w' => (∃ b : Bool, e = .returned (.bool b) ∧ (b = true → AsIs key ∧ 0 < key.size)) ∧ w' = w := by
  refine spec_AsIs.calls _ ?_
  unfold spec_AsIs.t
  refine s_loop (fun k z w' => ∃ i : Nat, k = key.size - i ∧ z = ((i : Int), ()) ∧ i ≤ key.size ∧ (∀ j, j < i → 32 ≤ bt key (j : Int) ∧ bt key (j : Int) ≠ 34 ∧ bt key (j : Int) ≠ 92) ∧ w = w') key.size ((0 : Int), ()) rfl ⟨0, rfl, rfl, Nat.zero_le _, fun j h => absurd h (Nat.not_lt_zero _), rfl⟩ ?_
  rintro k z w1 ⟨i, rfl, rfl, hi, hj, rfl⟩
  show sat _ (spec_AsIs.t1 key (i : Int)) _ _
  unfold spec_AsIs.t1
  have no : (fun l' vs w'' => if l' = 1 then ∃ n' x', vs = (Sh.cons (.int .i64) .nil).vals x' ∧ n' < key.size - i ∧ ∃ i : Nat, n' = key.size - i ∧ x' = ((i : Int), ()) ∧ i ≤ key.size ∧ (∀ j, j < i → 32 ≤ bt key (j : Int) ∧ bt key (j : Int) ≠ 34 ∧ bt key (j : Int) ≠ 92) ∧ w = w'' else l' = 0 ∧ (∃ b : Bool, Ending.returned (retVal vs) = .returned (.bool b) ∧ (b = true → AsIs key ∧ 0 < key.size)) ∧ w'' = w) 0 [.bool false] w := by
    show if (0 : Nat) = 1 then _ else _
    rw [if_neg (by decide)]
    exact ⟨rfl, ⟨false, rfl, fun g => by cases g⟩, rfl⟩
  refine s_iteD (fun hlt => s_chk ⟨by omega, by omega⟩ (s_iteE (fun _ => s_leaf no) (fun g1 => s_iteE (fun _ => s_leaf no) (fun g2 => s_iteD (fun _ => s_leaf no) (fun g3 => s_leaf ?_))))) (fun hge => s_leaf ?_)
  · rw [if_pos rfl]
    have w1' : IntKind.wrap IntKind.i64 ((i : Int) + 1) = ((i + 1 : Nat) : Int) := by rw [wrap_in (by omega) (by omega)]; omega
    rw [w1']
    refine ⟨key.size - (i + 1), (((i + 1 : Nat) : Int), ()), rfl, by omega, i + 1, rfl, rfl, by omega, fun j h => ?_, rfl⟩
    rcases Nat.lt_or_ge j i with g | g
    · exact hj j g
    · have : j = i := by omega
      subst this
      exact ⟨by omega, g1, g2⟩
  · rw [if_neg (by decide)]
    refine ⟨rfl, ⟨_, rfl, fun g => ⟨fun j h => hj j (by omega), ?_⟩⟩, rfl⟩
    rcases Nat.eq_zero_or_pos key.size with h0 | h0
    · have e : key = ByteArray.mk #[] := by
        apply ByteArray.ext
        apply Array.toList_inj.1
        exact List.eq_nil_of_length_eq_zero (by rw [Array.length_toList]; exact h0)
      rw [strEq_iff.2 e] at g
      cases g
    · exact h0
end Go.Proofs.YtlfebfkphgelfaaDoor.Lj
