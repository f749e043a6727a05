/- fastjson: Value.Get and GetBool of a value that was read; impl.FjGetBool. No statement of the set is proved here. -/
import Derived.Test.YtkpnomdmnhhaoaaDoorZv
namespace Go.Proofs.YtkpnomdmnhhaoaaDoor.Zv
open Go Go.Proofs Go.RowKit Go.Proofs.YtkpnomdmnhhaoaaDoor.Rx Go.Proofs.YtkpnomdmnhhaoaaDoor.Tr Go.Proofs.YtkpnomdmnhhaoaaDoor.Pl Go.Proofs.YtkpnomdmnhhaoaaDoor.Pw Go.Proofs.YtkpnomdmnhhaoaaDoor.Sk Go.Proofs.YtkpnomdmnhhaoaaDoor.Zs Go.Proofs.YtkpnomdmnhhaoaaDoor.Bw Go.Proofs.YtkpnomdmnhhaoaaDoor.Zf
open Go.Proofs.YtkpnomdmnhhaoaaDoor.Sr (Sl slV tBs tB)
open Go.Proofs.YtkpnomdmnhhaoaaDoor.Ed (mvP mvP_b mvP_e mvP_k)
open Go.Proofs.YtkpnomdmnhhaoaaDoor.Ka (nmS)
open Go.Proofs.YtkpnomdmnhhaoaaDoor.Zu (PdV PdL pd)
open Go.Proofs.YtkpnomdmnhhaoaaDoor.Nt (NT treeN treeL treeN_k treeN_keys treeN_kids treeL_len kid_in)

variable {w w0 w' w'' w1 : World} {v : Nat × Nat} {s : ByteArray} {F G : Nat × Nat → Prop} {p : PT}
theorem AllV.get : ∀ (ks : List PT) (ad : List (Nat × Nat)) (G : Nat × Nat → Prop) (i : Nat) (c : PT), AllV s w ks ad G → ks[i]? = some c → ∃ a F1, ad[i]? = some a ∧ VAt s w c a F1 ∧ ∀ y, F1 y → G y
  | [], _, _, _, _, _, h => by simp at h
  | p :: ks, ad, G, i, c, h, hi => by
    unfold AllV at h
    obtain ⟨a, r, F1, F2, rfl, h2, h3, h4, h5⟩ := h
    cases i with
    | zero =>
      simp only [List.getElem?_cons_zero, Option.some.injEq] at hi
      subst hi
      exact ⟨a, F1, rfl, h2, fun y hy => (h4 y hy).1⟩
    | succ i =>
      obtain ⟨a', F1', g1, g2, g3⟩ := AllV.get ks r F2 i c h3 (by simpa using hi)
      exact ⟨a', F1', by simpa using g1, g2, fun y hy => h5 y (g3 y hy)⟩
theorem PdL.get : ∀ {ks : List PT} {i : Nat} {c : PT}, PdL s ks → ks[i]? = some c → PdV s c
  | [], _, _, _, h => by simp at h
  | p :: ks, 0, c, h, hi => by
    simp only [List.getElem?_cons_zero, Option.some.injEq] at hi
    subst hi
    unfold PdL at h; exact h.1
  | p :: ks, i + 1, c, h, hi => by
    unfold PdL at h
    exact PdL.get h.2 (by simpa using hi)
theorem treeL_get : ∀ {ks : List PT} {i : Nat} {c : PT}, ks[i]? = some c → (treeL s ks)[i]? = some (treeN s c)
  | [], _, _, h => by simp at h
  | p :: ks, 0, c, hi => by
    simp only [List.getElem?_cons_zero, Option.some.injEq] at hi
    subst hi
    simp only [treeL]; rfl
  | p :: ks, i + 1, c, hi => by
    simp only [treeL]
    exact treeL_get (ks := ks) (i := i) (by simpa using hi)
theorem wf_k (hw : WfV s p) : p.k ≤ 6 := by
  obtain ⟨k, b, e, ns, ks⟩ := p
  show k ≤ 6
  unfold WfV at hw
  obtain ⟨_, _, ⟨_, _, _, h⟩ | ⟨h, _⟩ | ⟨h, _⟩ | ⟨h, _⟩⟩ := hw
  · rcases h with ⟨g, _⟩ | ⟨g, _⟩ | ⟨g, _⟩ | ⟨g, _⟩ <;> omega
  · omega
  · omega
  · omega
theorem kind_is {k : Nat} (hk : k ≤ 6) : (kindN k = 1 ↔ k = 6) ∧ (kindN k = 2 ↔ k = 5) ∧ (kindN k = 5 ↔ k = 2) := by
  have : k = 0 ∨ k = 1 ∨ k = 2 ∨ k = 3 ∨ k = 4 ∨ k = 5 ∨ k = 6 := by omega
  rcases this with rfl | rfl | rfl | rfl | rfl | rfl | rfl <;> decide
/-- An error variable's cell. -/
def Ev (w : World) (g : Nat) : Prop := ∃ te pe, w.cell? ⟨g, 0, none⟩ = some (.iface te pe)
theorem Ev.kp {g : Nat} (h : Ev w g) (k : Kp Off w w') : Ev w' g := by
  obtain ⟨te, pe, h⟩ := h
  exact ⟨te, pe, by rw [k.cell (a := ⟨g, 0, none⟩) (Ms.cell_lt h) id]; exact h⟩
theorem bytes_kp {t : TypeId} {x : ByteArray} : Kp Off w (Lib.bytesWorld w t x) := ⟨rfl, rfl, rfl, by rw [Lib.bytesWorld_size]; omega, fun k hk _ => Lib.bytesWorld_at_old w t x k hk⟩
theorem atoi_any {key : ByteArray} (hk : KeyOk key) (hs : key.size ≤ 100000) (e0 : Ev w 0) (e1 : Ev w 1) :
    Calls Tryd.prog 55 #[.string key] w fun e w' => (∃ (n : Int) (er : Value), e = .returned (.tuple #[.int .i64 n, er]) ∧ isIface er = true ∧
      ((isNil er = true ∧ ∃ D : Nat, n = D ∧ ixK key = some D) ∨ (isNil er = false ∧ (ixK key = none ∨ ∃ D : Nat, ixK key = some D ∧ 9223372036854775808 ≤ D)))) ∧ Kp Off w w' := by
  obtain ⟨t0, p0, e0⟩ := e0
  obtain ⟨t1, p1, e1⟩ := e1
  rcases key_atoi hk with ⟨D, hD, h | ⟨h, hb⟩⟩ | ⟨hD, h⟩
  · refine (Tryd.strconv_Atoi_ok key (by omega) (D : Int) h w).mono ?_
    rintro e w' ⟨rfl, hW⟩
    refine ⟨⟨_, _, rfl, rfl, .inl ⟨rfl, D, rfl, hD⟩⟩, ?_⟩
    rcases hW with rfl | ⟨t, rfl⟩
    · exact Kp.refl _ _
    · exact bytes_kp
  · refine (Tryd.strconv_Atoi_range key (by omega) h _ w e1 (.inr ⟨_, _, rfl⟩)).mono ?_
    rintro e w' ⟨N, rfl, _, _, hB⟩
    exact ⟨⟨_, _, rfl, rfl, .inr ⟨rfl, .inr ⟨D, hD, hb⟩⟩⟩, Kp.of_below hB⟩
  · refine (Tryd.strconv_Atoi_syntax key (by omega) h _ w e0 (.inr ⟨_, _, rfl⟩)).mono ?_
    rintro e w' ⟨N, rfl, _, _, hB⟩
    exact ⟨⟨_, _, rfl, rfl, .inr ⟨rfl, .inl hD⟩⟩, Kp.of_below hB⟩
/-- What Value.Get says. -/
def GetPost (s : ByteArray) (p : PT) (keys : List ByteArray) (w0 : World) (e : Ending) (w' : World) : Prop :=
  (∃ r : Option NT, FindR (treeN s p) keys r ∧ ((r = none ∧ e = .returned (.pointer none)) ∨ ∃ (c : PT) (u : Nat × Nat) (F' : Nat × Nat → Prop), r = some (treeN s c) ∧ VAt s w' c u F' ∧ (∀ y, F' y → w0.heap.size ≤ y.1 ∧ y.1 < w'.heap.size) ∧ WfV s c ∧ PdV s c ∧ e = .returned (ptrV u))) ∧ Kp Off w0 w'
theorem get_any {q : Sl} {keys : List ByteArray} (hs : s.size ≤ 100000) (hw : WfV s p) (hp : PdV s p) (hV : VAt s w p v F) (hF : ∀ y, F y → w0.heap.size ≤ y.1 ∧ y.1 < w.heap.size) (k0 : Kp Off w0 w)
    (hK : Kx w0 q keys) (hkl : keys.length ≤ 1000000) (hkeys : ∀ key ∈ keys, key.size ≤ 100000 ∧ KeyOk key) (e0 : Ev w0 0) (e1 : Ev w0 1) :
    Calls Tryd.prog 40 #[ptrV v, slV q] w (GetPost s p keys w0) := by
  have hql := hK.len
  refine fastjson_Value_Get.calls _ _ _ _ ?_
  unfold fastjson_Value_Get.t
  refine sat_iteF.2 ?_
  refine s_loop (fun m z w' => ∃ (i : Nat) (c : PT) (u : Nat × Nat) (F' : Nat × Nat → Prop), m = keys.length - i ∧ z = ((i : Int), some ⟨u.1, u.2, none⟩, ()) ∧ i ≤ keys.length ∧ WfV s c ∧ PdV s c ∧ VAt s w' c u F' ∧ (∀ y, F' y → w0.heap.size ≤ y.1 ∧ y.1 < w'.heap.size) ∧ Kp Off w0 w' ∧
    ∀ r, FindR (treeN s c) (keys.drop i) r → FindR (treeN s p) keys r) keys.length ((0 : Int), some ⟨v.1, v.2, none⟩, ()) rfl ⟨0, p, v, F, rfl, rfl, Nat.zero_le _, hw, hp, hV, hF, k0, fun r h => h⟩ ?_
  rintro m z w1 ⟨i, c, u, F', rfl, rfl, hi, hwc, hpc, hVc, hFc, k1, hR⟩
  show sat _ (fastjson_Value_Get.t1 q.1 q.2.1 (i : Int) (some ⟨u.1, u.2, none⟩)) _ _
  unfold fastjson_Value_Get.t1
  refine s_iteD (fun hlt => ?_) (fun hge => s_leaf ?_)
  · have hin : i < keys.length := by omega
    have hkey : keys[i]? = some keys[i] := List.getElem?_eq_getElem hin
    have hdrop : keys.drop i = keys[i] :: keys.drop (i + 1) := List.drop_eq_getElem_cons hin
    obtain ⟨hksz, hkok⟩ := hkeys keys[i] (List.getElem_mem hin)
    have w1' : IntKind.wrap IntKind.i64 ((i : Int) + 1) = ((i + 1 : Nat) : Int) := by rw [wrap_in (by omega) (by omega)]; omega
    refine s_key (hK.kp k1) hkey ?_
    generalize keys[i] = key at hkey hdrop hksz hkok
    rw [hdrop] at hR
    obtain ⟨kd1, kd2, _⟩ := kind_is (wf_k hwc)
    have hVc0 := hVc
    have hcl := Lj.wf_len hwc
    have hown := hFc _ hVc.own_
    obtain ⟨k, b, e, ns, ks⟩ := c
    have hpc0 := hpc
    unfold PdV at hpc
    obtain ⟨_, hpn, hpk⟩ := hpc
    unfold VAt at hVc
    obtain ⟨kvs, a, ad, G, h1, h2, h3, h4, h5, h6, h7, h8, h9⟩ := hVc
    have kd1 : kindN k = 1 ↔ k = 6 := kd1
    have kd2 : kindN k = 2 ↔ k = 5 := kd2
    refine s_ptr (s_load (kindN k) (by rw [addr_add]; exact (h2 4 _ rfl).1) (s_iteE (fun g6 => ?_) (fun g6 => ?_)))
    · have g6 := kd1.1 g6
      subst g6
      obtain ⟨n1, n2⟩ := h4 rfl
      refine s_ptr ?_
      rw [addr_add, Nat.add_zero]
      refine s_call (obGet_any (key := key) hs h2 (h1.trans n1.symm) (by have := hcl.2; show ns.length ≤ 1000000; have : ns.length ≤ s.size := this; omega) (kv_of n2 n1 h1) (fun y hy => (h7 y hy).2) fun n hn => ⟨Lj.wf_names hwc n hn, hpn n hn⟩) ?_
      rintro e' w2 ⟨hres, k2, hG⟩
      have k02 : Kp Off w0 w2 := k1.then k2 fun q hq hS => by
        rcases hS with rfl | hS
        · omega
        · have := (hFc _ (h7 _ hS).1).1
          have : w0.heap.size ≤ q := this
          omega
      rcases hres with ⟨j, n, a', hn, ha, hnm, rfl⟩ | ⟨hno, rfl⟩
      · refine ⟨some ⟨a'.1, a'.2, none⟩, rfl, sat_iteF.2 (s_leaf ?_)⟩
        rw [if_pos rfl, w1']
        have hjk : j < ks.length := by have := (List.getElem?_eq_some_iff.1 hn).1; omega
        have hc : ks[j]? = some ks[j] := List.getElem?_eq_getElem hjk
        generalize ks[j] = c' at hc
        obtain ⟨a2, F1, g1, g2, g3⟩ := AllV.get ks ad G j c' h9 hc
        rw [ha] at g1
        cases g1
        obtain ⟨c1, _, _⟩ := kid_in hwc hc
        refine ⟨keys.length - (i + 1), (((i + 1 : Nat) : Int), some ⟨a'.1, a'.2, none⟩, ()), rfl, by omega, i + 1, c', a', F1, rfl, rfl, hin, c1, PdL.get hpk hc, VAt.sm c' a' F1 (Sm.sub (hG G fun y hy => ⟨(hFc y (h8 y hy).1).2, (h8 y hy).2.1, (h8 y hy).2.2.2⟩) g3) g2, fun y hy => ?_, k02, fun r hr => hR r (FindR.hit ?_ hr)⟩
        · have := hFc y (h8 y (g3 y hy)).1
          have := k2.size
          omega
        · refine .inl ⟨treeN_k s _, j, ?_, ?_⟩
          · rw [treeN_keys]
            show (ns.map (nmS s))[j]? = some key
            rw [List.getElem?_map, hn, ← hnm]; rfl
          · rw [treeN_kids]; exact treeL_get hc
      · refine ⟨none, rfl, sat_iteT.2 (s_leaf ?_)⟩
        rw [if_neg (by decide)]
        refine ⟨rfl, ⟨none, hR none (FindR.miss _ ⟨fun _ j hj => ?_, fun h5 => ?_⟩), .inl ⟨rfl, rfl⟩⟩, k02⟩
        · rw [treeN_keys] at hj
          have hj : (ns.map (nmS s))[j]? = some key := hj
          rw [List.getElem?_map] at hj
          obtain ⟨n, hn, rfl⟩ := Option.map_eq_some_iff.1 hj
          exact hno n (List.mem_of_getElem? hn) rfl
        · rw [treeN_k] at h5
          have h5 : 6 = 5 := h5
          omega
    · have g6 : k ≠ 6 := fun c => g6 (kd1.2 c)
      refine s_ptr (s_load (kindN k) (by rw [addr_add]; exact (h2 4 _ rfl).1) (s_iteE (fun g5 => ?_) (fun g5 => s_leaf ?_)))
      · have g5 := kd2.1 g5
        subst g5
        have hrr := h3 rfl
        refine s_call (atoi_any hkok hksz (e0.kp k1) (e1.kp k1)) ?_
        rintro e' w2 ⟨⟨n, er, rfl, hif, hcase⟩, k2⟩
        have k02 := k1.trans k2
        have miss : (∀ D, ixK key = some D → ks.length ≤ D) → GetPost s p keys w0 (.returned (.pointer none)) w2 := fun hm => by
          refine ⟨⟨none, hR none (FindR.miss _ ⟨fun h6 => ?_, fun _ D hD => ?_⟩), .inl ⟨rfl, rfl⟩⟩, k02⟩
          · rw [treeN_k] at h6
            have h6 : 5 = 6 := h6
            omega
          · rw [treeN_kids, treeL_len]; exact hm D hD
        refine ⟨(n, er, ()), rfl, s_chk hif ?_⟩
        rcases hcase with ⟨hnil, D, rfl, hD⟩ | ⟨hnil, hbad⟩
        · refine s_ite (fun g => by rw [show isNil er = true from hnil] at g; cases g) (fun _ => s_iteD (fun g => ?_) (fun _ => ?_))
          · have g : (D : Int) < 0 := g
            omega
          have h22 := h2.kp k2 h2.lt id
          refine s_ptr (s_load a (by rw [addr_add]; exact (h22 2 _ rfl).1) (s_iteD (fun g => s_leaf ?_) (fun g => ?_)))
          · rw [if_neg (by decide)]
            refine ⟨rfl, miss fun D' hD' => ?_⟩
            rw [hD] at hD'; cases hD'
            have g : (D : Int) ≥ ((a.2.1 : Nat) : Int) := g
            rw [hrr.1] at g
            omega
          · have g : ¬ (D : Int) ≥ ((a.2.1 : Nat) : Int) := g
            rw [hrr.1] at g
            have hDk : D < ks.length := by omega
            have hc : ks[D]? = some ks[D] := List.getElem?_eq_getElem hDk
            generalize ks[D] = c' at hc
            obtain ⟨a2, F1, g1, g2, g3⟩ := AllV.get ks ad G D c' h9 hc
            rcases hrr.2.2 with h0 | ⟨bb, r1, r2⟩
            · have : (ad.map ptrV).length = 0 := by rw [h0]; rfl
              rw [List.length_map, h1] at this
              omega
            have hcell := (r2 D (ptrV a2) (by rw [List.getElem?_map, g1]; rfl)).1
            have hbl := Ms.cell_lt hcell
            refine s_ptr (s_load a (by rw [addr_add]; exact (h22 2 _ rfl).1) (s_chk ⟨by show (0 : Int) ≤ (D : Int); omega, by show (D : Int) < ((a.2.1 : Nat) : Int); rw [hrr.1]; omega⟩ ⟨_, r1, ?_⟩))
            refine s_load (s := .ptr) (some ⟨a2.1, a2.2, none⟩) (by
              show w2.cell? (Addr.add ⟨bb, 0, none⟩ (Int.toNat (D : Int) * 1)) = some (ptrV a2)
              rw [addr_add, Int.toNat_natCast, Nat.mul_one, k2.cell (a := ⟨bb, 0 + D, none⟩) hbl id]
              exact hcell) (s_leaf ?_)
            rw [if_pos rfl, w1']
            obtain ⟨c1, _, _⟩ := kid_in hwc hc
            refine ⟨keys.length - (i + 1), (((i + 1 : Nat) : Int), some ⟨a2.1, a2.2, none⟩, ()), rfl, by omega, i + 1, c', a2, F1, rfl, rfl, hin, c1, PdL.get hpk hc, VAt.sm c' a2 F1 (Sm.kp k2 fun y hy => ⟨(hFc y (h8 y (g3 y hy)).1).2, id⟩) g2, fun y hy => ?_, k02, fun r hr => hR r (FindR.hit (.inr ⟨treeN_k s _, D, hD, by rw [treeN_kids]; exact treeL_get hc⟩) hr)⟩
            have := hFc y (h8 y (g3 y hy)).1
            have := k2.size
            omega
        · refine s_ite (fun _ => s_leaf ?_) (fun g => by rw [show isNil er = false from hnil] at g; cases g)
          rw [if_neg (by decide)]
          refine ⟨rfl, miss fun D hD => ?_⟩
          have : ks.length ≤ s.size := hcl.1
          rcases hbad with h | ⟨D', h, hb⟩
          · rw [h] at hD; cases hD
          · rw [h] at hD; cases hD; omega
      · rw [if_neg (by decide)]
        refine ⟨rfl, ⟨none, hR none (FindR.miss _ ⟨fun h6 => ?_, fun h5' => ?_⟩), .inl ⟨rfl, rfl⟩⟩, k1⟩
        · rw [treeN_k] at h6; exact absurd h6 g6
        · rw [treeN_k] at h5'; exact absurd (kd2.2 h5') g5
  · rw [if_neg (by decide)]
    have hil : i = keys.length := by omega
    subst hil
    rw [List.drop_length] at hR
    exact ⟨rfl, ⟨some (treeN s c), hR _ (FindR.fin _), .inr ⟨c, u, F', rfl, hVc, hFc, hwc, hpc, rfl⟩⟩, k1⟩
end Go.Proofs.YtkpnomdmnhhaoaaDoor.Zv
