/- The text that Set makes at new keys: the keys lead to the value; another Set there. Plain; no statement of the set is proved here. -/
import Derived.Test.YtlfebfkphgelfaaDoorSe
namespace Go.Proofs.YtlfebfkphgelfaaDoor.Ka
open Go Go.Proofs Go.RowKit Go.Proofs.YtlfebfkphgelfaaDoor.Rx Go.Proofs.YtlfebfkphgelfaaDoor.Pl Go.Proofs.YtlfebfkphgelfaaDoor.Pw Go.Proofs.YtlfebfkphgelfaaDoor.Sk Go.Proofs.YtlfebfkphgelfaaDoor.Ut Go.Proofs.YtlfebfkphgelfaaDoor.Ql
open Go.Proofs.YtlfebfkphgelfaaDoor.Ed (opn nstL insL inI AsIs mkB len_of mkB_size put put_size put_toList eq_of_list mkB_list new_led new_led2 put_put)
open Go.Proofs.YtlfebfkphgelfaaDoor.Bw (gb)

variable {s : ByteArray} {ks1 rs : List ByteArray} {k : ByteArray} {p0 : PT} {b e : Nat} {ns : List (Nat × Nat)} {ks : List PT}
theorem own_take (hb : b < e) (he : e ≤ s.size) : s.data.toList.take b ++ (s.extract b e).data.toList.take ((s.extract b e).size - 1) = s.data.toList.take (e - 1) := by
  have hz : (s.extract b e).size = e - b := by rw [ByteArray.size_extract]; omega
  have h1 := extract_tl s b (e - b)
  rw [Nat.add_sub_cancel' (Nat.le_of_lt hb)] at h1
  rw [h1, hz, List.take_take, Nat.min_eq_left (by omega)]
  have h2 : s.data.toList.take (b + (e - b - 1)) = s.data.toList.take b ++ (s.data.toList.drop b).take (e - b - 1) := List.take_add
  rw [show e - 1 = b + (e - b - 1) by omega, h2]
  rfl
theorem last_drop (h1 : 1 ≤ e) (he : e ≤ s.size) (hc : bt s ((e - 1 : Nat) : Int) = 125) : s.data.toList.drop (e - 1) = 125 :: s.data.toList.drop e := by
  have h := tl_on (o := s) (p := e - 1) (by omega)
  have hg : gb s (e - 1) = 125 := by
    refine UInt8.toNat_inj.1 ?_
    rw [Uq.gb_bn]
    rw [bt_bn] at hc
    exact Int.ofNat.inj hc
  rw [hg, Nat.sub_add_cancel h1] at h
  exact h
theorem put_ins {c : Bool} {v : List UInt8} (hb : b < e) (he : e ≤ s.size) (hc : bt s ((e - 1 : Nat) : Int) = 125) :
    put s (e - 1) (e - 1) (mkB (compL c false k rs v)) = put s b e (mkB (insL (s.extract b e) c k (mkB (nstL rs v)))) := by
  refine eq_of_list ?_
  rw [put_toList (by omega), put_toList he, mkB_list, mkB_list, ← own_take hb he, last_drop (by omega) he hc]
  unfold insL compL nstL
  rw [mkB_list]
  simp [List.append_assoc]
theorem comp_nst (v : List UInt8) : compL false true k rs v = nstL (k :: rs) v := by
  have e0 : opn (k :: rs) = [123, 34] ++ (k.data.toList ++ ([34, 58] ++ opn rs)) := rfl
  unfold nstL compL
  rw [e0, List.length_cons, List.replicate_succ']
  simp [List.append_assoc]
theorem newT_led {a : ByteArray} {pa : PT} (hN : New s p0 ks1 b e ns ks k rs) (hne : ∀ n ∈ ns, nmS s n ≠ k) (hk : AsIs k) (hr : ∀ r ∈ rs, AsIs r) (ha : WfV a pa) (hab : pa.b = 0) (hae : pa.e = a.size) :
    ∃ p0' q, Led (newT s ks1 b e ks k rs a.data.toList) p0' (ks1 ++ k :: rs) q ∧ ∀ v : ByteArray, put (newT s ks1 b e ks k rs a.data.toList) q.b q.e v = newT s ks1 b e ks k rs v.data.toList := by
  obtain ⟨w1, w2, w3, w4⟩ := Gk.wf_obj hN.led.wfp
  have w6 := Gk.wfM_end _ _ _ _ _ w4
  have hz : (s.extract b e).size = e - b := by rw [ByteArray.size_extract]; omega
  have first : ∀ c : Bool, (c = false ↔ ks = []) → (∀ v, newT s ks1 b e ks k rs v = put s (e - 1) (e - 1) (mkB (compL c false k rs v))) → ∃ p0' q, Led (newT s ks1 b e ks k rs a.data.toList) p0' (ks1 ++ k :: rs) q ∧ ∀ v : ByteArray, put (newT s ks1 b e ks k rs a.data.toList) q.b q.e v = newT s ks1 b e ks k rs v.data.toList := by
    intro c hc hT
    obtain ⟨p0', q, h1, h2, h3⟩ := new_led hN.led hne hk hr ha hab hae hc
    refine ⟨p0', q, ?_, fun v => ?_⟩
    · rw [hT, put_ins w1 w2 w6.2]; exact h1
    · rw [hT, hT, put_ins w1 w2 w6.2, put_ins w1 w2 w6.2]
      have eL : ∀ u : ByteArray, insL (s.extract b e) c k (mkB (nstL rs u.data.toList)) = ((s.extract b e).data.toList.take ((s.extract b e).size - 1) ++ (if c then [44] else []) ++ [34] ++ k.data.toList ++ [34, 58] ++ opn rs) ++ (u.data.toList ++ (List.replicate rs.length 125 ++ [125])) := by
        intro u
        unfold insL nstL
        rw [mkB_list]
        simp [List.append_assoc]
      rw [eL, eL]
      have lL : ((s.extract b e).data.toList.take ((s.extract b e).size - 1) ++ (if c then [44] else []) ++ [34] ++ k.data.toList ++ [34, 58] ++ opn rs).length = inI (s.extract b e) c + k.size + 3 + (opn rs).length := by
        have lc : (if c then [(44 : UInt8)] else []).length = (if c then 1 else 0) := by cases c <;> rfl
        simp only [List.length_append, List.length_take, len_of, List.length_cons, List.length_nil, lc]
        unfold inI
        omega
      rw [h3, h2, ← lL]
      exact put_put (Nat.le_of_lt w1) w2
  by_cases hks : ks = []
  · by_cases hk1 : ks1 = []
    · exact first false (by simp [hks]) fun v => by unfold newT; rw [if_neg (fun g => g hks), if_pos hk1]
    · have hT : ∀ v, newT s ks1 b e ks k rs v = put s b e (mkB (nstL (k :: rs) v)) := fun v => by
        unfold newT; rw [if_neg (fun g => g hks), if_neg hk1, comp_nst]
      obtain ⟨p0', q, h1, h2, h3⟩ := new_led2 (k := k) (rs := rs) hN.led hk hr ha hab hae
      have h2 : q.b = b + (opn (k :: rs)).length := h2
      refine ⟨p0', q, by rw [hT]; exact h1, fun v => ?_⟩
      rw [hT, hT]
      unfold nstL
      rw [h3, h2]
      exact put_put (Nat.le_of_lt w1) w2
  · exact first true (by simp [hks]) fun v => by unfold newT; rw [if_pos hks]
end Go.Proofs.YtlfebfkphgelfaaDoor.Ka
