/- The keys' row; the reference's Member, at, Unique, Find; laws.fjKeys, fjLook. No statement of the set is proved here. -/
import Derived.Test.YtkpnomdmnhhaoaaDoorZl
import Derived.Test.YtkpnomdmnhhaoaaDoorZk
namespace Go.Proofs.YtkpnomdmnhhaoaaDoor.Zf
open Go Go.Proofs Go.RowKit Go.Proofs.YtkpnomdmnhhaoaaDoor.Rx Go.Proofs.YtkpnomdmnhhaoaaDoor.Tr Go.Proofs.YtkpnomdmnhhaoaaDoor.Pl Go.Proofs.YtkpnomdmnhhaoaaDoor.Pw Go.Proofs.YtkpnomdmnhhaoaaDoor.Nt
open Go.Proofs.YtkpnomdmnhhaoaaDoor.Sr (Sl slV RowIn places)
open Go.Proofs.YtkpnomdmnhhaoaaDoor.Lj (Any)
open Go.Proofs.YtkpnomdmnhhaoaaDoor.Zu (pd)

variable {w w' : World} {q : Sl} {keys : List ByteArray} {B : Nat → Prop} {s : ByteArray}
/-- The keys' row. -/
structure Kx (w : World) (q : Sl) (keys : List ByteArray) : Prop where
  len : q.2.1 = keys.length
  cap : q.2.1 ≤ q.2.2
  cell : keys = [] ∨ ∃ b o : Nat, q.1 = some ⟨b, o, none⟩ ∧ b < w.heap.size ∧ ∀ j key, keys[j]? = some key → w.cell? ⟨b, o + j, none⟩ = some (.string key)
theorem Kx.kp (h : Kx w q keys) (k : Kp Off w w') : Kx w' q keys := by
  refine ⟨h.len, h.cap, ?_⟩
  rcases h.cell with h0 | ⟨b, o, h1, h2, h3⟩
  · exact .inl h0
  refine .inr ⟨b, o, h1, Nat.lt_of_lt_of_le h2 k.size, fun j key hj => ?_⟩
  rw [k.cell (a := ⟨b, o + j, none⟩) h2 id]; exact h3 j key hj
theorem Kx.drop (h : Kx w q keys) (d : Nat) (hd : d ≤ keys.length) : Kx w ((if q.2.2 = d then q.1 else q.1.map fun y => y.add (d * 1)), q.2.1 - d, q.2.2 - d) (keys.drop d) := by
  have hl := h.len
  have hc := h.cap
  refine ⟨by rw [List.length_drop]; show q.2.1 - d = _; omega, by show q.2.1 - d ≤ q.2.2 - d; omega, ?_⟩
  rcases h.cell with h0 | ⟨b, o, h1, h2, h3⟩
  · left; rw [h0]; exact List.drop_nil
  right
  show ∃ b' o', (if q.2.2 = d then q.1 else q.1.map fun y => y.add (d * 1)) = some ⟨b', o', none⟩ ∧ _
  split
  · refine ⟨b, o, h1, h2, fun j key hj => ?_⟩
    rw [List.drop_eq_nil_of_le (by omega)] at hj
    simp at hj
  · refine ⟨b, o + d, by rw [h1, Option.map_some, addr_add, Nat.mul_one], h2, fun j key hj => ?_⟩
    rw [List.getElem?_drop] at hj
    have := h3 (d + j) key hj
    rw [← this, Nat.add_assoc]
/-- A key is read. -/
theorem s_key {Q : Nat → List Value → World → Prop} {K : Sh.str.Ty → T} {j : Nat} {key : ByteArray} (h : Kx w q keys) (hj : keys[j]? = some key) (hK : sat Tryd.prog (K key) Q w) :
    sat Tryd.prog (.chk (((0 : Int) ≤ (j : Int)) ∧ ((j : Int) < ((q.2.1 : Nat) : Int))) <| .ptr q.1 fun z => .load (Addr.add z ((Int.toNat (j : Int)) * 1)) .str K) Q w := by
  obtain ⟨b, o, h1, h2, h3⟩ : ∃ b o : Nat, q.1 = some ⟨b, o, none⟩ ∧ b < w.heap.size ∧ ∀ j key, keys[j]? = some key → w.cell? ⟨b, o + j, none⟩ = some (.string key) := by
    rcases h.cell with h0 | h0
    · rw [h0] at hj; simp at hj
    · exact h0
  have hl := h.len
  have hlt := (List.getElem?_eq_some_iff.1 hj).1
  refine s_chk (by omega) ⟨_, h1, ?_⟩
  rw [Int.toNat_natCast, Nat.mul_one]
  dsimp only
  rw [addr_add]
  exact s_load key (h3 j key hj) hK
theorem fits1_any {q : Sl} {keys : List ByteArray} (hK : Kx w q keys) :
    Calls Tryd.prog 8 #[slV q] w fun e w' => (∃ b : Bool, e = .returned (.bool b) ∧ (b = true → keys.length ≤ 2147483647 ∧ ∀ key ∈ keys, key.size ≤ 140737488351232)) ∧ w' = w := by
  refine laws_zzFits1.calls _ _ _ ?_
  unfold laws_zzFits1.t
  have hql := hK.len
  refine s_iteD (fun _ => s_leaf ⟨rfl, ⟨false, rfl, fun g => by cases g⟩, rfl⟩) (fun hq => ?_)
  refine s_loop (fun m z w' => ∃ i : Nat, m = keys.length - i ∧ z = ((i : Int), ()) ∧ i ≤ keys.length ∧ (∀ j key, j < i → keys[j]? = some key → key.size ≤ 140737488351232) ∧ w = w') keys.length ((0 : Int), ()) rfl ⟨0, rfl, rfl, Nat.zero_le _, fun _ _ h => absurd h (Nat.not_lt_zero _), rfl⟩ ?_
  rintro m z w1 ⟨i, rfl, rfl, hi, hj, rfl⟩
  show sat _ (laws_zzFits1.t1 q.1 q.2.1 (i : Int)) _ _
  unfold laws_zzFits1.t1
  refine s_iteD (fun hlt => ?_) (fun hge => s_leaf ?_)
  · have hin : i < keys.length := by omega
    have hkey : keys[i]? = some keys[i] := List.getElem?_eq_getElem hin
    refine s_key hK hkey (s_iteD (fun _ => s_leaf ?_) (fun hsz => s_leaf ?_))
    · rw [if_neg (by decide)]; exact ⟨rfl, ⟨false, rfl, fun g => by cases g⟩, rfl⟩
    · rw [if_pos rfl]
      have w1' : IntKind.wrap IntKind.i64 ((i : Int) + 1) = ((i + 1 : Nat) : Int) := by rw [wrap_in (by omega) (by omega)]; omega
      rw [w1']
      refine ⟨keys.length - (i + 1), (((i + 1 : Nat) : Int), ()), rfl, by omega, i + 1, rfl, rfl, hin, fun j key hji hjk => ?_, rfl⟩
      rcases Nat.lt_or_ge j i with g | g
      · exact hj j key g hjk
      · have : j = i := by omega
        subst this
        rw [hkey] at hjk
        cases hjk
        omega
  · rw [if_neg (by decide)]
    refine ⟨rfl, ⟨true, rfl, fun _ => ⟨by omega, fun key hk => ?_⟩⟩, rfl⟩
    obtain ⟨j, hj1, rfl⟩ := List.mem_iff_getElem.1 hk
    exact hj j _ (by omega) (List.getElem?_eq_getElem hj1)
theorem nc_inj {k : Int} {t : ByteArray} {a b a' b' : Sl} (h : nc k t a b = nc k t a' b') : a = a' ∧ b = b' := by
  unfold nc at h
  simp only [List.cons.injEq, Value.slice.injEq, true_and, and_true] at h
  obtain ⟨⟨x1, x2, x3⟩, y1, y2, y3⟩ := h
  exact ⟨Prod.ext x1 (Prod.ext x2 x3), Prod.ext y1 (Prod.ext y2 y3)⟩
theorem rows_ {n : NT} {a b : Sl} (h : NdAt B w n (nc n.k n.t a b)) : ∃ xs : List Value, RowIn B w a n.keys.length (n.keys.map strV) 1 ∧ RowIn B w b n.kids.length xs 4 ∧ AllN B w n.kids xs := by
  obtain ⟨a', b', xs, he, h1, h2, h3⟩ := h.inv
  obtain ⟨rfl, rfl⟩ := nc_inj he
  exact ⟨xs, h1, h2, h3⟩
theorem any_ {n : NT} {cs : List Value} (h : NdAt B w n cs) (k : Kp Off w w') : NdAt Any w' n cs := h.kp k fun _ _ _ => ⟨trivial, id⟩
theorem member_any {n : NT} {a b : Sl} {name : ByteArray} (hn : NdAt B w n (nc n.k n.t a b)) (hl : n.keys.length ≤ 4294967296) :
    Calls Tryd.prog 37 #[.agg (nc n.k n.t a b).toArray, .string name] w fun e w' => (∃ r : Int, e = .returned (.int .i64 r) ∧ ((r = -1 ∧ ∀ (j : Nat) (x : ByteArray), n.keys[j]? = some x → x ≠ name) ∨ ∃ i : Nat, r = (i : Int) ∧ n.keys[i]? = some name ∧ ∀ (j : Nat) (x : ByteArray), j < i → n.keys[j]? = some x → x ≠ name)) ∧ Kp Off w w' := by
  obtain ⟨xs, hr1, hr2, hall⟩ := rows_ hn
  refine spec_Member.calls _ _ _ _ _ _ _ _ _ ?_
  unfold spec_Member.t
  refine s_alloc ?_
  have b0 := Blk.new w (nc n.k n.t a b) tN
  have k0 : Kp Off w (w.alloc (.cells (nc n.k n.t a b).toArray tN (0, 0))) := (Kp.refl Off w).alloc _
  show sat _ _ _ (w.alloc (.cells (nc n.k n.t a b).toArray tN (0, 0)))
  generalize w.alloc (.cells (nc n.k n.t a b).toArray tN (0, 0)) = w1 at k0 b0
  obtain ⟨l1, l2, l3⟩ := Lj.RowIn.any hr1 k0
  refine s_load a (by rw [addr_add, Nat.zero_add, b0.cell]; rfl) ?_
  refine s_loop (fun m z w' => ∃ i : Nat, m = n.keys.length - i ∧ z = ((i : Int), ()) ∧ i ≤ n.keys.length ∧ (∀ (j : Nat) (x : ByteArray), j < i → n.keys[j]? = some x → x ≠ name) ∧ w1 = w') n.keys.length ((0 : Int), ()) rfl ⟨0, rfl, rfl, Nat.zero_le _, fun j x h => absurd h (Nat.not_lt_zero _), rfl⟩ ?_
  rintro m z w2 ⟨i, rfl, rfl, hi, hj, rfl⟩
  show sat _ (spec_Member.t1 name a (i : Int)) _ _
  unfold spec_Member.t1
  refine s_iteD (fun hlt => ?_) (fun hge => s_leaf ?_)
  · have hin : i < n.keys.length := by omega
    rcases l3 with l3 | ⟨g, a1, _, _, a4⟩
    · omega
    have hk : (n.keys.map strV)[i]? = some (strV n.keys[i]) := by rw [List.getElem?_map, List.getElem?_eq_getElem hin]; rfl
    refine s_chk ⟨by omega, by omega⟩ ⟨_, a1, ?_⟩
    refine s_load n.keys[i] (by rw [addr_add, Int.toNat_natCast, Nat.zero_add, Nat.mul_one]; exact a4 _ _ hk) ?_
    refine s_ite (fun h => s_leaf ?_) (fun h => s_leaf ?_)
    · rw [if_neg (by decide)]
      have h := strEq_iff.1 h
      exact ⟨rfl, ⟨(i : Int), rfl, .inr ⟨i, rfl, by rw [← h]; exact List.getElem?_eq_getElem hin, hj⟩⟩, k0⟩
    · rw [if_pos rfl]
      have w1' : IntKind.wrap IntKind.i64 ((i : Int) + 1) = ((i + 1 : Nat) : Int) := by rw [wrap_in (by omega) (by omega)]; omega
      rw [w1']
      refine ⟨n.keys.length - (i + 1), (((i + 1 : Nat) : Int), ()), rfl, by omega, i + 1, rfl, rfl, hin, fun j x hji hx => ?_, rfl⟩
      rcases Nat.lt_or_ge j i with g1 | g1
      · exact hj j x g1 hx
      · have : j = i := by omega
        subst this
        rw [List.getElem?_eq_getElem hin] at hx
        cases hx
        intro hc
        rw [strEq_iff.2 hc] at h; cases h
  · rw [if_neg (by decide)]
    refine ⟨rfl, ⟨-1, rfl, .inl ⟨rfl, fun j x hx => ?_⟩⟩, k0⟩
    have := (List.getElem?_eq_some_iff.1 hx).1
    exact hj j x (by omega) hx
/-- The last place of a name. -/
theorem at2_any {k : Int} {t name : ByteArray} {a b : Sl} {keys : List ByteArray} (hr : RowIn Any w a keys.length (keys.map strV) 1) (hl : keys.length ≤ 100000) :
    Calls Tryd.prog 36 #[.agg (nc k t a b).toArray, .string name] w fun e w' => (∃ r : Int, e = .returned (.int .i64 r) ∧ ∀ i : Nat, r = (i : Int) → keys[i]? = some name ∧ ∀ j : Nat, i < j → keys[j]? ≠ some name) ∧ Kp Off w w' := by
  refine spec_at.calls _ _ _ _ _ _ _ _ _ ?_
  unfold spec_at.t
  refine s_alloc ?_
  have b0 := Blk.new w (nc k t a b) tN
  have k0 : Kp Off w (w.alloc (.cells (nc k t a b).toArray tN (0, 0))) := (Kp.refl Off w).alloc _
  show sat _ _ _ (w.alloc (.cells (nc k t a b).toArray tN (0, 0)))
  generalize w.alloc (.cells (nc k t a b).toArray tN (0, 0)) = w1 at k0 b0
  have hr1 := Lj.RowIn.any hr k0
  obtain ⟨l1, l2, l3⟩ := hr1
  refine s_load a (by rw [addr_add, Nat.zero_add, b0.cell]; rfl) ?_
  have e0 : IntKind.wrap IntKind.i64 (((a.2.1 : Nat) : Int) - (1 : Int)) = ((keys.length : Nat) : Int) - 1 := by rw [l1, wrap_in (by omega) (by omega)]
  refine s_loop (fun n z w' => ∃ j : Nat, n = j ∧ z = (((j : Nat) : Int) - 1, ()) ∧ j ≤ keys.length ∧ (∀ q : Nat, j ≤ q → keys[q]? ≠ some name) ∧ w1 = w') keys.length (((keys.length : Nat) : Int) - 1, ()) (by rw [e0]; rfl) ⟨keys.length, rfl, rfl, Nat.le_refl _, fun q hq h => by have := (List.getElem?_eq_some_iff.1 h).1; omega, rfl⟩ ?_
  rintro n z w2 ⟨j, rfl, rfl, hj, hlast, rfl⟩
  show sat _ (spec_at.t1 name ⟨w.heap.size, 0, none⟩ (((n : Nat) : Int) - 1)) _ _
  unfold spec_at.t1
  refine s_iteD (fun hge => ?_) (fun hlt => s_leaf ?_)
  · have hn : 0 < n := by omega
    have e1 : ((n : Nat) : Int) - 1 = ((n - 1 : Nat) : Int) := by omega
    rw [e1]
    rcases l3 with l3 | ⟨g, a1, _, _, a4⟩
    · omega
    have hk : (keys.map strV)[n - 1]? = some (strV keys[n - 1]) := by rw [List.getElem?_map, List.getElem?_eq_getElem (by omega)]; rfl
    refine s_load a (by rw [addr_add, Nat.zero_add, b0.cell]; rfl) (s_chk ⟨by omega, by omega⟩ ⟨_, a1, ?_⟩)
    refine s_load keys[n - 1] (by rw [addr_add, Int.toNat_natCast, Nat.zero_add, Nat.mul_one]; exact a4 _ _ hk) ?_
    refine s_ite (fun he => s_leaf ?_) (fun hne => s_leaf ?_)
    · rw [if_neg (by decide)]
      refine ⟨rfl, ⟨((n - 1 : Nat) : Int), rfl, fun i hi => ?_⟩, k0⟩
      have hi : i = n - 1 := by omega
      subst hi
      exact ⟨by rw [← strEq_iff.1 he]; exact List.getElem?_eq_getElem (by omega), fun j hj => hlast j (by omega)⟩
    · rw [if_pos rfl]
      refine ⟨n - 1, (((n - 1 : Nat) : Int) - 1, ()), ?_, by omega, n - 1, rfl, rfl, by omega, fun q hq h => ?_, rfl⟩
      · rw [wrap_in (by omega) (by omega)]; rfl
      · rcases Nat.lt_or_ge q n with g | g
        · have hq : q = n - 1 := by omega
          subst hq
          rw [List.getElem?_eq_getElem (by omega)] at h
          rw [strEq_iff.2 (Option.some.inj h)] at hne; cases hne
        · exact hlast q g h
  · rw [if_neg (by decide)]; exact ⟨rfl, ⟨-1, rfl, fun i hi => by omega⟩, k0⟩
/-- Unique. -/
theorem unique2_any : ∀ (N : Nat) (nt : NT) (w : World) (B : Nat → Prop) (a b : Sl), SizeOf.sizeOf nt < N → Sm nt → NdAt B w nt (nc nt.k nt.t a b) → Calls Tryd.prog 19 #[.agg (nc nt.k nt.t a b).toArray] w fun e w' => (∃ r : Bool, e = .returned (.bool r) ∧ (r = true → UqN nt)) ∧ Kp Off w w'
  | 0, nt, w, B, a, b, h, _, _ => absurd h (Nat.not_lt_zero _)
  | N + 1, nt, w, B, a, b, hN, hsm, hn => by
    obtain ⟨m1, m2, m3⟩ := hsm.inv
    obtain ⟨a', b', xs, he, hr1, hr2, hall⟩ := hn.inv
    have he1 : a' = a ∧ b' = b := by
      unfold nc at he
      simp only [List.cons.injEq, Value.slice.injEq, true_and, and_true] at he
      obtain ⟨⟨x1, x2, x3⟩, y1, y2, y3⟩ := he
      exact ⟨Prod.ext x1.symm (Prod.ext x2.symm x3.symm), Prod.ext y1.symm (Prod.ext y2.symm y3.symm)⟩
    obtain ⟨rfl, rfl⟩ := he1
    clear he
    refine spec_Unique.calls _ _ _ _ _ _ _ _ ?_
    unfold spec_Unique.t
    refine s_alloc ?_
    have b0 := Blk.new w (nc nt.k nt.t a' b') tN
    have k0 : Kp Off w (w.alloc (.cells (nc nt.k nt.t a' b').toArray tN (0, 0))) := (Kp.refl Off w).alloc _
    show sat _ _ _ (w.alloc (.cells (nc nt.k nt.t a' b').toArray tN (0, 0)))
    generalize w.alloc (.cells (nc nt.k nt.t a' b').toArray tN (0, 0)) = w1 at k0 b0
    have hl1 := hr1.1
    have hl2 := hr2.1
    refine s_loop (fun m z w' => ∃ i : Nat, m = nt.keys.length - i ∧ z = ((i : Int), ()) ∧ i ≤ nt.keys.length ∧ (∀ (q r : Nat) (x : ByteArray), q < i → nt.keys[q]? = some x → q < r → nt.keys[r]? ≠ some x) ∧ Blk w' w.heap.size (nc nt.k nt.t a' b') tN ∧ Kp Off w w') nt.keys.length ((0 : Int), ()) rfl ⟨0, rfl, rfl, Nat.zero_le _, fun q _ _ h => absurd h (Nat.not_lt_zero q), b0, k0⟩ ?_
    clear b0 k0
    rintro m z w2 ⟨i, rfl, rfl, hi, hu, b2, k2⟩
    show sat _ (spec_Unique.t1 ⟨w.heap.size, 0, none⟩ (i : Int)) _ _
    unfold spec_Unique.t1
    refine s_load a' (by rw [addr_add, Nat.zero_add, b2.cell]; rfl) (s_iteD (fun hlt => s_drew ?_) (fun hge => ?_))
    · have hin : i < nt.keys.length := by omega
      have kd : Kp Off w2 w2.drew := (Kp.refl Off w2).drew
      have b3 := kd.blk b2 id
      have k3 := k2.trans kd
      generalize w2.drew = w3 at kd b3 k3
      refine ⟨((nt.k : Int), nt.t, a', b', ()), fun w'' hw'' => loadN ((Kp.of_below (S := Off) hw'').blk b3 id), ?_⟩
      obtain ⟨l1, l2, l3⟩ := Lj.RowIn.any hr1 k3
      rcases l3 with l3 | ⟨g, a1, _, _, a4⟩
      · omega
      have hk : (nt.keys.map strV)[i]? = some (strV nt.keys[i]) := by rw [List.getElem?_map, List.getElem?_eq_getElem hin]; rfl
      refine s_load a' (by rw [addr_add, Nat.zero_add, b3.cell]; rfl) (s_chk ⟨by omega, by omega⟩ ⟨_, a1, ?_⟩)
      refine s_load nt.keys[i] (by rw [addr_add, Int.toNat_natCast, Nat.zero_add, Nat.mul_one]; exact a4 _ _ hk) ?_
      refine s_call (at2_any (Lj.RowIn.any hr1 k3) m1) ?_
      rintro e w4 ⟨⟨r, rfl, hr⟩, k4⟩
      refine ⟨r, rfl, s_iteN (fun _ => s_leaf ?_) (fun hri => s_leaf ?_)⟩
      · rw [if_neg (by decide)]; exact ⟨rfl, ⟨false, rfl, fun h => by cases h⟩, k3.trans k4⟩
      · rw [if_pos rfl]
        have w1' : IntKind.wrap IntKind.i64 ((i : Int) + 1) = ((i + 1 : Nat) : Int) := by rw [wrap_in (by omega) (by omega)]; omega
        rw [w1']
        exact ⟨nt.keys.length - (i + 1), (((i + 1 : Nat) : Int), ()), rfl, by omega, i + 1, rfl, rfl, hin, fun q r' x hq hx hqr => by
          rcases Nat.lt_or_ge q i with g | g
          · exact hu q r' x g hx hqr
          · have hqi : q = i := by omega
            subst hqi
            rw [List.getElem?_eq_getElem hin] at hx
            cases hx
            exact (hr q hri).2 r' hqr, k4.blk b3 id, k3.trans k4⟩
    · have huq : ∀ (q r : Nat) (x : ByteArray), nt.keys[q]? = some x → nt.keys[r]? = some x → q = r := fun q r x hq hr => by
        have h1 := (List.getElem?_eq_some_iff.1 hq).1
        have h2 := (List.getElem?_eq_some_iff.1 hr).1
        rcases Nat.lt_trichotomy q r with g | g | g
        · exact absurd hr (hu q r x (by omega) hq g)
        · exact g
        · exact absurd hq (hu r q x (by omega) hr g)
      clear hu
      refine s_loop (fun m z w' => ∃ i : Nat, m = nt.kids.length - i ∧ z = ((i : Int), ()) ∧ i ≤ nt.kids.length ∧ (∀ (q : Nat) (c : NT), q < i → nt.kids[q]? = some c → UqN c) ∧ Blk w' w.heap.size (nc nt.k nt.t a' b') tN ∧ Kp Off w w') nt.kids.length ((0 : Int), ()) rfl ⟨0, rfl, rfl, Nat.zero_le _, fun q _ h => absurd h (Nat.not_lt_zero q), b2, k2⟩ ?_
      clear b2 k2 hge
      rintro m z w3 ⟨j, rfl, rfl, hj, hkid, b3, k3⟩
      show sat _ (spec_Unique.t2 ⟨w.heap.size, 0, none⟩ (j : Int)) _ _
      unfold spec_Unique.t2
      refine s_load b' (by rw [addr_add, Nat.zero_add, b3.cell]; rfl) (s_iteD (fun hlt => ?_) (fun hge => s_leaf ?_))
      · have hin : j < nt.kids.length := by omega
        have hc : nt.kids[j]? = some nt.kids[j] := List.getElem?_eq_getElem hin
        generalize nt.kids[j] = c at hc
        obtain ⟨l1, l2, l3⟩ := Lj.RowIn.any hr2 k3
        rcases l3 with l3 | ⟨g, a1, _, _, a4⟩
        · omega
        obtain ⟨cs, hcn, hcs⟩ := all_getN nt.kids xs j c hall hc
        have hcn0 := hcn
        obtain ⟨ac, bc, _, rfl, _⟩ := hcn0.inv
        refine s_load b' (by rw [addr_add, Nat.zero_add, b3.cell]; rfl) (s_chk ⟨by omega, by omega⟩ ⟨_, a1, ?_⟩)
        refine s_eff (w' := w3) ((c.k : Int), c.t, ac, bc, ()) (by
          rw [addr_add, Int.toNat_natCast]
          refine node_run fun q hq => ?_
          have h1 := hcs q hq
          obtain ⟨y, hy⟩ : ∃ y, (nc c.k c.t ac bc)[q]? = some y := ⟨_, List.getElem?_eq_getElem (show q < 4 from hq)⟩
          rw [hy] at h1 ⊢
          rw [Nat.zero_add]
          exact a4 _ _ h1) ?_
        have hcn3 : NdAt Any w3 c (nc c.k c.t ac bc) := hcn.kp k3 fun q _ _ => ⟨trivial, id⟩
        have := size_kid hc
        refine s_call (unique2_any N c w3 Any ac bc (by omega) (m3.get hc) hcn3) ?_
        rintro e w4 ⟨⟨r, rfl, hr⟩, k4⟩
        refine ⟨r, rfl, ?_⟩
        cases r with
        | false => exact sat_iteT.2 (s_leaf (by rw [if_neg (by decide)]; exact ⟨rfl, ⟨false, rfl, fun h => by cases h⟩, k3.trans k4⟩))
        | true =>
          refine sat_iteF.2 (s_leaf ?_)
          rw [if_pos rfl]
          have w1' : IntKind.wrap IntKind.i64 ((j : Int) + 1) = ((j + 1 : Nat) : Int) := by rw [wrap_in (by omega) (by omega)]; omega
          rw [w1']
          exact ⟨nt.kids.length - (j + 1), (((j + 1 : Nat) : Int), ()), rfl, by omega, j + 1, rfl, rfl, hin, fun q c' hq hc' => by
            rcases Nat.lt_or_ge q j with g | g
            · exact hkid q c' g hc'
            · have hqj : q = j := by omega
              subst hqj
              rw [hc] at hc'
              cases hc'
              exact hr rfl, k4.blk b3 id, k3.trans k4⟩
      · rw [if_neg (by decide)]; exact ⟨rfl, ⟨true, rfl, fun _ => UqN.mk huq fun q c hq => hkid q c (by have := (List.getElem?_eq_some_iff.1 hq).1; omega) hq⟩, k3⟩
theorem size_pos {t : ByteArray} (h : strEq t (ByteArray.mk #[]) = false) : 0 < t.size := by
  rcases Nat.eq_zero_or_pos t.size with h0 | h0
  · exfalso
    have : t = ByteArray.mk #[] := by
      apply ByteArray.ext
      apply Array.toList_inj.1
      refine List.eq_nil_of_length_eq_zero ?_
      rw [Array.length_toList]; exact h0
    rw [strEq_iff.2 this] at h; cases h
  · exact h0
theorem fjKey_any {t : ByteArray} (hs : t.size ≤ 100000) : Calls Tryd.prog 35 #[.string t] w fun e w' => (∃ b : Bool, e = .returned (.bool b) ∧ (b = true → KeyOk t)) ∧ w' = w := by
  refine laws_fjKey.calls _ ?_
  unfold laws_fjKey.t
  refine s_ite (fun h => s_leaf ⟨rfl, ⟨true, rfl, fun _ => .inl ?_⟩, rfl⟩) (fun h => ?_)
  · rw [strEq_iff.1 h]; rfl
  have hp := size_pos h
  refine s_call (index_any (by omega)) ?_
  rintro e w1 ⟨⟨n, b, rfl, hb, _⟩, rfl⟩
  refine ⟨((n : Int), b, ()), rfl, s_ite (fun hbt => s_leaf ⟨rfl, ⟨true, rfl, fun _ => .inr (.inl (hb.symm.trans hbt))⟩, rfl⟩) (fun _ => s_chk ⟨by omega, by omega⟩ ?_)⟩
  refine s_iteN (fun h45 => s_iteN (fun h43 => s_iteD (fun h48 => s_leaf ⟨rfl, ⟨true, rfl, fun _ => .inr (.inr ⟨hp, h45, h43, fun c => by omega⟩)⟩, rfl⟩) (fun h48 => s_leaf ⟨rfl, ⟨_, rfl, fun h57 => .inr (.inr ⟨hp, h45, h43, fun c => ?_⟩)⟩, rfl⟩)) (fun _ => s_leaf ⟨rfl, ⟨false, rfl, fun h => by cases h⟩, rfl⟩)) (fun _ => s_leaf ⟨rfl, ⟨false, rfl, fun h => by cases h⟩, rfl⟩)
  have := of_decide_eq_true h57
  omega
theorem fjKeys_any (hK : Kx w q keys) : Calls Tryd.prog 18 #[slV q] w fun e w' =>
    (∃ b : Bool, e = .returned (.bool b) ∧ (b = true → keys.length ≤ 20 ∧ ∀ key ∈ keys, key.size ≤ 200 ∧ KeyOk key)) ∧ w' = w := by
  refine laws_fjKeys.calls _ _ _ ?_
  unfold laws_fjKeys.t
  have hql := hK.len
  refine s_iteD (fun _ => s_leaf ⟨rfl, ⟨false, rfl, fun g => by cases g⟩, rfl⟩) (fun hq => ?_)
  refine s_loop (fun m z w' => ∃ i : Nat, m = keys.length - i ∧ z = ((i : Int), ()) ∧ i ≤ keys.length ∧ (∀ j key, j < i → keys[j]? = some key → key.size ≤ 200 ∧ KeyOk key) ∧ w = w') keys.length ((0 : Int), ()) rfl ⟨0, rfl, rfl, Nat.zero_le _, fun _ _ h => absurd h (Nat.not_lt_zero _), rfl⟩ ?_
  rintro m z w1 ⟨i, rfl, rfl, hi, hj, rfl⟩
  show sat _ (laws_fjKeys.t1 q.1 q.2.1 (i : Int)) _ _
  unfold laws_fjKeys.t1
  refine s_iteD (fun hlt => ?_) (fun hge => s_leaf ?_)
  · have hin : i < keys.length := by omega
    have hkey : keys[i]? = some keys[i] := List.getElem?_eq_getElem hin
    refine s_key hK hkey (s_iteD (fun _ => s_leaf ?_) (fun hsz => ?_))
    · rw [if_neg (by decide)]; exact ⟨rfl, ⟨false, rfl, fun g => by cases g⟩, rfl⟩
    refine s_key hK hkey ?_
    refine s_call (Ch.utf8_any (by omega)) ?_
    rintro e w1 ⟨rfl, b, rfl, _⟩
    refine ⟨b, rfl, s_ite (fun _ => s_leaf ?_) (fun _ => ?_)⟩
    · rw [if_neg (by decide)]; exact ⟨rfl, ⟨false, rfl, fun g => by cases g⟩, rfl⟩
    refine s_key hK hkey ?_
    refine s_call (fjKey_any (by omega)) ?_
    rintro e w2 ⟨⟨b2, rfl, hb2⟩, rfl⟩
    refine ⟨b2, rfl, s_ite (fun _ => s_leaf ?_) (fun hb => s_leaf ?_)⟩
    · rw [if_neg (by decide)]; exact ⟨rfl, ⟨false, rfl, fun g => by cases g⟩, rfl⟩
    · rw [if_pos rfl]
      have hbt : b2 = true := by cases b2 with | true => rfl | false => cases hb
      have w1' : IntKind.wrap IntKind.i64 ((i : Int) + 1) = ((i + 1 : Nat) : Int) := by rw [wrap_in (by omega) (by omega)]; omega
      rw [w1']
      refine ⟨keys.length - (i + 1), (((i + 1 : Nat) : Int), ()), rfl, by omega, i + 1, rfl, rfl, hin, fun j key hji hjk => ?_, rfl⟩
      rcases Nat.lt_or_ge j i with g | g
      · exact hj j key g hjk
      · have : j = i := by omega
        subst this
        rw [hkey] at hjk
        cases hjk
        exact ⟨by omega, hb2 hbt⟩
  · rw [if_neg (by decide)]
    refine ⟨rfl, ⟨true, rfl, fun _ => ⟨by omega, fun key hk => ?_⟩⟩, rfl⟩
    obtain ⟨j, hj1, rfl⟩ := List.mem_iff_getElem.1 hk
    exact hj j _ (by omega) (List.getElem?_eq_getElem hj1)
mutual
/-- As many names as members. -/
def Lk : NT → Prop
  | .mk k _ keys kids => (k = 6 → keys.length = kids.length) ∧ LkL kids
def LkL : List NT → Prop
  | [] => True
  | n :: l => Lk n ∧ LkL l
end
theorem Lk.inv {n : NT} (h : Lk n) : (n.k = 6 → n.keys.length = n.kids.length) ∧ LkL n.kids := by cases n; unfold Lk at h; exact h
theorem LkL.get : ∀ {l : List NT} {i : Nat} {n : NT}, LkL l → l[i]? = some n → Lk n
  | [], _, _, _, h => by simp at h
  | m :: l, 0, n, h, hi => by
    simp only [List.getElem?_cons_zero, Option.some.injEq] at hi
    subst hi
    unfold LkL at h; exact h.1
  | m :: l, i + 1, n, h, hi => by
    unfold LkL at h
    exact LkL.get h.2 (by simpa using hi)
theorem lkL_of {s : ByteArray} : ∀ (ks : List PT), (∀ c ∈ ks, Lk (treeN s c)) → LkL (treeL s ks)
  | [], _ => by simp only [treeL, LkL]
  | c :: ks, h => by
    simp only [treeL, LkL]
    exact ⟨h c (List.mem_cons_self ..), lkL_of ks fun c' hc => h c' (List.mem_cons_of_mem _ hc)⟩
theorem wf_lens {p : PT} (hw : WfV s p) (h6 : p.k = 6) : p.ns.length = p.ks.length := by
  obtain ⟨k, b, e, ns, ks⟩ := p
  have h6 : k = 6 := h6
  subst h6
  unfold WfV at hw
  obtain ⟨_, _, ⟨_, _, _, h⟩ | ⟨h, _⟩ | ⟨h, _⟩ | ⟨_, _, h⟩⟩ := hw
  · rcases h with ⟨g, _⟩ | ⟨g, _⟩ | ⟨g, _⟩ | ⟨g, _⟩ <;> omega
  · omega
  · omega
  · exact (Lj.names_ok _ _ _ _ _ h).1
theorem lk_tree : ∀ (N : Nat) (p : PT), p.e - p.b < N → WfV s p → Lk (treeN s p)
  | 0, p, h, _ => absurd h (Nat.not_lt_zero _)
  | N + 1, p, h, hw => by
    have e1 : treeN s p = .mk p.k (treeN s p).t (p.ns.map (Ka.nmS s)) (treeL s p.ks) := by
      cases p; simp only [treeN]; rfl
    rw [e1]
    unfold Lk
    refine ⟨fun h6 => by rw [List.length_map, treeL_len]; exact wf_lens hw h6, lkL_of _ fun c hc => ?_⟩
    obtain ⟨i, hi⟩ := List.mem_iff_getElem?.1 hc
    obtain ⟨c1, c2, c3⟩ := kid_in hw hi
    have := c1.lt
    exact lk_tree N c (by omega) c1
end Go.Proofs.YtkpnomdmnhhaoaaDoor.Zf
