/- jsonparser: the text of a new member (calcAllocateSpace, createInsertComponent). No statement of the set is proved here. -/
import Derived.Test.YtlfebfkphgelfaaDoorSa
namespace Go.Proofs.YtlfebfkphgelfaaDoor.Ka
open Go Go.Proofs Go.RowKit Go.Proofs.YtlfebfkphgelfaaDoor.Rx Go.Proofs.YtlfebfkphgelfaaDoor.Tr Go.Proofs.YtlfebfkphgelfaaDoor.Pl Go.Proofs.YtlfebfkphgelfaaDoor.Pw Go.Proofs.YtlfebfkphgelfaaDoor.Sk
open Go.Proofs.YtlfebfkphgelfaaDoor.Bw (bv gb bt_bv)
open Go.Proofs.YtlfebfkphgelfaaDoor.Ed (opn nstL AsIs mkB len_of mkB_size)

variable {w w' : World} {x y q : Sl} {s t : ByteArray} {keys rs : List ByteArray} {k : ByteArray} {h N : Nat} {l : List UInt8}
/-- The room of names. -/
def clen : List ByteArray → Nat
  | [] => 0
  | r :: rs => r.size + 5 + clen rs
theorem opn_len : ∀ rs : List ByteArray, (opn rs).length + rs.length = clen rs
  | [] => rfl
  | r :: rs => by
    have := opn_len rs
    show ([123, 34] ++ (r.data.toList ++ ([34, 58] ++ opn rs))).length + (rs.length + 1) = r.size + 5 + clen rs
    simp only [List.length_append, List.length_cons, List.length_nil, len_of]; omega
theorem clen_take : ∀ (rs : List ByteArray) (j : Nat) (r : ByteArray), rs[j]? = some r → clen (rs.take (j + 1)) = clen (rs.take j) + (r.size + 5) ∧ clen (rs.take j) + (r.size + 5) ≤ clen rs
  | [], j, r, h => by simp at h
  | r0 :: rs, 0, r, h => by
    simp only [List.getElem?_cons_zero, Option.some.injEq] at h
    subst h
    show r0.size + 5 + clen (rs.take 0) = 0 + (r0.size + 5) ∧ 0 + (r0.size + 5) ≤ r0.size + 5 + clen rs
    have : clen (rs.take 0) = 0 := rfl
    omega
  | r0 :: rs, j + 1, r, h => by
    simp only [List.getElem?_cons_succ] at h
    have := clen_take rs j r h
    show r0.size + 5 + clen (rs.take (j + 1)) = r0.size + 5 + clen (rs.take j) + (r.size + 5) ∧ r0.size + 5 + clen (rs.take j) + (r.size + 5) ≤ r0.size + 5 + clen rs
    omega
theorem opn_take : ∀ (rs : List ByteArray) (j : Nat) (r : ByteArray), rs[j]? = some r → opn (rs.take (j + 1)) = opn (rs.take j) ++ ([123, 34] ++ (r.data.toList ++ [34, 58])) ∧ (opn (rs.take j)).length + r.size + 4 ≤ (opn rs).length
  | [], j, r, h => by simp at h
  | r0 :: rs, 0, r, h => by
    simp only [List.getElem?_cons_zero, Option.some.injEq] at h
    subst h
    show [123, 34] ++ (r0.data.toList ++ ([34, 58] ++ opn (rs.take 0))) = [] ++ ([123, 34] ++ (r0.data.toList ++ [34, 58])) ∧ ([] : List UInt8).length + r0.size + 4 ≤ ([123, 34] ++ (r0.data.toList ++ ([34, 58] ++ opn rs))).length
    have e : opn (rs.take 0) = [] := rfl
    rw [e]
    simp only [List.length_append, List.length_cons, List.length_nil, len_of, List.nil_append, List.append_nil]
    exact ⟨trivial, by omega⟩
  | r0 :: rs, j + 1, r, h => by
    simp only [List.getElem?_cons_succ] at h
    obtain ⟨a1, a2⟩ := opn_take rs j r h
    show [123, 34] ++ (r0.data.toList ++ ([34, 58] ++ opn (rs.take (j + 1)))) = ([123, 34] ++ (r0.data.toList ++ ([34, 58] ++ opn (rs.take j)))) ++ ([123, 34] ++ (r.data.toList ++ [34, 58])) ∧ ([123, 34] ++ (r0.data.toList ++ ([34, 58] ++ opn (rs.take j)))).length + r.size + 4 ≤ ([123, 34] ++ (r0.data.toList ++ ([34, 58] ++ opn rs))).length
    rw [a1]
    refine ⟨by simp only [List.append_assoc], ?_⟩
    simp only [List.length_append, List.length_cons, List.length_nil, len_of]; omega
def b1 (b : Bool) : Nat := if b then 1 else 0
theorem calc_any {n c : Nat} {ya : Option Addr} {comma obj : Bool} (hK : Kx w q (k :: rs)) (hn : ∀ key ∈ k :: rs, NoI key) (hb : k.size + clen rs + n ≤ 9000000) :
    Calls Tryd.prog 67 #[slV q, .slice ya n c, .bool comma, .bool obj] w fun en w' => en = .returned (.int .i64 ((b1 comma + b1 obj + (k.size + 3) + n + clen rs + b1 obj : Nat) : Int)) ∧ w' = w := by
  have hl := hK.len
  rw [List.length_cons] at hl
  have hk0 : (k :: rs)[0]? = some k := rfl
  refine jsonparser_calcAllocateSpace.calls _ _ _ _ _ _ _ _ ?_
  unfold jsonparser_calcAllocateSpace.t
  refine s_cut (fun z w' => z = (false, ()) ∧ w = w') (s_isI0 hK hk0 (hn k (by simp)) ?_) ?_
  · rw [if_pos rfl]; exact ⟨(false, ()), rfl, rfl, rfl⟩
  rintro z w' ⟨rfl, rfl⟩
  show sat _ (jsonparser_calcAllocateSpace.t1 q.1 q.2.1 n comma obj false) _ _
  unfold jsonparser_calcAllocateSpace.t1
  refine s_cut (fun z w' => z = (((b1 comma : Nat) : Int), ()) ∧ w = w') ?_ ?_
  · cases comma with
    | true => exact sat_iteT.2 (s_leaf (by rw [if_pos rfl]; exact ⟨((1 : Int), ()), rfl, rfl, rfl⟩))
    | false => exact sat_iteF.2 (s_leaf (by rw [if_pos rfl]; exact ⟨((0 : Int), ()), rfl, rfl, rfl⟩))
  rintro z w' ⟨rfl, rfl⟩
  show sat _ (jsonparser_calcAllocateSpace.t2 q.1 q.2.1 n comma obj false ((b1 comma : Nat) : Int)) _ _
  unfold jsonparser_calcAllocateSpace.t2
  refine s_cut (fun z w' => z = (false, ()) ∧ w = w') (sat_iteF.2 (s_leaf (by rw [if_pos rfl]; exact ⟨(false, ()), rfl, rfl, rfl⟩))) ?_
  rintro z w' ⟨rfl, rfl⟩
  show sat _ (jsonparser_calcAllocateSpace.t3 q.1 q.2.1 n obj false ((b1 comma : Nat) : Int) false) _ _
  unfold jsonparser_calcAllocateSpace.t3
  have hc1 : b1 comma ≤ 1 := by cases comma <;> decide
  have ho1 : b1 obj ≤ 1 := by cases obj <;> decide
  refine s_cut (fun z w' => z = (((b1 comma + b1 obj + (k.size + 3) : Nat) : Int), ()) ∧ w = w') (sat_iteF.2 ?_) ?_
  · refine s_cut (fun z w' => z = (((b1 comma + b1 obj : Nat) : Int), ()) ∧ w = w') ?_ ?_
    · cases obj with
      | true =>
        refine sat_iteT.2 (s_leaf ?_)
        rw [if_pos rfl, wup _ (by omega)]
        exact ⟨(((b1 comma + 1 : Nat) : Int), ()), rfl, rfl, rfl⟩
      | false => exact sat_iteF.2 (s_leaf (by rw [if_pos rfl]; exact ⟨(((b1 comma : Nat) : Int), ()), rfl, rfl, rfl⟩))
    rintro z w' ⟨rfl, rfl⟩
    show sat _ (jsonparser_calcAllocateSpace.t4 q.1 q.2.1 false ((b1 comma + b1 obj : Nat) : Int)) _ _
    unfold jsonparser_calcAllocateSpace.t4
    refine s_cut (fun z w' => z = (((b1 comma + b1 obj + (k.size + 3) : Nat) : Int), ()) ∧ w = w') (sat_iteT.2 (s_key0 hK hk0 (s_leaf ?_))) ?_
    · rw [if_pos rfl, show (3 : Int) = ((3 : Nat) : Int) from rfl, wad _ _ (by omega), wad _ _ (by omega)]
      exact ⟨(((b1 comma + b1 obj + (k.size + 3) : Nat) : Int), ()), rfl, rfl, rfl⟩
    rintro z w' ⟨rfl, rfl⟩
    show sat _ (jsonparser_calcAllocateSpace.t5 ((b1 comma + b1 obj + (k.size + 3) : Nat) : Int)) _ _
    unfold jsonparser_calcAllocateSpace.t5
    refine s_leaf ?_
    rw [if_pos rfl]
    exact ⟨(((b1 comma + b1 obj + (k.size + 3) : Nat) : Int), ()), rfl, rfl, rfl⟩
  rintro z w' ⟨rfl, rfl⟩
  show sat _ (jsonparser_calcAllocateSpace.t6 q.1 q.2.1 n obj false ((b1 comma + b1 obj + (k.size + 3) : Nat) : Int)) _ _
  unfold jsonparser_calcAllocateSpace.t6
  rw [wad _ _ (by omega)]
  generalize hB : b1 comma + b1 obj + (k.size + 3) + n = B
  refine s_loop (fun m z w' => ∃ j : Nat, m = rs.length - j ∧ j ≤ rs.length ∧ z = (((j + 1 : Nat) : Int), ((B + clen (rs.take j) : Nat) : Int), ()) ∧ w = w') rs.length ((1 : Int), ((B : Nat) : Int), ()) rfl ⟨0, rfl, Nat.zero_le _, by rw [List.take_zero]; rfl, rfl⟩ ?_
  rintro m z w1 ⟨j, rfl, hj, rfl, rfl⟩
  show sat _ (jsonparser_calcAllocateSpace.t7 q.1 q.2.1 obj false ((j + 1 : Nat) : Int) ((B + clen (rs.take j) : Nat) : Int)) _ _
  unfold jsonparser_calcAllocateSpace.t7
  refine s_iteD (fun g => ?_) (fun g => ?_)
  · have hjl : j < rs.length := by omega
    have hr : rs[j]? = some rs[j] := List.getElem?_eq_getElem hjl
    have hr1 : (k :: rs)[j + 1]? = some rs[j] := hr
    have hct := clen_take rs j _ hr
    refine s_cut (fun z w' => z = (false, ()) ∧ w = w') (s_isI hK hr1 (hn _ (List.mem_cons_of_mem _ (List.getElem_mem hjl))) ?_) ?_
    · rw [if_pos rfl]; exact ⟨(false, ()), rfl, rfl, rfl⟩
    rintro z w' ⟨rfl, rfl⟩
    show sat _ (jsonparser_calcAllocateSpace.t8 q.1 q.2.1 ((j + 1 : Nat) : Int) ((B + clen (rs.take j) : Nat) : Int) false) _ _
    unfold jsonparser_calcAllocateSpace.t8
    refine sat_iteF.2 (s_key hK hr1 (s_leaf ?_))
    rw [if_pos rfl, wup _ (by have := opn_len rs; omega), show (5 : Int) = ((5 : Nat) : Int) from rfl, wad _ _ (by omega), wad _ _ (by omega)]
    refine ⟨rs.length - (j + 1), (((j + 1 + 1 : Nat) : Int), ((B + clen (rs.take (j + 1)) : Nat) : Int), ()), ?_, by omega, j + 1, rfl, by omega, rfl, rfl⟩
    have : B + clen (rs.take (j + 1)) = B + clen (rs.take j) + (rs[j].size + 5) := by omega
    rw [this]; rfl
  · have hjl : j = rs.length := by omega
    subst hjl
    rw [List.take_length]
    cases obj with
    | true =>
      refine sat_iteT.2 (sat_iteT.2 (s_leaf ?_))
      rw [if_neg (by decide), wup _ (by omega)]
      subst hB
      exact ⟨rfl, rfl, rfl⟩
    | false =>
      refine sat_iteF.2 (s_leaf ?_)
      rw [if_neg (by decide)]
      subst hB
      exact ⟨rfl, rfl, rfl⟩
/-- A string goes behind what is filled. -/
theorem s_wtc {Q : Nat → List Value → World → Prop} {z : Sl} {off : Int} {K : Int → T} (hz : z = (some ⟨h, 0, none⟩, N, N)) (hF : FB w h N l) (ho : off = ((l.length : Nat) : Int)) (hN : l.length + t.size ≤ N)
    (hK : ∀ w', FB w' h N (l ++ t.data.toList) → Kp (On h) w w' → sat Tryd.prog (K ((t.size : Nat) : Int)) Q w') :
    sat Tryd.prog (.call 68 #[(Value.slice (if (((z).2).2 = (Int.toNat off)) then (z).1 else (Option.map (fun (y8 : Addr) => (Addr.add y8 ((Int.toNat off) * 1))) (z).1)) ((Int.toNat ((((z).2).1 : Nat) : Int)) - (Int.toNat off)) (((z).2).2 - (Int.toNat off))), (Value.string t)] (.int .i64) K) Q w := by
  subst hz; subst ho
  show sat Tryd.prog (.call 68 #[(Value.slice (if (N = (Int.toNat ((l.length : Nat) : Int))) then (some (⟨h, 0, none⟩ : Addr)) else (Option.map (fun (y8 : Addr) => (Addr.add y8 ((Int.toNat ((l.length : Nat) : Int)) * 1))) (some (⟨h, 0, none⟩ : Addr)))) ((Int.toNat ((N : Nat) : Int)) - (Int.toNat ((l.length : Nat) : Int))) (N - (Int.toNat ((l.length : Nat) : Int)))), (Value.string t)] (.int .i64) K) Q w
  rw [Int.toNat_natCast, Int.toNat_natCast, Je.sl_at]
  refine s_call (wtb_any hF (fun hp => by rw [if_neg (by omega), Nat.zero_add]) (by omega) hN) ?_
  rintro e w1 ⟨rfl, h1, k1⟩
  exact ⟨((t.size : Nat) : Int), rfl, hK w1 h1 k1⟩
theorem s_wtb {Q : Nat → List Value → World → Prop} {z : Sl} {off : Int} {K : Int → T} (hz : z = (some ⟨h, 0, none⟩, N, N)) (hF : FB w h N l) (ho : off = ((l.length : Nat) : Int)) (hN : l.length + t.size ≤ N)
    (hK : ∀ w', FB w' h N (l ++ t.data.toList) → Kp (On h) w w' → sat Tryd.prog (K ((t.size : Nat) : Int)) Q w') :
    sat Tryd.prog (.chk (((0 : Int) ≤ off) ∧ ((off ≤ ((((z).2).1 : Nat) : Int)) ∧ (((((z).2).1 : Nat) : Int) ≤ ((((z).2).2 : Nat) : Int)))) <|
      .call 68 #[(Value.slice (if (((z).2).2 = (Int.toNat off)) then (z).1 else (Option.map (fun (y8 : Addr) => (Addr.add y8 ((Int.toNat off) * 1))) (z).1)) ((Int.toNat ((((z).2).1 : Nat) : Int)) - (Int.toNat off)) (((z).2).2 - (Int.toNat off))), (Value.string t)] (.int .i64) K) Q w := by
  refine s_chk ?_ (s_wtc hz hF ho hN hK)
  subst hz; subst ho
  exact ⟨by omega, by show ((l.length : Nat) : Int) ≤ (N : Int); omega, Int.le_refl _⟩
/-- The text of a new member. -/
def compL (comma obj : Bool) (k : ByteArray) (rs : List ByteArray) (v : List UInt8) : List UInt8 :=
  (if comma then [44] else []) ++ (if obj then [123] else []) ++ [34] ++ k.data.toList ++ [34, 58] ++ opn rs ++ v ++ List.replicate rs.length 125 ++ (if obj then [125] else [])
theorem comp_any {comma obj : Bool} (hK : Kx w q (k :: rs)) (hn : ∀ key ∈ k :: rs, NoI key) (hV : Tx w y t 0 t.size) (hb : k.size + clen rs + t.size ≤ 9000000) :
    Calls Tryd.prog 55 #[slV q, slV y, .bool comma, .bool obj] w fun en w' => ∃ z : Sl, en = .returned (slV z) ∧ Tx w' z (mkB (compL comma obj k rs t.data.toList)) 0 (mkB (compL comma obj k rs t.data.toList)).size ∧ Kp Off w w' := by
  have hl := hK.len
  rw [List.length_cons] at hl
  have hyl := hV.len
  have hk0 : (k :: rs)[0]? = some k := rfl
  have hop := opn_len rs
  have hkl := len_of k
  have htl := len_of t
  refine jsonparser_createInsertComponent.calls _ _ _ _ _ _ _ _ ?_
  unfold jsonparser_createInsertComponent.t
  refine s_cut (fun z w' => z = (false, ()) ∧ w = w') (s_isI0 hK hk0 (hn k (by simp)) ?_) ?_
  · rw [if_pos rfl]; exact ⟨(false, ()), rfl, rfl, rfl⟩
  rintro z w' ⟨rfl, rfl⟩
  show sat _ (jsonparser_createInsertComponent.t1 q.1 q.2.1 q.2.2 y.1 y.2.1 y.2.2 comma obj false) _ _
  unfold jsonparser_createInsertComponent.t1
  refine s_call (calc_any (n := y.2.1) (comma := comma) (obj := obj) hK hn (by omega)) ?_
  rintro en w1 ⟨rfl, rfl⟩
  have hc1 : b1 comma ≤ 1 := by cases comma <;> decide
  have ho1 : b1 obj ≤ 1 := by cases obj <;> decide
  refine ⟨_, rfl, ?_⟩
  generalize hN : b1 comma + b1 obj + (k.size + 3) + y.2.1 + clen rs + b1 obj = N
  refine s_makeF (N := N) rfl rfl (by omega) fun w2 hF2 k2 => ?_
  generalize hh : w1.heap.size = h at hF2
  obtain ⟨z7, hz7⟩ : ∃ z : Sl, z = (some ⟨h, 0, none⟩, N, N) := ⟨_, rfl⟩
  rw [show ((some (⟨h, 0, none⟩ : Addr), N, N) : Sh.slice.Ty) = z7 from hz7.symm]
  have fr : ∀ {a b : World}, Kp Off w1 a → Kp (On h) a b → Kp Off w1 b := fun k1 k2 => kpThen k1 k2 fun i hi ho => by unfold On at ho; omega
  have cL : (if comma then [(44 : UInt8)] else []).length = b1 comma := by cases comma <;> rfl
  have oL : (if obj then [(123 : UInt8)] else []).length = b1 obj := by cases obj <;> rfl
  generalize hA1 : (if comma then [(44 : UInt8)] else []) = A1 at cL
  refine s_cut (fun z w' => z = (((A1.length : Nat) : Int), ()) ∧ FB w' h N A1 ∧ Kp Off w1 w') ?_ ?_
  · cases comma with
    | true =>
      refine sat_iteT.2 ?_
      refine s_wtb (t := ByteArray.mk #[(44 : UInt8)]) (off := (0 : Int)) hz7 hF2 rfl (by show 0 + 1 ≤ N; have : b1 true = 1 := rfl; omega) fun w3 h3 k3 => s_leaf ?_
      rw [if_pos rfl]
      subst hA1
      exact ⟨((1 : Int), ()), rfl, rfl, h3, fr k2 k3⟩
    | false =>
      refine sat_iteF.2 (s_leaf ?_)
      rw [if_pos rfl]
      subst hA1
      exact ⟨((0 : Int), ()), rfl, rfl, hF2, k2⟩
  rintro z w3 ⟨rfl, hF3, k3⟩
  show sat _ (jsonparser_createInsertComponent.t2 q.1 q.2.1 y.1 y.2.1 y.2.2 comma obj false z7 ((A1.length : Nat) : Int)) _ _
  unfold jsonparser_createInsertComponent.t2
  refine s_cut (fun z w' => z = (false, ()) ∧ w3 = w') (sat_iteF.2 (s_leaf (by rw [if_pos rfl]; exact ⟨(false, ()), rfl, rfl, rfl⟩))) ?_
  rintro z w' ⟨rfl, rfl⟩
  show sat _ (jsonparser_createInsertComponent.t3 q.1 q.2.1 y.1 y.2.1 y.2.2 comma obj false z7 ((A1.length : Nat) : Int) false) _ _
  unfold jsonparser_createInsertComponent.t3
  generalize hA2 : A1 ++ (if obj then [(123 : UInt8)] else []) = A2
  have hA2l : A2.length = b1 comma + b1 obj := by rw [← hA2, List.length_append, cL, oL]
  generalize hA3 : A2 ++ [34] ++ k.data.toList ++ [34, 58] = A3
  have hA3l : A3.length = b1 comma + b1 obj + (k.size + 3) := by rw [← hA3]; simp only [List.length_append, List.length_cons, List.length_nil, hA2l, hkl]; omega
  refine s_cut (fun z w' => z = (((A3.length : Nat) : Int), ()) ∧ FB w' h N A3 ∧ Kp Off w1 w') (sat_iteF.2 ?_) ?_
  · refine s_cut (fun z w' => z = (((A2.length : Nat) : Int), ()) ∧ FB w' h N A2 ∧ Kp Off w1 w') ?_ ?_
    · cases obj with
      | true =>
        refine sat_iteT.2 ?_
        have : b1 true = 1 := rfl
        refine s_wtb (t := ByteArray.mk #[(123 : UInt8)]) hz7 hF3 rfl (by show A1.length + 1 ≤ N; omega) fun w4 h4 k4 => s_leaf ?_
        have e1 : ((ByteArray.mk #[(123 : UInt8)]).size : Nat) = 1 := rfl
        rw [if_pos rfl, e1, wad _ _ (by omega)]
        subst hA2
        exact ⟨(((A1.length + 1 : Nat) : Int), ()), rfl, by rw [List.length_append]; rfl, h4, fr k3 k4⟩
      | false =>
        refine sat_iteF.2 (s_leaf ?_)
        rw [if_pos rfl]
        have e : A2 = A1 := by rw [← hA2]; exact List.append_nil _
        rw [e]
        exact ⟨(((A1.length : Nat) : Int), ()), rfl, rfl, hF3, k3⟩
    rintro z w4 ⟨rfl, hF4, k4⟩
    show sat _ (jsonparser_createInsertComponent.t4 q.1 q.2.1 false z7 ((A2.length : Nat) : Int)) _ _
    unfold jsonparser_createInsertComponent.t4
    refine s_cut (fun z w' => z = (((A3.length : Nat) : Int), ()) ∧ FB w' h N A3 ∧ Kp Off w1 w') (sat_iteT.2 ?_) ?_
    · refine s_wtb (t := ByteArray.mk #[(34 : UInt8)]) hz7 hF4 rfl (by show A2.length + 1 ≤ N; omega) fun w5 h5 k5 => s_drew ?_
      have e1 : ((ByteArray.mk #[(34 : UInt8)]).size : Nat) = 1 := rfl
      rw [e1]
      have ew : IntKind.wrap IntKind.i64 (((A2.length : Nat) : Int) + ((1 : Nat) : Int)) = ((A2.length + 1 : Nat) : Int) := wad _ _ (by omega)
      simp only [ew]
      have kd : Kp Off w5 w5.drew := (Kp.refl Off w5).drew
      have h5d := h5.kp kd id
      have k5d := (fr k4 k5).trans kd
      have hK5 := hK.kp k5d
      generalize w5.drew = w6 at h5d k5d hK5
      have l5 : (A2 ++ (ByteArray.mk #[(34 : UInt8)]).data.toList).length = A2.length + 1 := by rw [List.length_append]; rfl
      refine s_chk ⟨by omega, by rw [hz7]; show ((A2.length + 1 : Nat) : Int) ≤ (N : Int); omega, by rw [hz7]; exact Int.le_refl _⟩ ?_
      refine s_key0 hK5 hk0 ?_
      refine s_wtc (t := k) hz7 h5d (by rw [l5]) (by rw [l5]; omega) fun w7 h7 k7 => ?_
      have l7 : (A2 ++ (ByteArray.mk #[(34 : UInt8)]).data.toList ++ k.data.toList).length = A2.length + 1 + k.size := by rw [List.length_append, l5, hkl]
      have ew2 : IntKind.wrap IntKind.i64 (((A2.length + 1 : Nat) : Int) + ((k.size : Nat) : Int)) = ((A2.length + 1 + k.size : Nat) : Int) := wad _ _ (by omega)
      rw [ew2]
      refine s_wtb (t := ByteArray.mk #[(34 : UInt8), (58 : UInt8)]) hz7 h7 (by rw [l7]) (by rw [l7]; show A2.length + 1 + k.size + 2 ≤ N; omega) fun w8 h8 k8 => s_leaf ?_
      have e2 : ((ByteArray.mk #[(34 : UInt8), (58 : UInt8)]).size : Nat) = 2 := rfl
      have e9 : A2.length + 1 + k.size + 2 = A3.length := by omega
      rw [if_pos rfl, e2, wad _ _ (by omega), e9]
      have h8' : FB w8 h N A3 := by rw [← hA3]; exact h8
      exact ⟨(((A3.length : Nat) : Int), ()), rfl, rfl, h8', fr (fr k5d k7) k8⟩
    rintro z w5 ⟨rfl, hF5, k5⟩
    show sat _ (jsonparser_createInsertComponent.t5 ((A3.length : Nat) : Int)) _ _
    unfold jsonparser_createInsertComponent.t5
    refine s_leaf ?_
    rw [if_pos rfl]
    exact ⟨(((A3.length : Nat) : Int), ()), rfl, rfl, hF5, k5⟩
  rintro z w4 ⟨rfl, hF4, k4⟩
  show sat _ (jsonparser_createInsertComponent.t6 q.1 q.2.1 y.1 y.2.1 y.2.2 comma obj false z7 ((A3.length : Nat) : Int)) _ _
  unfold jsonparser_createInsertComponent.t6
  have hNl : A3.length + (opn rs).length + t.size + rs.length + b1 obj = N := by omega
  refine s_loop (fun m z w' => ∃ j : Nat, m = rs.length - j ∧ j ≤ rs.length ∧ z = (((j + 1 : Nat) : Int), (((A3 ++ opn (rs.take j)).length : Nat) : Int), ()) ∧ FB w' h N (A3 ++ opn (rs.take j)) ∧ Kp Off w1 w') rs.length ((1 : Int), ((A3.length : Nat) : Int), ()) rfl ⟨0, rfl, Nat.zero_le _, by rw [List.take_zero]; show _ = (((0 + 1 : Nat) : Int), (((A3 ++ []).length : Nat) : Int), ()); rw [List.append_nil]; rfl, by rw [List.take_zero]; show FB w4 h N (A3 ++ []); rw [List.append_nil]; exact hF4, k4⟩ ?_
  rintro m z w5 ⟨j, rfl, hj, rfl, hF5, k5⟩
  show sat _ (jsonparser_createInsertComponent.t7 q.1 q.2.1 y.1 y.2.1 y.2.2 comma obj false z7 ((j + 1 : Nat) : Int) (((A3 ++ opn (rs.take j)).length : Nat) : Int)) _ _
  unfold jsonparser_createInsertComponent.t7
  have hK5 := hK.kp k5
  refine s_iteD (fun g => ?_) (fun g => ?_)
  · have hjl : j < rs.length := by omega
    have hr : rs[j]? = some rs[j] := List.getElem?_eq_getElem hjl
    have hr1 : (k :: rs)[j + 1]? = some rs[j] := hr
    obtain ⟨ot1, ot2⟩ := opn_take rs j _ hr
    generalize hr' : rs[j] = r at hr hr1 ot1 ot2
    generalize hP : A3 ++ opn (rs.take j) = P at hF5 ⊢
    have hPl : P.length = A3.length + (opn (rs.take j)).length := by rw [← hP, List.length_append]
    refine s_cut (fun z w' => z = (false, ()) ∧ w5 = w') (s_isI hK5 hr1 (hn _ (List.mem_cons_of_mem _ (by rw [← hr']; exact List.getElem_mem hjl))) ?_) ?_
    · rw [if_pos rfl]; exact ⟨(false, ()), rfl, rfl, rfl⟩
    rintro z w' ⟨rfl, rfl⟩
    show sat _ (jsonparser_createInsertComponent.t8 q.1 q.2.1 z7 ((j + 1 : Nat) : Int) ((P.length : Nat) : Int) false) _ _
    unfold jsonparser_createInsertComponent.t8
    refine sat_iteF.2 ?_
    refine s_wtb (t := ByteArray.mk #[(123 : UInt8), (34 : UInt8)]) hz7 hF5 rfl (by show P.length + 2 ≤ N; omega) fun w6 h6 k6 => s_drew ?_
    have e1 : ((ByteArray.mk #[(123 : UInt8), (34 : UInt8)]).size : Nat) = 2 := rfl
    rw [e1]
    have ew : IntKind.wrap IntKind.i64 (((P.length : Nat) : Int) + ((2 : Nat) : Int)) = ((P.length + 2 : Nat) : Int) := wad _ _ (by omega)
    simp only [ew]
    have kd : Kp Off w6 w6.drew := (Kp.refl Off w6).drew
    have h6d := h6.kp kd id
    have k6d := (fr k5 k6).trans kd
    have hK6 := hK.kp k6d
    generalize w6.drew = w7 at h6d k6d hK6
    have l6 : (P ++ (ByteArray.mk #[(123 : UInt8), (34 : UInt8)]).data.toList).length = P.length + 2 := by rw [List.length_append]; rfl
    have hrl := len_of r
    refine s_chk ⟨by omega, by rw [hz7]; show ((P.length + 2 : Nat) : Int) ≤ (N : Int); omega, by rw [hz7]; exact Int.le_refl _⟩ ?_
    refine s_key hK6 hr1 ?_
    refine s_wtc (t := r) hz7 h6d (by rw [l6]) (by rw [l6]; omega) fun w8 h8 k8 => ?_
    have l8 : (P ++ (ByteArray.mk #[(123 : UInt8), (34 : UInt8)]).data.toList ++ r.data.toList).length = P.length + 2 + r.size := by rw [List.length_append, l6, hrl]
    have ew2 : IntKind.wrap IntKind.i64 (((P.length + 2 : Nat) : Int) + ((r.size : Nat) : Int)) = ((P.length + 2 + r.size : Nat) : Int) := wad _ _ (by omega)
    rw [ew2]
    refine s_wtb (t := ByteArray.mk #[(34 : UInt8), (58 : UInt8)]) hz7 h8 (by rw [l8]) (by rw [l8]; show P.length + 2 + r.size + 2 ≤ N; omega) fun w9 h9 k9 => s_leaf ?_
    have e2 : ((ByteArray.mk #[(34 : UInt8), (58 : UInt8)]).size : Nat) = 2 := rfl
    have eP : A3 ++ opn (rs.take (j + 1)) = P ++ (ByteArray.mk #[(123 : UInt8), (34 : UInt8)]).data.toList ++ r.data.toList ++ (ByteArray.mk #[(34 : UInt8), (58 : UInt8)]).data.toList := by
      rw [ot1, ← hP]
      simp only [List.append_assoc]
    have eL : (A3 ++ opn (rs.take (j + 1))).length = P.length + 2 + r.size + 2 := by rw [eP, List.length_append, l8]; rfl
    rw [if_pos rfl, e2, wad _ _ (by omega), wup _ (by omega)]
    refine ⟨rs.length - (j + 1), (((j + 1 + 1 : Nat) : Int), (((A3 ++ opn (rs.take (j + 1))).length : Nat) : Int), ()), by rw [eL]; rfl, by omega, j + 1, rfl, by omega, rfl, ?_, fr (fr k6d k8) k9⟩
    rw [eP]; exact h9
  have hjl : j = rs.length := by omega
  subst hjl
  rw [List.take_length] at hF5 ⊢
  generalize hP : A3 ++ opn rs = P at hF5 ⊢
  have hPl : P.length = A3.length + (opn rs).length := by rw [← hP, List.length_append]
  refine s_chk ⟨by omega, by rw [hz7]; show ((P.length : Nat) : Int) ≤ (N : Int); omega, by rw [hz7]; exact Int.le_refl _⟩ ?_
  have hcp : ∀ {Q' : Nat → List Value → World → Prop} {K' : Int → T}, (∀ w', FB w' h N (P ++ t.data.toList) → Kp (On h) w5 w' → sat Tryd.prog (K' ((t.size : Nat) : Int)) Q' w') →
      sat Tryd.prog (.eff (Builtin.copy_ (Call.argTypes (Call.mk (Callee.builtin Builtin.copy) #[(Operand.tmp 136), (Operand.tmp 137)] #[tBs, tBs])) 3 #[(Value.slice (if (((z7).2).2 = (Int.toNat ((P.length : Nat) : Int))) then (z7).1 else (Option.map (fun (y45 : Addr) => (Addr.add y45 ((Int.toNat ((P.length : Nat) : Int)) * 1))) (z7).1)) ((Int.toNat ((((z7).2).1 : Nat) : Int)) - (Int.toNat ((P.length : Nat) : Int))) (((z7).2).2 - (Int.toNat ((P.length : Nat) : Int)))), (Value.slice y.1 y.2.1 y.2.2)]) (.int .i64) K') Q' w5 := by
    intro Q' K' hK'
    rw [hz7]
    show sat Tryd.prog (.eff (Builtin.copy_ _ 3 #[(Value.slice (if (N = (Int.toNat ((P.length : Nat) : Int))) then (some (⟨h, 0, none⟩ : Addr)) else (Option.map (fun (y45 : Addr) => (Addr.add y45 ((Int.toNat ((P.length : Nat) : Int)) * 1))) (some (⟨h, 0, none⟩ : Addr)))) ((Int.toNat ((N : Nat) : Int)) - (Int.toNat ((P.length : Nat) : Int))) (N - (Int.toNat ((P.length : Nat) : Int)))), (Value.slice y.1 y.2.1 y.2.2)]) (.int .i64) K') Q' w5
    rw [Int.toNat_natCast, Int.toNat_natCast, Je.sl_at]
    refine s_copyF hF5 (hV.kp k5) rfl (fun hp => by rw [if_neg (by omega), Nat.zero_add]) (by omega) (by omega) fun w' h' k' => ?_
    rw [Nat.sub_zero, List.drop_zero, List.take_of_length_le (by omega)] at h'
    exact hK' w' h' k'
  refine hcp fun w6 hF6 k6 => ?_
  have ew : IntKind.wrap IntKind.i64 (((P.length : Nat) : Int) + ((t.size : Nat) : Int)) = ((P.length + t.size : Nat) : Int) := wad _ _ (by omega)
  generalize hR : P ++ t.data.toList = R at hF6
  have hRl : R.length = P.length + t.size := by rw [← hR, List.length_append, htl]
  have ewl : IntKind.wrap IntKind.i64 (((q.2.1 : Nat) : Int) - (1 : Int)) = ((rs.length : Nat) : Int) := by rw [hl, wdn _ (by omega) (by omega), Nat.add_sub_cancel]
  rw [ew, ← hRl, ewl]
  refine s_loop (fun m z w' => z = ((m : Int), (((R ++ List.replicate (rs.length - m) (125 : UInt8)).length : Nat) : Int), ()) ∧ m ≤ rs.length ∧ FB w' h N (R ++ List.replicate (rs.length - m) (125 : UInt8)) ∧ Kp Off w1 w') rs.length (((rs.length : Nat) : Int), ((R.length : Nat) : Int), ()) rfl
    ⟨by rw [Nat.sub_self]; show _ = (((rs.length : Nat) : Int), (((R ++ []).length : Nat) : Int), ()); rw [List.append_nil]; rfl, Nat.le_refl _, by rw [Nat.sub_self]; show FB w6 h N (R ++ []); rw [List.append_nil]; exact hF6, fr k5 k6⟩ ?_
  rintro m z w7 ⟨rfl, hm, hF7, k7⟩
  generalize hS : R ++ List.replicate (rs.length - m) (125 : UInt8) = S at hF7
  have hSl : S.length = R.length + (rs.length - m) := by rw [← hS, List.length_append, List.length_replicate]
  show sat _ (jsonparser_createInsertComponent.t9 q.1 q.2.1 comma obj false z7 (m : Int) ((S.length : Nat) : Int)) _ _
  unfold jsonparser_createInsertComponent.t9
  have hK7 := hK.kp k7
  refine s_iteD (fun g => ?_) (fun g => ?_)
  · obtain ⟨m', rfl⟩ : ∃ m', m = m' + 1 := ⟨m - 1, by omega⟩
    have hjl : m' < rs.length := by omega
    have hr : rs[m']? = some rs[m'] := List.getElem?_eq_getElem hjl
    have hr1 : (k :: rs)[m' + 1]? = some rs[m'] := hr
    refine s_cut (fun z w' => z = (false, ()) ∧ w7 = w') (s_isI hK7 hr1 (hn _ (List.mem_cons_of_mem _ (List.getElem_mem hjl))) ?_) ?_
    · rw [if_pos rfl]; exact ⟨(false, ()), rfl, rfl, rfl⟩
    rintro z w' ⟨rfl, rfl⟩
    show sat _ (jsonparser_createInsertComponent.t10 z7 ((m' + 1 : Nat) : Int) ((S.length : Nat) : Int) false) _ _
    unfold jsonparser_createInsertComponent.t10
    refine sat_iteF.2 ?_
    refine s_wtb (t := ByteArray.mk #[(125 : UInt8)]) hz7 hF7 rfl (by show S.length + 1 ≤ N; omega) fun w8 h8 k8 => s_leaf ?_
    have e1 : ((ByteArray.mk #[(125 : UInt8)]).size : Nat) = 1 := rfl
    have eS : R ++ List.replicate (rs.length - m') (125 : UInt8) = S ++ (ByteArray.mk #[(125 : UInt8)]).data.toList := by
      rw [← hS, List.append_assoc]
      have : rs.length - m' = (rs.length - (m' + 1)) + 1 := by omega
      rw [this, List.replicate_succ']
    have eL : (R ++ List.replicate (rs.length - m') (125 : UInt8)).length = S.length + 1 := by rw [eS, List.length_append]; rfl
    rw [if_pos rfl, e1, wad _ _ (by omega), wdn _ (by omega) (by omega), Nat.add_sub_cancel]
    refine ⟨m', ((m' : Int), (((R ++ List.replicate (rs.length - m') (125 : UInt8)).length : Nat) : Int), ()), by rw [eL]; rfl, by omega, rfl, by omega, ?_, fr k7 k8⟩
    rw [eS]; exact h8
  · have hm0 : m = 0 := by omega
    subst hm0
    refine s_cut (fun z w' => z = (false, ()) ∧ w7 = w') (sat_iteF.2 (s_leaf (by rw [if_pos rfl]; exact ⟨(false, ()), rfl, rfl, rfl⟩))) ?_
    rintro z w' ⟨rfl, rfl⟩
    show sat _ (jsonparser_createInsertComponent.t11 obj false z7 ((S.length : Nat) : Int) false) _ _
    unfold jsonparser_createInsertComponent.t11
    refine s_cut (fun z w' => z = (((S.length : Nat) : Int), ()) ∧ w7 = w') (sat_iteF.2 (s_leaf (by rw [if_pos rfl]; exact ⟨(((S.length : Nat) : Int), ()), rfl, rfl, rfl⟩))) ?_
    rintro z w' ⟨rfl, rfl⟩
    show sat _ (jsonparser_createInsertComponent.t12 obj false z7 ((S.length : Nat) : Int)) _ _
    unfold jsonparser_createInsertComponent.t12
    have hcomp : compL comma obj k rs t.data.toList = S ++ (if obj then [(125 : UInt8)] else []) := by
      unfold compL
      rw [hA1, hA2, hA3, hP, hR, ← hS, Nat.sub_zero]
    have hfin : ∀ w', FB w' h N (compL comma obj k rs t.data.toList) → (compL comma obj k rs t.data.toList).length = N → Tx w' z7 (mkB (compL comma obj k rs t.data.toList)) 0 (mkB (compL comma obj k rs t.data.toList)).size := fun w' hF hN => by
      rw [hz7]; exact hF.tx hN (Nat.le_refl _)
    cases obj with
    | true =>
      have : b1 true = 1 := rfl
      refine sat_iteT.2 (sat_iteT.2 ?_)
      refine s_wtb (t := ByteArray.mk #[(125 : UInt8)]) hz7 hF7 rfl (by show S.length + 1 ≤ N; omega) fun w8 h8 k8 => s_leaf ?_
      rw [if_neg (by decide), if_neg (by decide)]
      have e : compL comma true k rs t.data.toList = S ++ (ByteArray.mk #[(125 : UInt8)]).data.toList := hcomp
      refine ⟨rfl, z7, rfl, hfin w8 (by rw [e]; exact h8) (by rw [e, List.length_append]; show S.length + 1 = N; omega), fr k7 k8⟩
    | false =>
      have : b1 false = 0 := rfl
      refine sat_iteF.2 (s_leaf ?_)
      rw [if_neg (by decide), if_neg (by decide)]
      have e : compL comma false k rs t.data.toList = S := by rw [hcomp]; exact List.append_nil _
      exact ⟨rfl, z7, rfl, hfin w7 (by rw [e]; exact hF7) (by rw [e]; omega), k7⟩
end Go.Proofs.YtlfebfkphgelfaaDoor.Ka
