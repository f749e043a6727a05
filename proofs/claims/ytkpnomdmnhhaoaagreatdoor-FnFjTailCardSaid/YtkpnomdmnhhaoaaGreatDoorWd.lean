/- impl.fjNode over a value that was read: it gives the value's tree. No statement of the set is proved here. -/
import Derived.Test.YtkpnomdmnhhaoaaGreatDoorWc
namespace Go.Proofs.YtkpnomdmnhhaoaaGreatDoor.Zv
open Go Go.Proofs Go.RowKit Go.Proofs.YtkpnomdmnhhaoaaGreatDoor.Rx Go.Proofs.YtkpnomdmnhhaoaaGreatDoor.Tr Go.Proofs.YtkpnomdmnhhaoaaGreatDoor.Pl Go.Proofs.YtkpnomdmnhhaoaaGreatDoor.Pw Go.Proofs.YtkpnomdmnhhaoaaGreatDoor.Nt Go.Proofs.YtkpnomdmnhhaoaaGreatDoor.Bw
open Go.Proofs.YtkpnomdmnhhaoaaGreatDoor.Sr (Sl slV tBs tB RowIn)
open Go.Proofs.YtkpnomdmnhhaoaaGreatDoor.Ka (nmS)
open Go.Proofs.YtkpnomdmnhhaoaaGreatDoor.Zu (PdV PdL)
open Go.Proofs.YtkpnomdmnhhaoaaGreatDoor.Ze (MB bytes_back s2b_any tl_all)

variable {w0 w w' w'' : World} {s : ByteArray} {F G : Nat × Nat → Prop} {p c : PT} {v : Nat × Nat}
theorem get0_any : Calls Tryz.prog 53 #[ptrV v, .slice none 0 0] w fun e w' => e = .returned (ptrV v) ∧ w' = w := by
  refine fastjson_Value_Get.calls _ _ _ _ ?_
  unfold fastjson_Value_Get.t
  refine sat_iteF.2 ?_
  refine s_loop (fun n z w' => z = ((0 : Int), some ⟨v.1, v.2, none⟩, ()) ∧ w' = w) 0 ((0 : Int), some ⟨v.1, v.2, none⟩, ()) rfl ⟨rfl, rfl⟩ ?_
  rintro n z w1 ⟨rfl, rfl⟩
  show sat _ (fastjson_Value_Get.t1 none 0 (0 : Int) (some ⟨v.1, v.2, none⟩)) _ _
  unfold fastjson_Value_Get.t1
  refine s_iteD (fun h => absurd h (by decide)) (fun _ => s_leaf ?_)
  rw [if_neg (by decide)]
  exact ⟨rfl, rfl, rfl⟩
theorem type_plain {kvs a : Sl} {uk : Bool} {x : ByteArray} {t : Int} (hC : Cs w v.1 v.2 (vc kvs uk a x t)) (h : t ≠ 7) : Calls Tryz.prog 28 #[ptrV v] w fun e w' => e = .returned (.int .i64 t) ∧ w' = w := by
  refine fastjson_Value_Type.calls _ ?_
  unfold fastjson_Value_Type.t
  refine s_ptr (s_load t (by rw [addr_add]; exact (hC 4 _ rfl).1) (s_iteE (fun c => absurd c h) (fun _ => ?_)))
  exact s_ptr (s_load t (by rw [addr_add]; exact (hC 4 _ rfl).1) (s_leaf ⟨rfl, rfl, rfl⟩))
theorem getStr_any {kvs a : Sl} {uk : Bool} {x : ByteArray} (hC : Cs w v.1 v.2 (vc kvs uk a x 3)) : Calls Tryz.prog 33 #[ptrV v, .slice none 0 0] w fun e w' => ∃ base room z, e = .returned (slV z) ∧ MB w' base room z x.data.toList ∧ Kp Off w w' := by
  refine fastjson_Value_GetStringBytes.calls _ _ _ _ ?_
  unfold fastjson_Value_GetStringBytes.t
  refine s_call get0_any ?_
  rintro e w1 ⟨rfl, rfl⟩
  refine ⟨some ⟨v.1, v.2, none⟩, rfl, sat_iteF.2 ?_⟩
  refine s_call (type_plain hC (by decide)) ?_
  rintro e w2 ⟨rfl, rfl⟩
  refine ⟨(3 : Int), rfl, s_iteN (fun c => absurd rfl c) (fun _ => s_ptr (s_load x (by rw [addr_add]; exact (hC 3 _ rfl).1) ?_))⟩
  refine s_call (s2b_any (n := x.size) (Nat.le_refl _)) ?_
  rintro e w3 ⟨cap, rfl, _, hM, k⟩
  rw [tl_all] at hM
  exact ⟨(some ⟨w2.heap.size, 0, none⟩, x.size, cap), rfl, s_leaf ⟨rfl, _, _, _, rfl, hM, k⟩⟩
theorem marshalNum_any {kvs a : Sl} {uk : Bool} {x : ByteArray} (hx : x.size ≤ 4000000000) (hC : Cs w v.1 v.2 (vc kvs uk a x 4)) : Calls Tryz.prog 34 #[ptrV v, .slice none 0 0] w fun e w' => ∃ z, e = .returned (slV z) ∧ BR w' w.heap.size z x.data.toList ∧ Kp Off w w' := by
  refine fastjson_Value_MarshalTo.calls _ _ _ _ ?_
  unfold fastjson_Value_MarshalTo.t
  refine s_ptr (s_load (4 : Int) (by rw [addr_add]; exact (hC 4 _ rfl).1) ?_)
  refine s_iteE (fun c => absurd c (by decide)) (fun _ => s_iteE (fun c => absurd c (by decide)) (fun _ => s_iteE (fun c => absurd c (by decide)) (fun _ => s_iteE (fun c => absurd c (by decide)) (fun _ => s_iteE (fun _ => ?_) (fun c => absurd rfl c)))))
  refine s_ptr (s_load x (by rw [addr_add]; exact (hC 3 _ rfl).1) ?_)
  refine s_putS (x := (none, 0, 0)) (l := []) (base := w.heap.size) (BR.nil w _) (Nat.le_refl _) (by show 0 + _ ≤ _; omega) rfl fun z w2 hR k2 _ => ?_
  rw [List.nil_append] at hR
  exact s_leaf ⟨rfl, z, rfl, hR, k2.mono fun q _ hq => (by cases hq)⟩
theorem getObj_any {kvs a : Sl} {uk : Bool} {x : ByteArray} (hC : Cs w v.1 v.2 (vc kvs uk a x 1)) : Calls Tryz.prog 30 #[ptrV v, .slice none 0 0] w fun e w' => e = .returned (ptrV v) ∧ w' = w := by
  refine fastjson_Value_GetObject.calls _ _ _ _ ?_
  unfold fastjson_Value_GetObject.t
  refine s_call get0_any ?_
  rintro e w1 ⟨rfl, rfl⟩
  refine ⟨some ⟨v.1, v.2, none⟩, rfl, sat_iteF.2 (s_ptr (s_load (1 : Int) (by rw [addr_add]; exact (hC 4 _ rfl).1) (s_iteN (fun c => absurd rfl c) (fun _ => s_ptr (s_leaf ⟨rfl, ?_, rfl⟩)))))⟩
  show Ending.returned (.pointer (some (Addr.add ⟨v.1, v.2, none⟩ 0))) = _
  rw [addr_add]; rfl
theorem getArr_any {kvs a : Sl} {uk : Bool} {x : ByteArray} (hC : Cs w v.1 v.2 (vc kvs uk a x 2)) : Calls Tryz.prog 32 #[ptrV v, .slice none 0 0] w fun e w' => e = .returned (slV a) ∧ w' = w := by
  refine fastjson_Value_GetArray.calls _ _ _ _ ?_
  unfold fastjson_Value_GetArray.t
  refine s_call get0_any ?_
  rintro e w1 ⟨rfl, rfl⟩
  refine ⟨some ⟨v.1, v.2, none⟩, rfl, sat_iteF.2 (s_ptr (s_load (2 : Int) (by rw [addr_add]; exact (hC 4 _ rfl).1) (s_iteN (fun c => absurd rfl c) (fun _ => s_ptr (s_load a (by rw [addr_add]; exact (hC 2 _ rfl).1) (s_leaf ⟨rfl, rfl, rfl⟩))))))⟩
theorem nodes_any {a : Sl} {ad : List (Nat × Nat)} (hR : RR w a p.ks.length (ad.map ptrV)) (hA : AllV s w p.ks ad G) (hG : ∀ y, G y → y.1 < w.heap.size ∧ ¬ rowB a y) (hn : p.ks.length ≤ 1000000) (hkid : KidOk s p) :
    Calls Tryz.prog 31 #[slV a] w fun e w' => ∃ (u : Sl) (xs : List Value), e = .returned (slV u) ∧ RowIn (fun q => w.heap.size ≤ q) w' u p.ks.length xs 4 ∧ AllN (fun q => w.heap.size ≤ q) w' (treeL s p.ks) xs ∧ Fr G w w' := by
  have hl := hA.len
  refine impl_fjNodes.calls _ _ _ ?_
  unfold impl_fjNodes.t
  obtain ⟨r1, _, r3⟩ := hR
  refine s_loop (fun m z w' => ∃ (i : Nat) (u : Sl) (xs : List Value) (G' : Nat × Nat → Prop), m = p.ks.length - i ∧ z = ((i : Int), u, ()) ∧ i ≤ p.ks.length ∧ w'.ownsRow w.heap.size tN 4 (slV u) i xs ∧ AllN (fun q => w.heap.size ≤ q ∧ some q ≠ (slV u).ownBlock) w' (treeL s (p.ks.take i)) xs ∧
    AllV s w' (p.ks.drop i) (ad.drop i) G' ∧ (∀ y, G' y → G y) ∧ Fr G w w') p.ks.length ((0 : Int), (none, 0, 0), ()) rfl
    ⟨0, (none, 0, 0), [], G, rfl, rfl, Nat.zero_le _, World.ownsRow_nil _ _ _ _, by rw [List.take_zero, show treeL s [] = [] by simp only [treeL]]; exact AllN.nil, by rw [List.drop_zero, List.drop_zero]; exact hA, fun y h => h, Fr.refl _ _⟩ ?_
  rintro m z w1 ⟨i, u, xs, G', rfl, rfl, hi, hO, hN, hA1, hG', hf⟩
  show sat _ (impl_fjNodes.t1 a.1 a.2.1 (i : Int) u) _ _
  unfold impl_fjNodes.t1
  refine s_iteD (fun hlt => ?_) (fun hge => s_leaf ?_)
  · have hin : i < p.ks.length := by omega
    have hki : p.ks[i]? = some p.ks[i] := List.getElem?_eq_getElem hin
    generalize hcc : p.ks[i] = c at hki
    have hdk : p.ks.drop i = c :: p.ks.drop (i + 1) := by rw [← hcc]; exact List.drop_eq_getElem_cons hin
    rw [hdk] at hA1
    unfold AllV at hA1
    obtain ⟨a1, r, F1, F2, hda, hV, hA2, hF1, hF2⟩ := hA1
    have hai : ad[i]? = some a1 := by
      have := congrArg (fun l => l[0]?) hda
      simp only [List.getElem?_drop, Nat.add_zero, List.getElem?_cons_zero] at this
      exact this
    have hdr : ad.drop (i + 1) = r := by
      have := congrArg List.tail hda
      rw [List.tail_drop] at this
      exact this
    rcases r3 with h0 | ⟨bk, h1, h2⟩
    · have : (ad.map ptrV).length = 0 := by rw [h0]; rfl
      rw [List.length_map] at this; omega
    have hcell := (h2 i (ptrV a1) (by rw [List.getElem?_map, hai]; rfl)).1
    have hbl := Ms.cell_lt hcell
    have hz1 := hf.size
    have hcell1 : w1.cell? ⟨bk, 0 + i, none⟩ = some (ptrV a1) := by
      rw [hf.kp.cell (a := ⟨bk, 0 + i, none⟩) hbl (fun ⟨o, ho⟩ => (hG _ ho).2 ⟨_, h1, rfl⟩)]; exact hcell
    refine s_chk ⟨by omega, by omega⟩ ⟨_, h1, ?_⟩
    refine s_load (s := .ptr) (some ⟨a1.1, a1.2, none⟩) (by rw [addr_add, Int.toNat_natCast, Nat.mul_one]; exact hcell1) ?_
    have F1lt : ∀ y, F1 y → y.1 < w.heap.size := fun y hy => (hG y (hG' y (hF1 y hy).1)).1
    have F2lt : ∀ y, F2 y → y.1 < w.heap.size := fun y hy => (hG y (hG' y (hF2 y hy))).1
    refine s_call (hkid i c hki w1 a1 F1 hV fun y hy => by have := F1lt y hy; omega) ?_
    rintro e w2 ⟨a', b', rfl, hN2, f2⟩
    refine ⟨(((treeN s c).k : Int), (treeN s c).t, a', b', ()), rfl, ?_⟩
    have own_ge : ∀ q, some q = (slV u).ownBlock → w.heap.size ≤ q ∧ q < w1.heap.size := fun q hq => hO.lt q hq.symm
    have hO2 := owns_kp hO f2.kp fun q hq ⟨o, ho⟩ => by have g : q < w.heap.size := F1lt _ ho; have := (own_ge q hq).1; omega
    have hNo := hN.kp (B' := fun q => w.heap.size ≤ q ∧ some q ≠ (slV u).ownBlock) f2.kp fun q _ h => ⟨h, fun ⟨o, ho⟩ => by have g : q < w.heap.size := F1lt _ ho; omega⟩
    have hNn : NdAt (fun q => w.heap.size ≤ q ∧ some q ≠ (slV u).ownBlock) w2 (treeN s c) (nc (treeN s c).k (treeN s c).t a' b') := hN2.kp (Kp.refl Off w2) fun q _ h => ⟨⟨by omega, fun e => by have := (own_ge q e).2; omega⟩, id⟩
    have hA3 := AllV.sm (p.ks.drop (i + 1)) r F2 (f2.sm F2 fun y hy => ⟨by have := F2lt y hy; omega, fun g => (hF1 y g).2 hy⟩) hA2
    have hf2 := hf.trans (f2.mono fun y hy => hG' y (hF1 y hy).1)
    have hz2 := f2.size
    refine s_push2 (z0 := .agg zn.toArray) (size := 4) Tryz.underlying24 (info_some (by kernel_rfl)) (by kernel_rfl) (by kernel_rfl) (of_decide_eq_true (by kernel_rfl)) rfl (by decide) (by decide) hO2 (.agg (nc (treeN s c).k (treeN s c).t a' b').toArray) (nc (treeN s c).k (treeN s c).t a' b') rfl rfl
      (nc_oneC _ _ _ _) (by omega) (by omega) fun u' w3 hO3 k3 hnew => s_leaf ?_
    rw [if_pos rfl]
    have w1' : IntKind.wrap IntKind.i64 ((i : Int) + 1) = ((i + 1 : Nat) : Int) := by rw [wrap_in (by omega) (by omega)]; omega
    rw [w1']
    have mv : ∀ q, q < w2.heap.size → (w.heap.size ≤ q ∧ some q ≠ (slV u).ownBlock) → (w.heap.size ≤ q ∧ some q ≠ (slV u').ownBlock) ∧ ¬ (some q = (slV u).ownBlock) := fun q hq h =>
      ⟨⟨h.1, fun e => by
        rcases hnew q e with h' | h'
        · exact h.2 h'
        · omega⟩, h.2⟩
    refine ⟨p.ks.length - (i + 1), (((i + 1 : Nat) : Int), u', ()), rfl, by omega, i + 1, u', _, F2, rfl, rfl, hin, hO3, ?_, ?_, fun y hy => hG' y (hF2 y hy), hf2.then k3 fun q hq => (own_ge q hq).1⟩
    · rw [treeL_take s hki]
      exact (AllN.snoc hNn _ _ hNo).kp k3 mv
    · rw [hdr]
      exact AllV.sm (p.ks.drop (i + 1)) r F2 (Sm.kp k3 fun y hy => ⟨by have := F2lt y hy; omega, fun hq => by have := (own_ge _ hq).1; have := F2lt y hy; omega⟩) hA3
  · rw [if_neg (by decide)]
    have hil : i = p.ks.length := by omega
    subst hil
    rw [List.take_length] at hN
    exact ⟨rfl, u, xs, rfl, RowIn.own hO fun q _ hq => hq, hN.kp (Kp.refl Off w1) fun q _ h => ⟨h.1, id⟩, hf⟩
theorem nd_leaf {B : Nat → Prop} {k : Nat} {t : ByteArray} : NdAt B w (.mk k t [] []) (nc k t (none, 0, 0) (none, 0, 0)) := NdAt.mk' (xs := []) Sr.RowIn.nil Sr.RowIn.nil AllN.nil
theorem s_ndEnd {nt : NT} {a b : Sl} (hnt : nt = treeN s p) (h0 : Blk w' w.heap.size zn tN) (hN : NdAt (fun q => w.heap.size + 1 ≤ q) w' nt (nc nt.k nt.t a b)) (fr : Fr F w w') :
    sat Tryz.prog (.effU (Instr.storeAt tN (Value.pointer (some ⟨w.heap.size, 0, none⟩)) (.agg (nc nt.k nt.t a b).toArray)) <|
      .effS (Instr.loadAt tN (Value.pointer (some ⟨w.heap.size, 0, none⟩))) (.agg (.cons (.int .i64) (.cons .str (.cons .slice (.cons .slice .nil))))) fun (z4 : (Int × (ByteArray × (((Option Addr) × (Nat × Nat)) × (((Option Addr) × (Nat × Nat)) × PUnit))))) =>
      .leaf 0 [(Value.agg #[(Value.int IntKind.i64 (z4).1), (Value.string ((z4).2).1), (Value.slice ((((z4).2).2).1).1 (((((z4).2).2).1).2).1 (((((z4).2).2).1).2).2), (Value.slice (((((z4).2).2).2).1).1 ((((((z4).2).2).2).1).2).1 ((((((z4).2).2).2).1).2).2)])])
      (fun l vs w'' => l = 0 ∧ NodePost s p F w (.returned (retVal vs)) w'') w' := by
  subst hnt
  obtain ⟨w2, h2, c2, k2⟩ := storeN h0 rfl (treeN s p).k (treeN s p).t a b
  exact s_effU h2 (s_effS (((treeN s p).k : Int), (treeN s p).t, a, b, ()) (loadN c2) (s_leaf ⟨rfl, a, b, rfl, hN.kp k2 fun q _ h => ⟨by omega, fun c => by have c : q = w.heap.size := c; omega⟩, fr.then k2 fun q c => by have c : q = w.heap.size := c; omega⟩))
theorem node_step (hs : s.size ≤ 100000) (hw : WfV s p) (hpd : PdV s p) (hV : VAt s w p v F) (hF : ∀ y, F y → y.1 < w.heap.size) (hkid : KidOk s p) :
    Calls Tryz.prog 17 #[ptrV v] w (NodePost s p F w) := by
  have hwl := Lj.wf_len hw
  have hlt := hw.lt
  have hk6 := wf_k hw
  have hvF := hF _ hV.own_
  refine impl_fjNode.calls _ ?_
  unfold impl_fjNode.t
  refine s_alloc ?_
  have b0 := Blk.new w zn tN
  have k0 : Kp Off w (w.alloc (.cells zn.toArray tN (0, 0))) := (Kp.refl Off w).alloc _
  show sat _ _ _ (w.alloc (.cells zn.toArray tN (0, 0)))
  have z0 : (w.alloc (.cells zn.toArray tN (0, 0))).heap.size = w.heap.size + 1 := by simp
  generalize w.alloc (.cells zn.toArray tN (0, 0)) = w1 at k0 b0 z0
  have hV1 : VAt s w1 p v F := hV.sm p v F (Sm.kp k0 fun y hy => ⟨hF y hy, id⟩)
  have hF1 : ∀ y, F y → y.1 < w1.heap.size := fun y hy => by have := hF y hy; omega
  refine s_call (type_any hs hw hpd hV1) ?_
  rintro e w2 ⟨rfl, ⟨kvs, a, x, hC, hx⟩, k2, hsame, hsm⟩
  have f2 : Fr F w1 w2 := Fr.mono (F := own v) ⟨k2.mono fun q _ c => ⟨v.2, c, Nat.le_refl _, by show v.2 < v.2 + 5; omega⟩, hsm⟩ (by
    intro y hy
    obtain ⟨k, b, e, ns, ks⟩ := p
    unfold VAt at hV
    obtain ⟨_, _, _, _, _, _, _, _, h5, _⟩ := hV
    exact h5 y hy)
  have b2 := k2.blk b0 (fun c => by have c : w.heap.size = v.1 := c; omega)
  have f02 : Fr F w w2 := Fr.pre k0 f2
  refine ⟨kindT p.k, rfl, ?_⟩
  have hz2 := k2.size
  have hkk : p.k = 0 ∨ p.k = 1 ∨ p.k = 2 ∨ p.k = 3 ∨ p.k = 4 ∨ p.k = 5 ∨ p.k = 6 := by omega
  have lf : p.k ≤ 4 → p.ns = [] ∧ p.ks = [] := fun h4 => by
    obtain ⟨k, b, e, ns, ks⟩ := p
    have h4 : k ≤ 4 := h4
    unfold WfV at hw
    obtain ⟨_, _, ⟨h, h', _⟩ | ⟨_, h, h', _⟩ | ⟨h, _⟩ | ⟨h, _⟩⟩ := hw
    · exact ⟨h, h'⟩
    · exact ⟨h, h'⟩
    · omega
    · omega
  have nl : ∀ {t : ByteArray}, p.k ≤ 4 → t = (treeN s p).t → NT.mk p.k t [] [] = treeN s p := fun {t} h4 ht => by
    obtain ⟨l1, l2⟩ := lf h4
    obtain ⟨k, b, e, ns, ks⟩ := p
    have l1 : ns = [] := l1
    have l2 : ks = [] := l2
    subst l1; subst l2
    rw [ht]; simp only [treeN, treeL, List.map_nil]; rfl
  have tN0 : p.k ≠ 3 → p.k ≠ 4 → (treeN s p).t = ByteArray.mk #[] := fun h3 h4 => by rw [treeN_t, if_neg h3, if_neg h4]
  rcases hkk with hk | hk | hk | hk | hk | hk | hk <;> rw [hk] at hC ⊢
  · refine s_iteE (fun c => absurd c (by decide)) fun _ => s_iteE (fun c => absurd c (by decide)) fun _ => s_iteE (fun c => absurd c (by decide)) fun _ => s_iteE (fun c => absurd c (by decide)) fun _ => s_iteE (fun c => absurd c (by decide)) fun _ => s_iteE (fun c => absurd c (by decide)) fun _ => ?_
    exact s_ndEnd (nt := .mk 0 (ByteArray.mk #[]) [] []) (a := (none, 0, 0)) (b := (none, 0, 0)) (by rw [← nl (by omega) (tN0 (by omega) (by omega)).symm, hk]) b2 nd_leaf f02
  · refine s_iteE (fun c => absurd c (by decide)) fun _ => s_iteE (fun c => absurd c (by decide)) fun _ => s_iteE (fun c => absurd c (by decide)) fun _ => s_iteE (fun c => absurd c (by decide)) fun _ => s_iteE (fun c => absurd c (by decide)) fun _ => s_iteE (fun _ => ?_) fun c => absurd rfl c
    exact s_ndEnd (nt := .mk 1 (ByteArray.mk #[]) [] []) (a := (none, 0, 0)) (b := (none, 0, 0)) (by rw [← nl (by omega) (tN0 (by omega) (by omega)).symm, hk]) b2 nd_leaf f02
  · refine s_iteE (fun c => absurd c (by decide)) fun _ => s_iteE (fun c => absurd c (by decide)) fun _ => s_iteE (fun c => absurd c (by decide)) fun _ => s_iteE (fun c => absurd c (by decide)) fun _ => s_iteE (fun _ => ?_) fun c => absurd rfl c
    exact s_ndEnd (nt := .mk 2 (ByteArray.mk #[]) [] []) (a := (none, 0, 0)) (b := (none, 0, 0)) (by rw [← nl (by omega) (tN0 (by omega) (by omega)).symm, hk]) b2 nd_leaf f02
  · refine s_iteE (fun c => absurd c (by decide)) fun _ => s_iteE (fun c => absurd c (by decide)) fun _ => s_iteE (fun c => absurd c (by decide)) fun _ => s_iteE (fun _ => ?_) fun c => absurd rfl c
    have hw2 : w2 = w1 := hsame (by omega)
    obtain ⟨kvs1, a1, hC1⟩ := hV1.cells
    rw [hk] at hC1
    have hr : rawS s 3 p.b p.e = s.extract p.b p.e := rfl
    rw [hr] at hC1
    rw [← hw2] at hC1
    refine s_call (marshalNum_any (by rw [ByteArray.size_extract]; omega) hC1) ?_
    rintro e w3 ⟨z, rfl, hR, k3⟩
    have hstr := hR.toStr
    rw [Ze.bytes_back] at hstr
    refine ⟨z, rfl, s_eff (w' := w3) (s.extract p.b p.e) hstr ?_⟩
    exact s_ndEnd (nt := .mk 3 (s.extract p.b p.e) [] []) (a := (none, 0, 0)) (b := (none, 0, 0)) (by rw [← nl (t := s.extract p.b p.e) (by omega) (by rw [treeN_t, if_pos hk]), hk]) (k3.blk b2 id) nd_leaf (f02.trans (Fr.off k3))
  · refine s_iteE (fun c => absurd c (by decide)) fun _ => s_iteE (fun c => absurd c (by decide)) fun _ => s_iteE (fun _ => ?_) fun c => absurd rfl c
    have hC : Cs w2 v.1 v.2 (vc kvs false a x 3) := hC
    refine s_call (getStr_any hC) ?_
    rintro e w3 ⟨base, room, z, rfl, hM, k3⟩
    have hstr := hM.toStr
    rw [bytes_back] at hstr
    refine ⟨z, rfl, s_eff (w' := w3) x hstr ?_⟩
    exact s_ndEnd (nt := .mk 4 x [] []) (a := (none, 0, 0)) (b := (none, 0, 0)) (by rw [← nl (t := x) (by omega) (by rw [treeN_t, if_neg (by omega), if_pos hk, hx hk]), hk]) (k3.blk b2 id) nd_leaf (f02.trans (Fr.off k3))
  · refine s_iteE (fun c => absurd c (by decide)) fun _ => s_iteE (fun _ => ?_) fun c => absurd rfl c
    have hw2 : w2 = w1 := hsame (by omega)
    subst hw2
    obtain ⟨k, b, e, ns, ks⟩ := p
    have hk : k = 5 := hk
    subst hk
    have hns : ns = [] := by
      unfold WfV at hw
      obtain ⟨_, _, ⟨h, _⟩ | ⟨h, _⟩ | ⟨_, h, _⟩ | ⟨h, _⟩⟩ := hw
      · exact h
      · omega
      · exact h
      · omega
    subst hns
    unfold VAt at hV1
    obtain ⟨kvs1, a1, ad, G, g1, g2, g3, g4, g5, g6, g7, g8, g9⟩ := hV1
    have g2 : Cs w2 v.1 v.2 (vc kvs1 false a1 (ByteArray.mk #[]) 2) := g2
    refine s_call (getArr_any g2) ?_
    rintro en w3 ⟨rfl, rfl⟩
    refine ⟨a1, rfl, ?_⟩
    refine s_call (nodes_any (p := .mk 5 b e [] ks) (g3 rfl) g9 (fun y hy => ⟨hF1 y (g8 y hy).1, (g8 y hy).2.2.1⟩) (by have := hwl.1; show ks.length ≤ 1000000; have : ks.length ≤ s.size := this; omega) hkid) ?_
    rintro en w4 ⟨u, xs, rfl, hRu, hNu, f4⟩
    refine ⟨u, rfl, ?_⟩
    have f4' : Fr F w3 w4 := f4.mono fun y hy => (g8 y hy).1
    have hb4 : Blk w4 w.heap.size zn tN := f4.kp.blk b0 (fun ⟨o, ho⟩ => by have : w.heap.size < w.heap.size := hF _ (g8 _ ho).1; omega)
    refine s_ndEnd (nt := .mk 5 (ByteArray.mk #[]) [] (treeL s ks)) (a := (none, 0, 0)) (b := u) (by simp only [treeN, List.map_nil]; rfl) hb4 ?_ (Fr.pre k0 f4')
    refine NdAt.mk' (xs := xs) Sr.RowIn.nil ?_ (hNu.kp (Kp.refl Off w4) fun q _ h => ⟨by omega, id⟩)
    rw [treeL_len]
    exact hRu.kp (Kp.refl Off w4) fun q _ h => ⟨by omega, id⟩
  · refine s_iteE (fun _ => ?_) fun c => absurd rfl c
    have hw2 : w2 = w1 := hsame (by omega)
    subst hw2
    have hC : Cs w2 v.1 v.2 (vc kvs false a x 1) := hC
    refine s_call (getObj_any hC) ?_
    rintro en w3 ⟨rfl, rfl⟩
    refine ⟨some ⟨v.1, v.2, none⟩, rfl, ?_⟩
    refine s_call (object_any hs hw hpd hk hV1 hF1 hkid) ?_
    rintro en w4 ⟨a', b', rfl, hN4, f4⟩
    refine ⟨(((treeN s p).k : Int), (treeN s p).t, a', b', ()), rfl, ?_⟩
    have hb4 : Blk w4 w.heap.size zn tN := f4.kp.blk b0 (fun ⟨o, ho⟩ => by have : w.heap.size < w.heap.size := hF _ ho; omega)
    exact s_ndEnd rfl hb4 (hN4.kp (Kp.refl Off w4) fun q _ h => ⟨by omega, id⟩) (Fr.pre k0 f4)
/-- fjNode gives the tree. -/
theorem node_any (hs : s.size ≤ 100000) : ∀ (N : Nat) (p : PT) (w : World) (v : Nat × Nat) (F : Nat × Nat → Prop), p.e - p.b < N → WfV s p → PdV s p → VAt s w p v F → (∀ y, F y → y.1 < w.heap.size) →
    Calls Tryz.prog 17 #[ptrV v] w (NodePost s p F w)
  | 0, p, _, _, _, h, _, _, _, _ => absurd h (Nat.not_lt_zero _)
  | N + 1, p, w, v, F, h, hw, hpd, hV, hF => node_step hs hw hpd hV hF fun i c hc w' a F1 hV' hF' => by
    obtain ⟨c1, c2, c3⟩ := kid_in hw hc
    have := c1.lt
    have hpk : PdL s p.ks := by
      obtain ⟨k, b, e, ns, ks⟩ := p
      unfold PdV at hpd
      exact hpd.2.2
    exact node_any hs N c w' a F1 (by omega) c1 (PdL.get hpk hc) hV' hF'
end Go.Proofs.YtkpnomdmnhhaoaaGreatDoor.Zv
