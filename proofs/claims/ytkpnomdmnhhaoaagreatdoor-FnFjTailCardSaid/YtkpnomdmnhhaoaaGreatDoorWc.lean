/- fastjson's Visit, impl.fjObject and impl.fjNodes over a value that was read. No statement of the set is proved here. -/
import Derived.Test.YtkpnomdmnhhaoaaGreatDoorWb
namespace Go.Proofs.YtkpnomdmnhhaoaaGreatDoor.Zv
open Go Go.Proofs Go.RowKit Go.Proofs.YtkpnomdmnhhaoaaGreatDoor.Rx Go.Proofs.YtkpnomdmnhhaoaaGreatDoor.Tr Go.Proofs.YtkpnomdmnhhaoaaGreatDoor.Pl Go.Proofs.YtkpnomdmnhhaoaaGreatDoor.Pw Go.Proofs.YtkpnomdmnhhaoaaGreatDoor.Nt
open Go.Proofs.YtkpnomdmnhhaoaaGreatDoor.Sr (Sl slV tBs tB RowIn)
open Go.Proofs.YtkpnomdmnhhaoaaGreatDoor.Ka (nmS)
open Go.Proofs.YtkpnomdmnhhaoaaGreatDoor.Zu (PdV PdL)
open Go.Proofs.YtkpnomdmnhhaoaaGreatDoor.Ze (MB bytes_back s2b_any tl_all)

variable {w0 w w' w'' : World} {s : ByteArray} {F G : Nat × Nat → Prop} {p c : PT} {v : Nat × Nat}
/-- What is asked of fjNode for a value's parts. -/
def KidOk (s : ByteArray) (p : PT) : Prop := ∀ (i : Nat) (c : PT), p.ks[i]? = some c → ∀ (w : World) (a : Nat × Nat) (F1 : Nat × Nat → Prop), VAt s w c a F1 → (∀ y, F1 y → y.1 < w.heap.size) →
  Calls Tryz.prog 17 #[ptrV a] w (NodePost s c F1 w)
theorem visit_any {kvs a : Sl} {str : ByteArray} {t : Int} {ns ad : List (Nat × Nat)} {ks : List PT} {b e : Nat} (hs : s.size ≤ 100000) (hp : p = .mk 6 b e ns ks) (hns : ns.length = ks.length) (hn : ns.length ≤ 1000000)
    (hO : OS s w0 w F p 0 0 (none, 0, 0) (none, 0, 0) (none, 0, 0) [] []) (hC : Cs w v.1 v.2 (vc kvs false a str t)) (hK : KV w kvs (fun _ => rawN s) ns ad) (hne : ∀ y, rowB kvs y → ¬ own v y) (hok : NmOk s ns)
    (hA : AllV s w ks ad G) (hF : ∀ y, F y → y.1 < w0.heap.size) (h5 : ∀ y, own v y → F y) (h7 : ∀ y, rowB kvs y → F y) (h8 : ∀ y, G y → F y ∧ ¬ own v y ∧ ¬ rowB kvs y) (hkid : KidOk s p) :
    Calls Tryz.prog 51 #[.pointer (some ⟨v.1, v.2, none⟩), .func (.func 52) #[] #[.pointer (some ⟨w0.heap.size + 1, 0, none⟩)]] w fun en w' => en = .returned (.tuple #[]) ∧
      ∃ (ka na : Sl) (xs : List Value), OS s w0 w' F p ns.length ns.length ka na na xs xs ∧ AllN (Ex w0 ka na) w' (treeL s ks) xs := by
  have hl := hA.len
  have hsz := hO.sz
  refine fastjson_Object_Visit.calls _ _ ?_
  unfold fastjson_Object_Visit.t
  refine sat_iteF.2 ?_
  refine s_call (unescKeys_any hs hC (by omega) hn hK hne hok) ?_
  rintro en w1 ⟨rfl, hC1, hK1, k1, hG⟩
  have f1 : Fr (fun y => own v y ∨ rowB kvs y) w w1 := ⟨k1.mono fun q _ h => by
    rcases h with rfl | h
    · exact ⟨v.2, .inl ⟨rfl, Nat.le_refl _, by show v.2 < v.2 + 5; omega⟩⟩
    · exact ⟨0, .inr h⟩, fun G hGy => hG G fun y hy => ⟨(hGy y hy).1, fun c => (hGy y hy).2 (.inl c), fun c => (hGy y hy).2 (.inr c)⟩⟩
  have sub1 : ∀ y, (own v y ∨ rowB kvs y) → F y := fun y h => h.elim (h5 y) (h7 y)
  have hO1 : OS s w0 w1 F p 0 0 (none, 0, 0) (none, 0, 0) (none, 0, 0) [] [] := hO.mild f1.kp (fun q ⟨o, ho⟩ => .inr (hF _ (sub1 _ ho))) (hO.fr.late (f1.mono (F' := New w0 F) fun y hy => .inl (sub1 y hy)) fun y h => h)
  have hA1 : AllV s w1 ks ad G := AllV.sm ks ad G (f1.sm G fun y hy => ⟨by have := hF y (h8 y hy).1; omega, fun c => c.elim (h8 y hy).2.1 (h8 y hy).2.2⟩) hA
  refine ⟨(), rfl, s_ptr (s_load kvs (by rw [addr_add]; exact (hC1 0 _ rfl).1) ?_)⟩
  have hlen := hK1.1
  refine s_loop (fun m z w' => ∃ (i : Nat) (ka na : Sl) (xs : List Value) (G' : Nat × Nat → Prop), m = ns.length - i ∧ z = ((i : Int), ()) ∧ i ≤ ns.length ∧ OS s w0 w' F p i i ka na na xs xs ∧ AllN (Ex w0 ka na) w' (treeL s (p.ks.take i)) xs ∧ KV w' kvs (fun _ => nmS s) ns ad ∧
    AllV s w' (ks.drop i) (ad.drop i) G' ∧ ∀ y, G' y → G y) ns.length ((0 : Int), ()) rfl
    ⟨0, (none, 0, 0), (none, 0, 0), [], G, rfl, rfl, Nat.zero_le _, hO1, by rw [List.take_zero, show treeL s [] = [] by simp only [treeL]]; exact AllN.nil, hK1, by rw [List.drop_zero, List.drop_zero]; exact hA1, fun y h => h⟩ ?_
  clear hO hO1 hA hA1 hK hK1 hC hC1 f1 k1 hG
  rintro m z w2 ⟨i, ka, na, xs, G', rfl, rfl, hi, hO, hN, hK, hA, hG'⟩
  show sat _ (fastjson_Object_Visit.t1 _ kvs (i : Int)) _ _
  unfold fastjson_Object_Visit.t1
  have hpk : p.ks = ks := by rw [hp]; rfl
  have hpn : p.ns = ns := by rw [hp]; rfl
  refine s_iteD (fun hlt => ?_) (fun hge => s_leaf ?_)
  · have hin : i < ns.length := by omega
    rcases hK.2 with h0 | ⟨bk, h1, h2, h3⟩
    · rw [h0] at hin; exact absurd hin (Nat.not_lt_zero _)
    have hni : ns[i]? = some ns[i] := List.getElem?_eq_getElem hin
    have hki : ks[i]? = some ks[i] := List.getElem?_eq_getElem (by omega)
    generalize hcc : ks[i] = c at hki
    have hdk : ks.drop i = c :: ks.drop (i + 1) := by rw [← hcc]; exact List.drop_eq_getElem_cons (by omega)
    rw [hdk] at hA
    unfold AllV at hA
    obtain ⟨a1, r, F1, F2, hda, hV, hA2, hF1, hF2⟩ := hA
    have hai : ad[i]? = some a1 := by
      have := congrArg (fun l => l[0]?) hda
      simp only [List.getElem?_drop, Nat.add_zero, List.getElem?_cons_zero] at this
      exact this
    have hdr : ad.drop (i + 1) = r := by
      have := congrArg List.tail hda
      rw [List.tail_drop] at this
      exact this
    obtain ⟨c1, c2, c3⟩ := h3 i _ _ hni hai
    refine s_chk ⟨by omega, by omega⟩ ⟨_, h1, s_drew ?_⟩
    have kd : Kp Off w2 w2.drew := (Kp.refl Off w2).drew
    have hOd := hO.off kd
    have hNd := hN.kp (B' := Ex w0 ka na) kd fun q _ hx => ⟨hx, id⟩
    have hKd := hK.kp kd fun _ _ => id
    have hz2 := hO.sz
    have F1lt : ∀ y, F1 y → F y ∧ y.1 < w0.heap.size := fun y hy => ⟨(h8 y (hG' y (hF1 y hy).1)).1, hF y (h8 y (hG' y (hF1 y hy).1)).1⟩
    have F2lt : ∀ y, F2 y → y.1 < w0.heap.size := fun y hy => hF y (h8 y (hG' y (hF2 y hy))).1
    have hVd := hV.sm c a1 F1 (Sm.kp kd fun y hy => ⟨by have := (F1lt y hy).2; omega, id⟩)
    have hA2d := AllV.sm (ks.drop (i + 1)) r F2 (Sm.kp kd fun y hy => ⟨by have := F2lt y hy; omega, id⟩) hA2
    have hb2 := kd.block bk h2 id
    have h2d : bk < w2.drew.heap.size := Nat.lt_of_lt_of_le h2 kd.size
    have c1 := (same_block (off := i * 2) hb2).1.trans c1
    have c3 := (same_block (off := i * 2 + 1) hb2).1.trans c3
    generalize w2.drew = w3 at kd hOd hNd hKd hVd hA2d c1 c3 h2d
    refine s_load (nmS s ns[i]) (by rw [addr_add, addr_add, Int.toNat_natCast, Nat.zero_add, Nat.add_zero]; exact c1) ?_
    refine s_load (s := .ptr) (some ⟨a1.1, a1.2, none⟩) (by rw [addr_add, addr_add, Int.toNat_natCast, Nat.zero_add]; exact c3) (s_hereN ?_)
    refine s_call (s2b_any (n := (nmS s ns[i]).size) (Nat.le_refl _)) ?_
    rintro en w4 ⟨cap, rfl, _, hM, k4⟩
    rw [tl_all] at hM
    refine ⟨(some ⟨w3.heap.size, 0, none⟩, (nmS s ns[i]).size, cap), rfl, k4.belowOff, ?_⟩
    have hO4 := hOd.off k4
    have hN4 := hNd.kp (B' := Ex w0 ka na) k4 fun q _ hx => ⟨hx, id⟩
    have hz3 := hOd.sz
    have hV4 := hVd.sm c a1 F1 (Sm.kp k4 fun y hy => ⟨by have := (F1lt y hy).2; omega, id⟩)
    have hA4 := AllV.sm (ks.drop (i + 1)) r F2 (Sm.kp k4 fun y hy => ⟨by have := F2lt y hy; omega, id⟩) hA2d
    have hK4 := hKd.kp k4 fun _ _ => id
    have hz4 := hO4.sz
    have hcb := cb_any (n := ns[i]) hO4 hN4 (by rw [hpn]; exact hni) (by rw [hpk]; exact hki) (by omega) hM hV4 F1lt fun w' hV' hz' => hkid i c (by rw [hpk]; exact hki) w' a1 F1 hV' fun y hy => by have := (F1lt y hy).2; omega
    refine ⟨52, #[], #[.pointer (some ⟨w0.heap.size + 1, 0, none⟩)], rfl, by kernel_rfl, hcb.mono ?_⟩
    rintro en w5 ⟨rfl, ⟨ka', na', xs', hO5, hN5⟩, f5⟩
    refine ⟨(), rfl, s_leaf ?_⟩
    rw [if_pos rfl]
    have w1' : IntKind.wrap IntKind.i64 ((i : Int) + 1) = ((i + 1 : Nat) : Int) := by rw [wrap_in (by omega) (by omega)]; omega
    rw [w1']
    refine ⟨ns.length - (i + 1), (((i + 1 : Nat) : Int), ()), rfl, by omega, i + 1, ka', na', xs', F2, rfl, rfl, hin, hO5, hN5, hK4.kp f5.kp ?_, ?_, fun y hy => hG' y (hF2 y hy)⟩
    · rintro b' hb' ⟨o, ho | ho⟩
      · exact (h8 _ (hG' _ (hF1 _ ho).1)).2.2 ⟨_, hb', rfl⟩
      · have : b' < w0.heap.size := hF (b', 0) (h7 _ ⟨_, hb', rfl⟩)
        have ho : w0.heap.size ≤ b' := ho
        omega
    · rw [hdr]
      exact AllV.sm (ks.drop (i + 1)) r F2 (f5.sm F2 fun y hy => ⟨by have := F2lt y hy; omega, fun c => c.elim (fun g => (hF1 y g).2 hy) (fun g => by have g : w0.heap.size ≤ y.1 := g; have := F2lt y hy; omega)⟩) hA4
  · rw [if_neg (by decide)]
    have hil : i = ns.length := by omega
    subst hil
    rw [hpk, hns, List.take_length] at hN
    exact ⟨rfl, rfl, ka, na, xs, hO, hN⟩
theorem object_any (hs : s.size ≤ 100000) (hw : WfV s p) (hpd : PdV s p) (h6 : p.k = 6) (hV : VAt s w p v F) (hF : ∀ y, F y → y.1 < w.heap.size) (hkid : KidOk s p) :
    Calls Tryz.prog 29 #[ptrV v] w (NodePost s p F w) := by
  have hwl := Lj.wf_len hw
  refine impl_fjObject.calls _ ?_
  unfold impl_fjObject.t
  refine s_alloc ?_
  have b0 := Blk.new w zn tN
  have k0 : Kp Off w (w.alloc (.cells zn.toArray tN (0, 0))) := (Kp.refl Off w).alloc _
  show sat _ _ _ (w.alloc (.cells zn.toArray tN (0, 0)))
  have z0 : (w.alloc (.cells zn.toArray tN (0, 0))).heap.size = w.heap.size + 1 := by simp
  generalize w.alloc (.cells zn.toArray tN (0, 0)) = w1 at k0 b0 z0
  refine s_alloc ?_
  have b1 := Blk.new w1 zn tN
  have k1 : Kp Off w1 (w1.alloc (.cells zn.toArray tN (0, 0))) := (Kp.refl Off w1).alloc _
  show sat _ _ _ (w1.alloc (.cells zn.toArray tN (0, 0)))
  have z1 : (w1.alloc (.cells zn.toArray tN (0, 0))).heap.size = w.heap.size + 2 := by simp [z0]
  generalize w1.alloc (.cells zn.toArray tN (0, 0)) = w2 at k1 b1 z1
  rw [z0] at b1 ⊢
  have b02 := k1.blk b0 id
  obtain ⟨w3, h3, c3, k3⟩ := storeN b1 rfl 6 (ByteArray.mk #[]) (none, 0, 0) (none, 0, 0)
  refine s_effU h3 ?_
  have hz3 := k3.size
  have k03 : Kp (fun q => w.heap.size ≤ q) w w3 := (Kp.off (k0.trans k1)).trans (k3.mono fun q _ e => by have : q = w.heap.size + 1 := e; show w.heap.size ≤ q; omega)
  have f03 : Fr F w w3 := (Fr.off (k0.trans k1)).then k3 fun q e => by have : q = w.heap.size + 1 := e; omega
  have hV3 : VAt s w3 p v F := hV.sm p v F (Sm.kp k03 fun y hy => ⟨hF y hy, fun c => by have c : w.heap.size ≤ y.1 := c; have := hF y hy; omega⟩)
  have hO3 : OS s w w3 F p 0 0 (none, 0, 0) (none, 0, 0) (none, 0, 0) [] [] :=
    ⟨k3.blk b02 (fun c => by have c : w.heap.size = w.heap.size + 1 := c; omega), c3, by rw [List.take_zero]; exact World.ownsRow_nil _ _ _ _, World.ownsRow_nil _ _ _ _, fun b hb => (by cases hb), f03, by omega⟩
  obtain ⟨k, b, e, ns, ks⟩ := p
  have h6 : k = 6 := h6
  subst h6
  unfold VAt at hV3
  obtain ⟨kvs, a, ad, G, g1, g2, g3, g4, g5, g6, g7, g8, g9⟩ := hV3
  obtain ⟨n1, n2⟩ := g4 rfl
  unfold PdV at hpd
  have hv := visit_any hs rfl n1 (by have := hwl.2; show ns.length ≤ 1000000; have : ns.length ≤ s.size := this; omega) hO3 g2 (kv_of n2 n1 g1) (fun y hy => (g7 y hy).2) (fun n hn => ⟨Lj.wf_names hw n hn, hpd.2.1 n hn⟩) g9 hF g5 (fun y hy => (g7 y hy).1) (fun y hy => ⟨(g8 y hy).1, (g8 y hy).2.1, (g8 y hy).2.2.2⟩) hkid
  refine s_call hv ?_
  rintro en w4 ⟨rfl, ka, na, xs, hO4, hN4⟩
  refine ⟨(), rfl, s_eff (w' := w4) ((6 : Int), ByteArray.mk #[], ka, na, ()) (loadN hO4.n) ?_⟩
  obtain ⟨w5, h5, c5, k5⟩ := storeN hO4.z0 rfl 6 (ByteArray.mk #[]) ka na
  have hge : ∀ q, q < w4.heap.size → w.heap.size + 2 ≤ q → w.heap.size ≤ q ∧ ¬ On w.heap.size q := fun q _ h => ⟨by omega, fun c => by have c : q = w.heap.size := c; omega⟩
  refine s_effU h5 (s_effS ((6 : Int), ByteArray.mk #[], ka, na, ()) (loadN c5) (s_leaf ⟨rfl, ka, na, ?_, ?_, hO4.fr.then k5 fun q c => by have c : q = w.heap.size := c; omega⟩))
  · simp only [treeN]; rfl
  · have hk : RowIn (fun q => w.heap.size + 2 ≤ q) w4 ka ns.length (ns.map fun n => strV (nmS s n)) 1 := by
      have h := RowIn.own (B := fun q => w.heap.size + 2 ≤ q) hO4.k fun q _ hq => hq
      have e1 : (PT.mk 6 b e ns ks).ns.take ns.length = ns := List.take_length
      rw [e1] at h
      exact h
    have hx : RowIn (fun q => w.heap.size + 2 ≤ q) w4 na ks.length xs 4 := by rw [← n1]; exact RowIn.own hO4.x fun q _ hq => hq
    have e2 : treeN s (.mk 6 b e ns ks) = .mk 6 (ByteArray.mk #[]) (ns.map (nmS s)) (treeL s ks) := by simp only [treeN]; rfl
    rw [e2]
    refine NdAt.mk' (xs := xs) ?_ ?_ (hN4.kp k5 fun q h hq => hge q h hq.1)
    · rw [List.length_map, List.map_map]
      exact hk.kp k5 hge
    · rw [treeL_len]
      exact hx.kp k5 hge
end Go.Proofs.YtkpnomdmnhhaoaaGreatDoor.Zv
