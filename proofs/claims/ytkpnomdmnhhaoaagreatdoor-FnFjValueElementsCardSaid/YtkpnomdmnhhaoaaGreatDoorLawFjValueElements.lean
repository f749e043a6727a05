/- laws.FnFjValueElements is true for every text and every depth: the walk. Its conditions: the text is no longer than the form says. -/
import Derived.Test.YtkpnomdmnhhaoaaGreatDoorWd
import Derived.Test.YtkpnomdmnhhaoaaGreatDoorWe
import Derived.Test.YtkpnomdmnhhaoaaGreatDoorRows
namespace Go.Proofs.YtkpnomdmnhhaoaaGreatDoor.LawFjValueElements
open Go Go.Proofs Go.RowKit Go.Proofs.YtkpnomdmnhhaoaaGreatDoor.Rx Go.Proofs.YtkpnomdmnhhaoaaGreatDoor.Tr Go.Proofs.YtkpnomdmnhhaoaaGreatDoor.Pl Go.Proofs.YtkpnomdmnhhaoaaGreatDoor.Pw Go.Proofs.YtkpnomdmnhhaoaaGreatDoor.Nt Go.Proofs.YtkpnomdmnhhaoaaGreatDoor.Zv Go.Proofs.YtkpnomdmnhhaoaaGreatDoor.Sk Go.Proofs.YtkpnomdmnhhaoaaGreatDoor.Zs
open Go.Proofs.YtkpnomdmnhhaoaaGreatDoor.Sr (Sl slV places RowIn)
open Go.Proofs.YtkpnomdmnhhaoaaGreatDoor.Zu (PdV PdL pd)
open Go.Proofs.YtkpnomdmnhhaoaaGreatDoor.Lj (Any)

abbrev tCa : TypeId := 46
variable {w w' : World} {s : ByteArray} {p : PT}
theorem fjSkip_any {i : Nat} (hs : s.size < 4611686018427387904) : Calls Tryz.prog 8 #[.string (sfx s i)] w fun e w' => e = .returned (.string (sfx s (bl s i))) ∧ w' = w := by
  refine impl_FjSkip.calls _ ?_
  unfold impl_FjSkip.t
  have h : Calls Tryz.prog 18 #[.string (sfx s i)] w fun e w' => e = .returned (.string (sfx s (bl s i))) ∧ w' = w := by
    refine fastjson_DoorSkip.calls _ ?_
    unfold fastjson_DoorSkip.t
    refine s_call (skip_any hs) ?_
    rintro e w1 ⟨rfl, rfl⟩
    exact ⟨_, rfl, s_leaf ⟨rfl, rfl, rfl⟩⟩
  refine s_call h ?_
  rintro e w1 ⟨rfl, rfl⟩
  exact ⟨_, rfl, s_leaf ⟨rfl, rfl, rfl⟩⟩
/-- What FjValueAt says of a value that begins a text. -/
def VaPost (s : ByteArray) (p : PT) (w : World) (e : Ending) (w' : World) : Prop :=
  ∃ a b : Sl, e = .returned (.tuple #[.agg (nc (treeN s p).k (treeN s p).t a b).toArray, .string (sfx s p.e), .bool true]) ∧ NdAt (fun q => w.heap.size ≤ q) w' (treeN s p) (nc (treeN s p).k (treeN s p).t a b) ∧ Kp Off w w'
theorem valueAt_any {d : Nat} (hs : s.size ≤ 100000) (hw : WfV s p) (hpd : PdV s p) (hd : p.k = 3 → isN (bt s (p.e : Int)) = false) (hlv : d + lv p ≤ 300) :
    Calls Tryz.prog 7 #[.string (sfx s p.b), .int .i64 d] w (VaPost s p w) := by
  have hl := hw.lt
  refine impl_FjValueAt.calls _ _ ?_
  unfold impl_FjValueAt.t
  refine s_alloc ?_
  have b0 := Blk.new w zn tN
  have k0 : Kp Off w (w.alloc (.cells zn.toArray tN (0, 0))) := (Kp.refl Off w).alloc _
  show sat _ _ _ (w.alloc (.cells zn.toArray tN (0, 0)))
  have z0 : (w.alloc (.cells zn.toArray tN (0, 0))).heap.size = w.heap.size + 1 := by simp
  generalize w.alloc (.cells zn.toArray tN (0, 0)) = w1 at k0 b0 z0
  have hdv : Calls Tryz.prog 16 #[.string (sfx s p.b), .int .i64 d] w1 fun e w' =>
      ∃ (x1 : Sl) (v : Nat × Nat), e = .returned (.tuple #[ptrV v, .string (sfx s p.e), .nilIface]) ∧ VAt s w' p v (Reg (none, 0, 0) (w1.heap.size + 1) x1 w'.heap.size) ∧ Kp Off w1 w' := by
    refine fastjson_DoorValue.calls _ _ ?_
    unfold fastjson_DoorValue.t
    refine s_alloc ?_
    have c0 := Blk.new w1 [slV (none, 0, 0)] tCa
    have k1 : Kp Off w1 (w1.alloc (.cells [slV (none, 0, 0)].toArray tCa (0, 0))) := (Kp.refl Off w1).alloc _
    show sat _ _ _ (w1.alloc (.cells [slV (none, 0, 0)].toArray tCa (0, 0)))
    have z1 : (w1.alloc (.cells [slV (none, 0, 0)].toArray tCa (0, 0))).heap.size = w1.heap.size + 1 := by simp
    generalize w1.alloc (.cells [slV (none, 0, 0)].toArray tCa (0, 0)) = w2 at k1 c0 z1
    have hC : CS w2 w1.heap.size 0 (none, 0, 0) := ⟨c0.cell 0, c0.free 0, .inl rfl⟩
    refine s_call (val_all (s := s) hs (p.e - p.b + 1) p w2 (none, 0, 0) d w1.heap.size 0 (Nat.lt_succ_self _) hw hd hC (by show 0 + _ ≤ 100000; omega) hlv) ?_
    rintro e w3 ⟨x1, v, rfl, hC3, hA3, hK3, hV3, _⟩
    refine ⟨(some ⟨v.1, v.2, none⟩, sfx s p.e, .nilIface, ()), rfl, s_leaf ⟨rfl, x1, v, rfl, by rw [← z1]; exact hV3, ?_⟩⟩
    exact ⟨hK3.os.trans k1.os, hK3.tape.trans k1.tape, hK3.output.trans k1.output, Nat.le_trans k1.size hK3.size, fun b hb hn =>
      (hK3.block b (Nat.lt_of_lt_of_le hb k1.size) (fun c => by have c : b = w1.heap.size := c; omega) fun a ha => by cases ha).trans (k1.block b hb hn)⟩
  refine s_call hdv ?_
  rintro e w2 ⟨x1, v, rfl, hV, k2⟩
  refine ⟨(some ⟨v.1, v.2, none⟩, sfx s p.e, .nilIface, ()), rfl, s_chk rfl (sat_iteF.2 ?_)⟩
  refine s_call (node_any hs (p.e - p.b + 1) p w2 v _ (Nat.lt_succ_self _) hw hpd hV fun y hy => hy.2.1) ?_
  rintro e w3 ⟨a, b, rfl, hN, f3⟩
  have hz2 := k2.size
  have k13 : Kp Off w1 w3 := k2.then f3.kp fun q hq ⟨o, ho⟩ => by have g : w1.heap.size + 1 ≤ q := reg_new ho; omega
  have b3 := k13.blk b0 id
  refine ⟨(((treeN s p).k : Int), (treeN s p).t, a, b, ()), rfl, ?_⟩
  obtain ⟨w4, h4, c4, k4⟩ := storeN b3 rfl (treeN s p).k (treeN s p).t a b
  refine s_effU h4 (s_effS (((treeN s p).k : Int), (treeN s p).t, a, b, ()) (loadN c4) (s_leaf ⟨rfl, a, b, rfl, hN.kp k4 fun q _ h => ⟨by omega, fun c => by have c : q = w.heap.size := c; omega⟩, (k0.trans k13).then k4 fun q hq c => by have c : q = w.heap.size := c; omega⟩))
theorem cutOne {q : Nat} : ByteArray.extract (sfx s q) 1 (Int.toNat ((ByteArray.size (sfx s q) : Nat) : Int)) = sfx s (q + 1) := by
  rw [Int.toNat_natCast, sfx_sfx]
theorem walk (s : ByteArray) (q1 : Int) (w : World) (hs : s.size ≤ 140737488351232) (hq : (Lit.int .u16 q1).wf = true) (_ : laidMetH Tryz.prog Rows.fnFjValueElementsRow.laid w) :
    Calls Tryz.prog 3 #[.string s, .int .u16 q1] w fun e w' => e = .returned (.bool true) ∧ RowKit.Below w.heap.size w w' := by
  have hq' : 0 ≤ q1 ∧ q1 ≤ 65535 := by
    have := hq
    simp only [Lit.wf, Bool.and_eq_true, decide_eq_true_eq] at this
    exact this
  obtain ⟨qn, rfl⟩ : ∃ qn : Nat, q1 = (qn : Int) := ⟨q1.toNat, by omega⟩
  have hwr : IntKind.wrap IntKind.i64 (qn : Int) = (qn : Int) := wrap_in (by omega) (by omega)
  obtain ⟨d, hdd⟩ : ∃ d : Nat, qn % 299 = d := ⟨_, rfl⟩
  have hd : d < 299 := by rw [← hdd]; exact Nat.mod_lt _ (by decide)
  have htm : Int.tmod (IntKind.wrap IntKind.i64 (qn : Int)) (299 : Int) = (d : Int) := by rw [hwr, ← hdd]; rfl
  clear hq hq' hdd
  refine laws_FnFjValueElements.calls _ _ ?_
  unfold laws_FnFjValueElements.t
  have done : ∀ (w1 : World), Kp Off w w1 → ((0 : Nat) = 0 ∧ Ending.returned (retVal [.bool true]) = .returned (.bool true) ∧ RowKit.Below w.heap.size w w1) := fun w1 h => ⟨rfl, rfl, h.belowOff⟩
  refine s_iteD (fun _ => s_leaf (done w (Kp.refl _ _))) (fun hbig => ?_)
  refine s_call (fjText_any (by omega)) ?_
  rintro e w1 ⟨nt, a, b, r, rfl, hr, k1⟩
  refine ⟨(((nt.k : Int), nt.t, a, b, ()), r, ()), rfl, ?_⟩
  refine s_alloc ?_
  have b0 := Blk.new w1 zn tN
  have k2 : Kp Off w1 (w1.alloc (.cells zn.toArray tN (0, 0))) := (Kp.refl Off w1).alloc _
  show sat _ _ _ (w1.alloc (.cells zn.toArray tN (0, 0)))
  generalize w1.alloc (.cells zn.toArray tN (0, 0)) = w2 at b0 k2
  obtain ⟨w3, h3, b3, k3⟩ := storeN b0 rfl nt.k nt.t a b
  have hz1 := k1.size
  have k13 : Kp Off w1 w3 := k2.then k3 fun q hq e => by have : q = w1.heap.size := e; omega
  have k03 : Kp Off w w3 := k1.trans k13
  refine s_effU h3 (s_chk (by decide) ?_)
  rw [htm]
  have hw300 : IntKind.wrap IntKind.i64 ((300 : Int) - (d : Int)) = ((300 - d : Nat) : Int) := by rw [wrap_in (by omega) (by omega)]; omega
  rw [hw300]
  refine s_cut (fun z w' => ∃ b5 : Bool, z = (b5, ()) ∧ (b5 = false → r = true ∧ nt.k = 5 ∧ d + levN nt ≤ 300) ∧ Kp Off w3 w') (s_ite (fun _ => s_leaf ?_) (fun hrf => ?_)) ?_
  · rw [if_pos rfl]; exact ⟨(true, ()), rfl, true, rfl, (fun h => by cases h), Kp.refl _ _⟩
  · have hrt : r = true := by cases r with | true => rfl | false => cases hrf
    obtain ⟨hsz, hpd, p, hp, hnt, hdep, hN⟩ := hr hrt
    obtain ⟨_, hwf, _⟩ := Lj.places_of hp
    have hl := hwf.lt
    refine s_load (nt.k : Int) (by rw [addr_add, b3.cell]; rfl) (s_iteN (fun _ => s_leaf ?_) (fun h5 => ?_))
    · rw [if_pos rfl]; exact ⟨(true, ()), rfl, true, rfl, (fun h => by cases h), Kp.refl _ _⟩
    refine s_eff (w' := w3) ((nt.k : Int), nt.t, a, b, ()) (loadN b3) ?_
    have hN3 : NdAt Any w3 nt (nc nt.k nt.t a b) := hN.kp k13 fun _ _ _ => ⟨trivial, id⟩
    refine s_call (levels_any (SizeOf.sizeOf nt + 1) nt w3 _ a b (Nat.lt_succ_self _) (by rw [hnt]; exact sm_tree (by omega) _ p (Nat.lt_succ_self _) hwf) (by
      rw [hnt, levN_tree]
      have := lv_dep s _ p (Nat.lt_succ_self _) hwf
      rw [← hnt] at this
      omega) hN3) ?_
    rintro e w4 ⟨rfl, k4⟩
    refine ⟨(levN nt : Int), rfl, s_leaf ?_⟩
    rw [if_pos rfl]
    exact ⟨(decide ((levN nt : Int) > ((300 - d : Nat) : Int)), ()), rfl, _, rfl, fun h => ⟨hrt, by omega, by have := of_decide_eq_false h; omega⟩, k4⟩
  rintro z w4 ⟨b5, rfl, hb5, k4⟩
  show sat _ (laws_FnFjValueElements.t1 s (qn : Int) _ b5) _ _
  unfold laws_FnFjValueElements.t1
  have k04 := k03.trans k4
  refine s_ite (fun _ => s_leaf (done w4 k04)) (fun hf => ?_)
  obtain ⟨hrt, h5, hlev⟩ := hb5 hf
  obtain ⟨hsz, hpd, p, hp, hnt, hdep, hN⟩ := hr hrt
  obtain ⟨hbl, hwf, hend⟩ := Lj.places_of hp
  have hl := hwf.lt
  have hk5 : p.k = 5 := by rw [← treeN_k s p, ← hnt]; exact h5
  have hPd : PdV s p := (Zu.pd_val p hwf (by rw [← hbl, ← Zu.pd_bl (Nat.zero_le _)]; exact hpd)).1
  have hs62 : s.size < 4611686018427387904 := by omega
  have b4 := k4.blk b3 id
  have hlv : d + lv p ≤ 300 := by rw [hnt, levN_tree] at hlev; exact hlev
  have sk := fjSkip_any (w := w4) (s := s) (i := 0) hs62
  rw [Pl.sfx_zero, hbl] at sk
  refine s_call sk ?_
  rintro e w5 ⟨rfl, rfl⟩
  refine ⟨sfx s p.b, rfl, ?_⟩
  rw [htm]
  refine s_call (valueAt_any (d := d) (by omega) hwf hPd (fun h => by omega) hlv) ?_
  rintro e w6 ⟨a', b', rfl, hN6, k6⟩
  refine ⟨((((treeN s p).k : Int), (treeN s p).t, a', b', ()), sfx s p.e, true, ()), rfl, ?_⟩
  refine s_alloc ?_
  have c0 := Blk.new w6 zn tN
  have k7 : Kp Off w6 (w6.alloc (.cells zn.toArray tN (0, 0))) := (Kp.refl Off w6).alloc _
  show sat _ _ _ (w6.alloc (.cells zn.toArray tN (0, 0)))
  generalize w6.alloc (.cells zn.toArray tN (0, 0)) = w7 at k7 c0
  obtain ⟨w8, h8, c8, k8⟩ := storeN c0 rfl (treeN s p).k (treeN s p).t a' b'
  have k68 : Kp Off w6 w8 := k7.then k8 fun q hq e => by have : q = w6.heap.size := e; omega
  refine s_effU h8 ?_
  have k48 := k6.trans k68
  have k08 := k04.trans k48
  have b8 := k48.blk b4 id
  have hkl : (treeN s p).kids.length = p.ks.length := by rw [treeN_kids, treeL_len]
  obtain ⟨_, _, xs, he6, _, hr6, hall6⟩ := hN6.inv
  obtain ⟨rfl, rfl⟩ := nc_inj he6
  obtain ⟨_, _, _, he1, _, hr1, _⟩ := hN.inv
  obtain ⟨rfl, rfl⟩ := nc_inj he1
  have hb'l : b'.2.1 = p.ks.length := hr6.1.trans hkl
  have hbl' : b.2.1 = p.ks.length := by rw [hr1.1, hnt]; exact hkl
  refine s_cut (fun z w' => z = (false, ()) ∧ w' = w8) (sat_iteF.2 ?_) ?_
  · refine s_load ((treeN s p).k : Int) (by rw [addr_add, Nat.zero_add, c8.cell]; rfl) (s_iteN (fun g => absurd (by rw [treeN_k, hk5]; rfl) g) (fun _ => ?_))
    refine s_load b' (by rw [addr_add, Nat.zero_add, c8.cell]; rfl) (s_load b (by rw [addr_add, b8.cell]; rfl) (s_leaf ?_))
    rw [if_pos rfl]
    refine ⟨(false, ()), ?_, rfl, rfl⟩
    rw [hb'l, hbl']
    have : (((p.ks.length : Nat) : Int) != ((p.ks.length : Nat) : Int)) = false := by simp
    rw [this]; rfl
  rintro z w9 ⟨rfl, rfl⟩
  show sat _ (laws_FnFjValueElements.t2 s (qn : Int) _ false) _ _
  unfold laws_FnFjValueElements.t2
  refine sat_iteF.2 ?_
  have sk := fjSkip_any (w := w9) (s := s) (i := 0) hs62
  rw [Pl.sfx_zero, hbl] at sk
  refine s_call sk ?_
  rintro e w10 ⟨rfl, rfl⟩
  refine ⟨sfx s p.b, rfl, ?_⟩
  have hzb := sfx_size s p.b
  refine s_chk (by omega) ?_
  rw [cutOne]
  -- the elements
  obtain ⟨k, bb, ee, ns, ks⟩ := p
  have hk5 : k = 5 := hk5
  subst hk5
  have hE : WfE s true (bb + 1) ks ee := by
    unfold WfV at hwf
    obtain ⟨_, _, ⟨_, _, _, h⟩ | ⟨h, _⟩ | ⟨_, _, _, h⟩ | ⟨h, _⟩⟩ := hwf
    · rcases h with ⟨g, _⟩ | ⟨g, _⟩ | ⟨g, _⟩ | ⟨g, _⟩ <;> omega
    · omega
    · exact h
    · omega
  have hPk : PdL s ks := by unfold PdV at hPd; exact hPd.2.2
  have hks : (treeN s (.mk 5 bb ee ns ks)).kids = treeL s ks := treeN_kids s _
  have hlk : d + 1 + lvL ks ≤ 300 := by unfold lv at hlv; omega
  have hee : ee ≤ s.size := hl.2
  have hbb : bb < ee := hl.1
  have hksz : ks.length ≤ s.size := (Lj.wf_len hwf).1
  refine s_loop (fun m z w' => ∃ (i q : Nat), m = ks.length - i ∧ z = ((i : Int), sfx s q, ()) ∧ i ≤ ks.length ∧ q ≤ s.size ∧ (i < ks.length → ∃ (c : PT) (r : List PT), ks.drop i = c :: r ∧ c.b = bl s q ∧ WfV s c ∧ WfE s false c.e r ee) ∧ Kp Off w10 w') ks.length ((0 : Int), sfx s (bb + 1), ()) rfl
    ⟨0, bb + 1, rfl, rfl, Nat.zero_le _, by omega, fun h0 => ?_, Kp.refl _ _⟩ ?_
  · cases ks with
    | nil => exact absurd h0 (Nat.lt_irrefl _)
    | cons c r =>
      unfold WfE at hE
      rw [if_pos rfl] at hE
      exact ⟨c, r, rfl, hE.1, hE.2.1, hE.2.2⟩
  rintro m z w11 ⟨i, q, rfl, rfl, hi, hqs, hel, k11⟩
  show sat _ (laws_FnFjValueElements.t3 (qn : Int) _ (i : Int) (sfx s q)) _ _
  unfold laws_FnFjValueElements.t3
  have c11 := k11.blk c8 id
  refine s_load b' (by rw [addr_add, Nat.zero_add, c11.cell]; rfl) (s_iteD (fun hlt => ?_) (fun hge => s_leaf ?_))
  · have hlt : (i : Int) < ((b'.2.1 : Nat) : Int) := hlt
    have hb'l : b'.2.1 = ks.length := hb'l
    have hin : i < ks.length := by omega
    obtain ⟨c, rr, hdr, hcb, hcw, hcE⟩ := hel hin
    have hki : ks[i]? = some c := by
      have := congrArg (fun l => l[0]?) hdr
      simp only [List.getElem?_drop, Nat.add_zero, List.getElem?_cons_zero] at this
      exact this
    have hcl := hcw.lt
    refine s_call (fjSkip_any hs62) ?_
    rintro e w12 ⟨rfl, rfl⟩
    refine ⟨sfx s (bl s q), rfl, ?_⟩
    rw [← hcb]
    rw [htm]
    have hw1 : IntKind.wrap IntKind.i64 ((d : Int) + (1 : Int)) = ((d + 1 : Nat) : Int) := by rw [wrap_in (by omega) (by omega)]; omega
    rw [hw1]
    -- what stands behind it
    have hdel : (bt s (bl s c.e : Int) = 44 ∨ bt s (bl s c.e : Int) = 93) := by
      cases rr with
      | nil => unfold WfE at hcE; exact .inr hcE.1
      | cons c' r' =>
        unfold WfE at hcE
        rw [if_neg (by decide)] at hcE
        exact .inl hcE.1.1
    have hisN : isN (bt s (c.e : Int)) = false := by
      rcases hdel with h | h
      · exact delim h (by omega)
      · exact delim h (by omega)
    have hble : bl s c.e < s.size := lt_of_bt (by rcases hdel with h | h <;> omega)
    have hcge := bl_ge s c.e
    have hlvc := lv_mem ks c (List.mem_of_getElem? hki)
    refine s_call (valueAt_any (d := d + 1) (by omega) hcw (PdL.get hPk hki) (fun _ => hisN) (by omega)) ?_
    rintro e w13 ⟨ac, bc, rfl, hNc, k13⟩
    refine ⟨((((treeN s c).k : Int), (treeN s c).t, ac, bc, ()), sfx s c.e, true, ()), rfl, ?_⟩
    refine s_alloc ?_
    have d0 := Blk.new w13 zn tN
    have k14 : Kp Off w13 (w13.alloc (.cells zn.toArray tN (0, 0))) := (Kp.refl Off w13).alloc _
    show sat _ _ _ (w13.alloc (.cells zn.toArray tN (0, 0)))
    generalize w13.alloc (.cells zn.toArray tN (0, 0)) = w14 at k14 d0
    obtain ⟨w15, h15, d15, k15⟩ := storeN d0 rfl (treeN s c).k (treeN s c).t ac bc
    have k13_15 : Kp Off w13 w15 := k14.then k15 fun q hq e => by have : q = w13.heap.size := e; omega
    refine s_effU h15 ?_
    have k12_15 := k13.trans k13_15
    have k10_15 := k11.trans k12_15
    refine s_cut (fun z w' => z = (false, ()) ∧ Kp Off w15 w') (s_drew (sat_iteF.2 ?_)) ?_
    · have kd : Kp Off w15 w15.drew := (Kp.refl Off w15).drew
      have dd := kd.blk d15 id
      have k10d := k10_15.trans kd
      have hNcd : NdAt Any w15.drew (treeN s c) (nc (treeN s c).k (treeN s c).t ac bc) := hNc.kp (k13_15.trans kd) fun _ _ _ => ⟨trivial, id⟩
      generalize w15.drew = w16 at kd dd k10d hNcd
      have c16 := k10d.blk c8 id
      refine s_effS (((treeN s c).k : Int), (treeN s c).t, ac, bc, ()) (loadN dd) ?_
      refine s_load b' (by rw [addr_add, Nat.zero_add, c16.cell]; rfl) ?_
      have k6d : Kp Off w6 w16 := k68.trans k10d
      obtain ⟨l1, l2, l3⟩ := Lj.RowIn.any hr6 k6d
      rcases l3 with l3 | ⟨g, a1, _, _, a4⟩
      · rw [hkl] at l3
        have l3 : ks.length = 0 := l3
        omega
      obtain ⟨cs, hcn, hcs⟩ := all_getN _ xs i (treeN s c) hall6 (by rw [hks]; exact treeL_get hki)
      have hcn0 := hcn
      obtain ⟨ac', bc', _, rfl, _⟩ := hcn0.inv
      refine s_chk ⟨by omega, hlt⟩ ⟨_, a1, ?_⟩
      refine s_effS (((treeN s c).k : Int), (treeN s c).t, ac', bc', ()) (by
        rw [addr_add, Int.toNat_natCast]
        refine node_run fun j hj => ?_
        have h1 := hcs j hj
        obtain ⟨y, hy⟩ : ∃ y, (nc (treeN s c).k (treeN s c).t ac' bc')[j]? = some y := ⟨_, List.getElem?_eq_getElem (show j < 4 from hj)⟩
        rw [hy] at h1 ⊢
        rw [Nat.zero_add]
        exact a4 _ _ h1) ?_
      have hcn16 : NdAt Any w16 (treeN s c) (nc (treeN s c).k (treeN s c).t ac' bc') := hcn.kp k6d fun _ _ _ => ⟨trivial, id⟩
      refine s_call (same_any (SizeOf.sizeOf (treeN s c) + 1) (treeN s c) w16 _ _ ac bc ac' bc' (Nat.lt_succ_self _) (sm_tree (by omega) _ c (Nat.lt_succ_self _) hcw) hNcd hcn16) ?_
      rintro e w17 ⟨rfl, k17⟩
      refine ⟨true, rfl, sat_iteF.2 (s_leaf ?_)⟩
      rw [if_pos rfl]
      refine ⟨(false, ()), ?_, rfl, kd.trans k17⟩
      have hze := sfx_size s c.e
      have : (((ByteArray.size (sfx s c.e) : Nat) : Int) == 0) = false := beq_eq_false_iff_ne.2 (by omega)
      show [Value.bool (((ByteArray.size (sfx s c.e) : Nat) : Int) == 0)] = _
      rw [this]; rfl
    · rintro z w16 ⟨rfl, k16⟩
      show sat _ (laws_FnFjValueElements.t4 (i : Int) _ false) _ _
      unfold laws_FnFjValueElements.t4
      refine sat_iteF.2 ?_
      refine s_call (fjSkip_any hs62) ?_
      rintro e w17 ⟨rfl, rfl⟩
      have hzq := sfx_size s (bl s c.e)
      refine ⟨sfx s (bl s c.e), rfl, s_ite (fun g => ?_) (fun _ => s_chk ⟨by decide, by show (1 : Int) ≤ ((ByteArray.size (sfx s (bl s c.e)) : Nat) : Int); omega, Int.le_refl _⟩ (s_leaf ?_))⟩
      · exfalso
        have := strEq_iff.1 (show strEq (sfx s (bl s c.e)) (ByteArray.mk #[]) = true from g)
        rw [this] at hzq
        have hzq : 0 = s.size - bl s c.e := hzq
        omega
      · rw [if_pos rfl, cutOne]
        have w1' : IntKind.wrap IntKind.i64 ((i : Int) + 1) = ((i + 1 : Nat) : Int) := by rw [wrap_in (by omega) (by omega)]; omega
        rw [w1']
        have hcut : bl s c.e + 1 ≤ s.size := hble
        refine ⟨ks.length - (i + 1), (((i + 1 : Nat) : Int), sfx s (bl s c.e + 1), ()), rfl, by omega, i + 1, bl s c.e + 1, rfl, rfl, hin, hcut, fun hi1 => ?_, k10_15.trans k16⟩
        have hdr1 : ks.drop (i + 1) = rr := by
          have := congrArg List.tail hdr
          rw [List.tail_drop] at this
          exact this
        cases rr with
        | nil =>
          have := congrArg List.length hdr1
          rw [List.length_drop] at this
          simp only [List.length_nil] at this
          omega
        | cons c' r' =>
          unfold WfE at hcE
          rw [if_neg (by decide)] at hcE
          exact ⟨c', r', hdr1, hcE.1.2, hcE.2.1, hcE.2.2⟩
  · rw [if_neg (by decide)]
    exact done w11 (k08.trans k11)
end Go.Proofs.YtkpnomdmnhhaoaaGreatDoor.LawFjValueElements
