/- pretty's Color marks a JSON text as the reference does. No condition beyond the statement's own guards. -/
import Derived.Test.YtiganlecnpphmaaCy
import Derived.OpenShut
import Derived.ChangeArms
import Derived.WideShapes
import Derived.Great.BuildSlice
namespace Go.Proofs.Ytiganlecnpphmaa.LawPrColor
open Go Go.Proofs Go.RowKit Go.Proofs.Ytiganlecnpphmaa.Rx Go.Proofs.Ytiganlecnpphmaa.Tr Go.Proofs.Ytiganlecnpphmaa.Pl Go.Proofs.Ytiganlecnpphmaa.Pw Go.Proofs.Ytiganlecnpphmaa.Bw Go.Proofs.Ytiganlecnpphmaa.Co
open Go.Proofs.Ytiganlecnpphmaa.Sr (slV tBs tB Sl tP pc PlAt AllAt RowIn loadP storeP zp PlPost places p_no p_yes places_any)
open Go.Proofs.Ytiganlecnpphmaa.Cw Go.Proofs.Ytiganlecnpphmaa.Cc Go.Proofs.Ytiganlecnpphmaa.Cy

variable {w w1 : World} {s : ByteArray} {st : Sy} {p : PT} {g : Nat}
theorem idx_run {a b : ByteArray} {i : Nat} (hi : i < 2) : (Instr.index tM (.agg #[.string a, .string b]) (.int .i64 (i : Int))).run Try.prog w = .ok (.string (if i = 0 then a else b)) w := by
  have hu : Try.prog.underlying tM = some (.array 2 9) := Try.underlying22
  have hz := run_size (P := Try.prog) (w := w) (info_some (P := Try.prog) (t := 9) (by kernel_rfl))
  have hs : ((Try.prog.info? 9).get (by kernel_rfl)).size = 1 := by kernel_rfl
  have ha : aggT Try.prog 9 = some false := by kernel_rfl
  match i, hi with
  | 0, _ => simp [Instr.index, asIntOf, run_und hu, part, hz, hs, run_agg ha]
  | 1, _ => simp [Instr.index, asIntOf, run_und hu, part, hz, hs, run_agg ha]
theorem fits6_any {a b : ByteArray} : Calls Try.prog 9 #[.agg #[.string a, .string b]] w fun e w' => (∃ c, e = .returned (.bool c)) ∧ Kp Off w w' := by
  refine laws_zzFits6.calls _ _ ?_
  unfold laws_zzFits6.t
  refine s_alloc ?_
  have b0 := Blk.new w [.string a, .string b] tM
  have k0 : Kp Off w (w.alloc (.cells [Value.string a, .string b].toArray tM (0, 0))) := (Kp.refl Off w).alloc _
  show sat _ _ _ (w.alloc (.cells [Value.string a, .string b].toArray tM (0, 0)))
  generalize w.alloc (.cells [Value.string a, .string b].toArray tM (0, 0)) = w1 at b0 k0
  refine s_eff (a, b, ()) (pair_run (b0.cell 0) (b0.cell 1)) ?_
  refine s_loop (fun n z w' => ∃ i : Nat, n = 2 - i ∧ z = ((i : Int), ()) ∧ i ≤ 2 ∧ w' = w1) 2 ((0 : Int), ()) rfl ⟨0, rfl, rfl, by omega, rfl⟩ ?_
  rintro n z w2 ⟨i, rfl, rfl, hi, hw⟩
  have hw := hw.symm
  subst hw
  show sat _ (laws_zzFits6.t1 _ (i : Int)) _ _
  unfold laws_zzFits6.t1
  refine s_iteD (fun c => ?_) (fun _ => s_leaf ?_)
  · refine s_eff (w' := w1) (if i = 0 then a else b) (idx_run (by omega)) (s_iteD (fun _ => s_leaf ?_) (fun _ => s_leaf ?_))
    · rw [if_neg (by decide)]; exact ⟨rfl, ⟨_, rfl⟩, k0⟩
    · rw [if_pos rfl, wup i (by omega)]
      exact ⟨2 - (i + 1), (((i + 1 : Nat) : Int), ()), rfl, by omega, i + 1, rfl, rfl, by omega, rfl⟩
  · rw [if_neg (by decide)]; exact ⟨rfl, ⟨_, rfl⟩, k0⟩
theorem s_fit {Q : Nat → List Value → World → Prop} {k : Nat} {t : T} {w0 : World} {z : Addr} (hz : z = ⟨g, k, none⟩) (hb : Blk w g (sC st) tS) (hg : Kp Off w0 w) (h0 : (sC st)[k]? = some (.string (st k))) (h1 : (sC st)[k + 1]? = some (.string (st (k + 1))))
    (hQ : ∀ w' c, Kp Off w0 w' → Q 0 [.bool c] w') (ht : ∀ w', Kp Off w0 w' → Blk w' g (sC st) tS → sat Try.prog t Q w') :
    sat Try.prog (.eff (Instr.loadAt tM (Value.pointer (some z))) (.agg (.cons .str (.cons .str .nil))) fun (z1 : (ByteArray × (ByteArray × PUnit))) =>
      .call 9 #[(Value.agg #[(Value.string (z1).1), (Value.string ((z1).2).1)])] .bool fun (b2 : Bool) =>
      .ite (!b2) (.leaf 0 [(Value.bool Bool.false)]) t) Q w := by
  subst hz
  refine s_eff (st k, st (k + 1), ()) (pair_run ((hb.cell k).trans h0) ((hb.cell (k + 1)).trans h1)) ?_
  refine s_call fits6_any ?_
  rintro e w2 ⟨⟨c, rfl⟩, k2⟩
  refine ⟨c, rfl, s_ite (fun _ => s_leaf (hQ _ _ (hg.trans k2))) (fun _ => ht _ (hg.trans k2) (k2.blk hb id))⟩
theorem fits5_any : Calls Try.prog 4 #[sA st] w fun e w' => (∃ c, e = .returned (.bool c)) ∧ Kp Off w w' := by
  refine laws_zzFits5.calls _ _ _ _ _ _ _ _ _ _ _ _ _ _ _ _ ?_
  unfold laws_zzFits5.t
  refine s_alloc ?_
  have b0 := Blk.new w (sC st) tS
  have k0 : Kp Off w (w.alloc (.cells (sC st).toArray tS (0, 0))) := (Kp.refl Off w).alloc _
  show sat _ _ _ (w.alloc (.cells (sC st).toArray tS (0, 0)))
  generalize w.alloc (.cells (sC st).toArray tS (0, 0)) = w1 at b0 k0
  have fin : ∀ w' c, Kp Off w w' → (0 = 0 ∧ (∃ c', Ending.returned (retVal [.bool c]) = .returned (.bool c')) ∧ Kp Off w w') := fun w' c h => ⟨rfl, ⟨c, rfl⟩, h⟩
  refine s_fit (k := 0) rfl b0 k0 rfl rfl fin fun w1 k1 b1 => ?_
  refine s_fit (k := 2) rfl b1 k1 rfl rfl fin fun w1 k1 b1 => ?_
  refine s_fit (k := 4) rfl b1 k1 rfl rfl fin fun w1 k1 b1 => ?_
  refine s_fit (k := 6) rfl b1 k1 rfl rfl fin fun w1 k1 b1 => ?_
  refine s_fit (k := 8) rfl b1 k1 rfl rfl fin fun w1 k1 b1 => ?_
  refine s_fit (k := 10) rfl b1 k1 rfl rfl fin fun w1 k1 b1 => ?_
  refine s_fit (k := 12) rfl b1 k1 rfl rfl fin fun w1 k1 b1 => ?_
  refine s_fit (k := 14) rfl b1 k1 rfl rfl fin fun w1 k1 b1 => ?_
  exact s_leaf (fin _ _ k1)
theorem sC_at : ∀ j, j < 16 → (sC st)[j]? = some (.string (st j)) := by
  intro j hj
  match j, hj with
  | 0, _ => rfl
  | 1, _ => rfl
  | 2, _ => rfl
  | 3, _ => rfl
  | 4, _ => rfl
  | 5, _ => rfl
  | 6, _ => rfl
  | 7, _ => rfl
  | 8, _ => rfl
  | 9, _ => rfl
  | 10, _ => rfl
  | 11, _ => rfl
  | 12, _ => rfl
  | 13, _ => rfl
  | 14, _ => rfl
  | 15, _ => rfl
  | n + 16, h => exact absurd h (by omega)
theorem short_any : Calls Try.prog 6 #[sA st] w fun e w' => (∃ c, e = .returned (.bool c) ∧ (c = true → ∀ k, k < 16 → (st k).size ≤ 64)) ∧ Kp Off w w' := by
  refine laws_prStyleShort.calls _ _ _ _ _ _ _ _ _ _ _ _ _ _ _ _ ?_
  unfold laws_prStyleShort.t
  refine s_alloc ?_
  have b0 := Blk.new w (sC st) tS
  have k0 : Kp Off w (w.alloc (.cells (sC st).toArray tS (0, 0))) := (Kp.refl Off w).alloc _
  show sat _ _ _ (w.alloc (.cells (sC st).toArray tS (0, 0)))
  generalize w.alloc (.cells (sC st).toArray tS (0, 0)) = w1 at b0 k0
  refine s_eff (st 0, st 1, ()) (pair_run (b0.cell 0) (b0.cell 1)) ?_
  refine s_eff (st 2, st 3, ()) (pair_run (b0.cell 2) (b0.cell 3)) ?_
  refine s_eff (st 4, st 5, ()) (pair_run (b0.cell 4) (b0.cell 5)) ?_
  refine s_eff (st 6, st 7, ()) (pair_run (b0.cell 6) (b0.cell 7)) ?_
  refine s_eff (st 8, st 9, ()) (pair_run (b0.cell 8) (b0.cell 9)) ?_
  refine s_eff (st 10, st 11, ()) (pair_run (b0.cell 10) (b0.cell 11)) ?_
  refine s_eff (st 12, st 13, ()) (pair_run (b0.cell 12) (b0.cell 13)) ?_
  refine s_eff (st 14, st 15, ()) (pair_run (b0.cell 14) (b0.cell 15)) ?_
  have hbs := run_buildSlice (P := Try.prog) w1 36 tM 8 #[(0, .agg #[.string (st 0), .string (st 1)]), (1, .agg #[.string (st 2), .string (st 3)]), (2, .agg #[.string (st 4), .string (st 5)]), (3, .agg #[.string (st 6), .string (st 7)]), (4, .agg #[.string (st 8), .string (st 9)]), (5, .agg #[.string (st 10), .string (st 11)]), (6, .agg #[.string (st 12), .string (st 13)]), (7, .agg #[.string (st 14), .string (st 15)])]
    (sC st).toArray _ (.agg #[.string (ByteArray.mk #[]), .string (ByteArray.mk #[])]) Try.underlying36 (info_some (by kernel_rfl)) (by kernel_rfl) (of_decide_eq_true (by kernel_rfl)) (of_decide_eq_true (by kernel_rfl)) (by kernel_rfl)
  refine s_eff (some ⟨w1.heap.size, 0, none⟩, 8, 8) hbs ?_
  have b1 := Blk.new w1 (sC st) tM
  have k1 : Kp Off w1 (w1.alloc (.cells (sC st).toArray tM (0, 0))) := (Kp.refl Off w1).alloc _
  have hlt := b1.lt
  generalize w1.heap.size = g at *
  generalize w1.alloc (.cells (sC st).toArray tM (0, 0)) = w2 at b1 k1 hlt
  have k2 := k0.trans k1
  refine s_loop (fun n z w' => ∃ i : Nat, n = 8 - i ∧ z = ((i : Int), ()) ∧ i ≤ 8 ∧ Kp Off w w' ∧ Blk w' g (sC st) tM ∧ ∀ k, k < i * 2 → (st k).size ≤ 64) 8 ((0 : Int), ()) rfl ⟨0, rfl, rfl, by omega, k2, b1, fun k hk => by omega⟩ ?_
  rintro n z w3 ⟨i, rfl, rfl, hi, k3, b3, hall⟩
  show sat _ (laws_prStyleShort.t1 (some ⟨g, 0, none⟩, 8, 8) (i : Int)) _ _
  unfold laws_prStyleShort.t1
  refine s_iteD (fun c => s_chk ⟨by omega, c⟩ (s_ptr ?_)) (fun c => s_leaf ?_)
  · have hi8 : i < 8 := by have : (i : Int) < ((8 : Nat) : Int) := c; omega
    rw [addr_add, Nat.zero_add, Int.toNat_natCast]
    refine s_eff (st (i * 2), st (i * 2 + 1), ()) (pair_run ((b3.cell _).trans (sC_at _ (by omega))) ((b3.cell _).trans (sC_at _ (by omega)))) (s_alloc ?_)
    have b4 := Blk.new w3 [.string (ByteArray.mk #[]), .string (ByteArray.mk #[])] tM
    have k4 : Kp Off w3 (w3.alloc (.cells [Value.string (ByteArray.mk #[]), .string (ByteArray.mk #[])].toArray tM (0, 0))) := (Kp.refl Off w3).alloc _
    show sat _ _ _ (w3.alloc (.cells [Value.string (ByteArray.mk #[]), .string (ByteArray.mk #[])].toArray tM (0, 0)))
    generalize w3.alloc (.cells [Value.string (ByteArray.mk #[]), .string (ByteArray.mk #[])].toArray tM (0, 0)) = w4 at b4 k4
    obtain ⟨w5, h5, b5, k5⟩ := storeAt_run (P := Try.prog) (t := tM) [.string (st (i * 2)), .string (st (i * 2 + 1))] b4 (info_some (by kernel_rfl)) (by kernel_rfl) rfl rfl
    refine s_effU h5 (s_chk (by decide) (s_load (st (i * 2)) (b5.cell 0) ?_))
    have hg3 := b3.lt
    have k45 : Kp Off w3 w5 := k4.then k5 fun q hq e => by have : q = w3.heap.size := e; omega
    refine s_iteD (fun _ => s_leaf ?_) (fun h1 => s_chk (by decide) (s_load (st (i * 2 + 1)) (b5.cell 1) (s_iteD (fun _ => s_leaf ?_) (fun h2 => s_leaf ?_))))
    · rw [if_neg (by decide)]; exact ⟨rfl, ⟨false, rfl, fun h => by cases h⟩, k3.trans k45⟩
    · rw [if_neg (by decide)]; exact ⟨rfl, ⟨false, rfl, fun h => by cases h⟩, k3.trans k45⟩
    · rw [if_pos rfl, wup i (by omega)]
      refine ⟨8 - (i + 1), (((i + 1 : Nat) : Int), ()), rfl, by omega, i + 1, rfl, rfl, by omega, k3.trans k45, k45.blk b3 id, fun k hk => ?_⟩
      rcases Nat.lt_or_ge k (i * 2) with g1 | g1
      · exact hall k g1
      · rcases (by omega : k = i * 2 ∨ k = i * 2 + 1) with rfl | rfl <;> omega
  · rw [if_neg (by decide)]
    have hi8 : i = 8 := by
      have : ¬ (i : Int) < ((8 : Nat) : Int) := c
      omega
    subst hi8
    exact ⟨rfl, ⟨true, rfl, fun _ k hk => hall k (by omega)⟩, k3⟩
theorem prPlaces_any : Calls Try.prog 5 #[.string s] w fun e w' => (∃ (k b e1 : Int) (na ka : Sl) (x : Bool), e = .returned (.tuple #[.agg (pc k b e1 na ka).toArray, .bool x]) ∧
    (x = true → s.size ≤ 4096 ∧ ∃ p, places s = some p ∧ PlAt (fun q => w.heap.size ≤ q) w' p (pc k b e1 na ka))) ∧ Kp Off w w' := by
  refine laws_prPlaces.calls _ ?_
  unfold laws_prPlaces.t
  refine s_alloc ?_
  have hb := Blk.new w zp tP
  have k0 : Kp Off w (w.alloc (.cells zp.toArray tP (0, 0))) := (Kp.refl Off w).alloc _
  have hz : (w.alloc (.cells zp.toArray tP (0, 0))).heap.size = w.heap.size + 1 := by simp
  refine s_iteD (fun h => ?_) (fun h => ?_)
  · refine p_no hb rfl fun w' k => ⟨rfl, ⟨_, _, _, _, _, false, rfl, fun h => by cases h⟩, k0.then k fun q hq e => by have : q = w.heap.size := e; omega⟩
  · refine s_call (places_any (by omega)) ?_
    rintro e w1 ⟨k, b, e1, na, ka, rfl, k1, hp⟩
    refine ⟨((k, b, e1, na, ka, ()), (places s).isSome, ()), rfl, ?_⟩
    obtain ⟨w2, h2, h3, h4⟩ := storeP (k1.blk hb (fun h => h)) rfl k b e1 na ka
    refine s_effU h2 ?_
    refine s_effS (k, b, e1, na, ka, ()) (loadP h3) (s_leaf ⟨rfl, ⟨k, b, e1, na, ka, _, rfl, fun hx => ⟨by omega, ?_⟩⟩, ?_⟩)
    · obtain ⟨p, hpl⟩ := Option.isSome_iff_exists.1 hx
      refine ⟨p, hpl, PlAt.kp h4 (fun q _ hq => ?_) (hp p hpl)⟩
      have hq : (w.alloc (.cells zp.toArray tP (0, 0))).heap.size ≤ q := hq
      rw [hz] at hq
      exact ⟨by omega, fun e => by have : q = w.heap.size := e; omega⟩
    · exact (k0.trans k1).then h4 fun q hq e => by have : q = w.heap.size := e; omega
theorem walk_st (hst : ∀ k, 16 ≤ k → (st k).size ≤ 64) :
    Calls Try.prog 3 #[.string s, sA st] w fun e w' => e = .returned (.bool true) ∧ RowKit.Below w.heap.size w w' := by
  refine laws_FnPrColor.calls _ _ _ _ _ _ _ _ _ _ _ _ _ _ _ _ _ ?_
  unfold laws_FnPrColor.t
  have done : ∀ (w1 : World), Kp Off w w1 → (0 = 0 ∧ Ending.returned (retVal [.bool true]) = .returned (.bool true) ∧ RowKit.Below w.heap.size w w1) := fun w1 h => ⟨rfl, rfl, h.belowOff⟩
  refine s_alloc ?_
  have b0 := Blk.new w (sC st) tS
  have k0 : Kp Off w (w.alloc (.cells (sC st).toArray tS (0, 0))) := (Kp.refl Off w).alloc _
  show sat _ _ _ (w.alloc (.cells (sC st).toArray tS (0, 0)))
  generalize w.alloc (.cells (sC st).toArray tS (0, 0)) = w1 at b0 k0
  refine s_cut (fun z w' => Kp Off w1 w') ?_ ?_
  · refine s_iteD (fun _ => s_leaf ?_) (fun _ => ?_)
    · rw [if_pos rfl]; exact ⟨(true, ()), rfl, Kp.refl _ _⟩
    · refine s_eff (st 0, st 1, st 2, st 3, st 4, st 5, st 6, st 7, st 8, st 9, st 10, st 11, st 12, st 13, st 14, st 15, ()) (style_run b0) ?_
      refine s_call fits5_any ?_
      rintro e w2 ⟨⟨c, rfl⟩, k2⟩
      refine ⟨c, rfl, s_leaf ?_⟩
      rw [if_pos rfl]; exact ⟨(!c, ()), rfl, k2⟩
  rintro ⟨b3, zu⟩ w2 k2
  have k02 := k0.trans k2
  have b2 := k2.blk b0 id
  show sat _ (laws_FnPrColor.t1 _ _ b3) _ _
  unfold laws_FnPrColor.t1
  refine s_ite (fun _ => s_leaf (done _ k02)) (fun _ => ?_)
  refine s_call prPlaces_any ?_
  rintro e w3 ⟨⟨k, b, e1, na, ka, x, rfl, hx⟩, k3⟩
  refine ⟨((k, b, e1, na, ka, ()), x, ()), rfl, s_alloc ?_⟩
  have b3 := k3.blk b2 id
  have k03 := k02.trans k3
  obtain ⟨w4, h4, c4, k4⟩ := storeP (Blk.new w3 zp tP) rfl k b e1 na ka
  refine s_effU h4 ?_
  have hz3 := k3.size
  have hz03 := k03.size
  have hw0 := b3.lt
  have kc : Kp Off w3 w4 := (((Kp.refl (fun q => q = w3.heap.size) w3).alloc _).trans (k4.mono fun q _ h => h)).mono fun q hq h => by omega
  have k04 := k03.trans kc
  have b4 := kc.blk b3 id
  refine s_cut (fun z w' => Kp Off w4 w' ∧ (z.1 = true ∨ z.1 = false ∧ x = true ∧ ∀ k, (st k).size ≤ 64)) ?_ ?_
  · cases x with
    | false => exact sat_iteT.2 (s_leaf (by rw [if_pos rfl]; exact ⟨(true, ()), rfl, Kp.refl _ _, .inl rfl⟩))
    | true =>
      refine sat_iteF.2 ?_
      refine s_eff (st 0, st 1, st 2, st 3, st 4, st 5, st 6, st 7, st 8, st 9, st 10, st 11, st 12, st 13, st 14, st 15, ()) (style_run b4) ?_
      refine s_call short_any ?_
      rintro e w5 ⟨⟨c, rfl, hc⟩, k5⟩
      refine ⟨c, rfl, s_leaf ?_⟩
      rw [if_pos rfl]
      refine ⟨(!c, ()), rfl, k5, ?_⟩
      cases c with
      | false => exact .inl rfl
      | true =>
        refine .inr ⟨rfl, rfl, fun k => ?_⟩
        rcases Nat.lt_or_ge k 16 with g | g
        · exact hc rfl k g
        · exact hst k g
  rintro ⟨b8, zu⟩ w5 ⟨k5, hb8⟩
  have k05 := k04.trans k5
  have b5 := k5.blk b4 id
  have c5 := k5.blk c4 id
  have hb8 : b8 = true ∨ b8 = false ∧ x = true ∧ ∀ k, (st k).size ≤ 64 := hb8
  show sat _ (laws_FnPrColor.t2 _ _ _ b8) _ _
  unfold laws_FnPrColor.t2
  rcases hb8 with rfl | ⟨rfl, rfl, hm⟩
  · exact sat_iteT.2 (s_leaf (done _ k05))
  obtain ⟨hs, p, hpl, hP⟩ := hx rfl
  refine sat_iteF.2 ?_
  refine s_loop (fun n z w' => ∃ i : Nat, n = s.size + 1 - i ∧ z = ((i : Int), ()) ∧ 1 ≤ i ∧ i ≤ s.size + 1 ∧ w' = w5 ∧ ∀ j, j + 1 < i → bt s (j : Int) = 92 → bt s ((j + 1 : Nat) : Int) ≠ 92) s.size ((1 : Int), ()) rfl ⟨1, rfl, rfl, by omega, by omega, rfl, fun j hj => by omega⟩ ?_
  rintro n z w6 ⟨i, rfl, rfl, hi1, hi2, hw, hall⟩
  have hw := hw.symm
  subst hw
  show sat _ (laws_FnPrColor.t3 _ _ _ (i : Int)) _ _
  unfold laws_FnPrColor.t3
  have wd : IntKind.wrap IntKind.i64 ((i : Int) - 1) = ((i - 1 : Nat) : Int) := by rw [wrap_in (by omega) (by omega)]; omega
  have nxt : (bt s ((i - 1 : Nat) : Int) = 92 → bt s (i : Int) ≠ 92) → i < s.size → ∃ n' x', [Value.int .i64 (IntKind.wrap IntKind.i64 ((i : Int) + 1))] = (Sh.cons (.int .i64) .nil).vals x' ∧ n' < s.size + 1 - i ∧
      ∃ i' : Nat, n' = s.size + 1 - i' ∧ x' = ((i' : Int), ()) ∧ 1 ≤ i' ∧ i' ≤ s.size + 1 ∧ w5 = w5 ∧ ∀ j, j + 1 < i' → bt s (j : Int) = 92 → bt s ((j + 1 : Nat) : Int) ≠ 92 := by
    intro hn hlt
    rw [wup i (by omega)]
    refine ⟨s.size + 1 - (i + 1), (((i + 1 : Nat) : Int), ()), rfl, by omega, i + 1, rfl, rfl, by omega, by omega, rfl, fun j hj => ?_⟩
    rcases Nat.lt_or_ge (j + 1) i with g | g
    · exact hall j g
    · have : i = j + 1 := by omega
      subst this
      exact hn
  rw [wd]
  refine s_iteD (fun hlt => s_chk (by omega) (s_iteE (fun h1 => s_chk (by omega) (s_iteE (fun h2 => s_leaf ?_) (fun h2 => s_leaf ?_))) (fun h1 => s_leaf ?_))) (fun hge => ?_)
  · rw [if_neg (by decide)]; exact done _ k05
  · rw [if_pos rfl]; exact nxt (fun _ => h2) (by omega)
  · rw [if_pos rfl]; exact nxt (fun c => absurd c h1) (by omega)
  -- the two
  have hN : NB s := by
    intro j hj
    rcases Nat.lt_or_ge (j + 1) i with g | g
    · exact hall j g hj
    · rw [bt_end (by omega)]; decide
  obtain ⟨hv, hbl⟩ : val s (bl s 0) = some p ∧ bl s p.e = s.size := by
    unfold places at hpl
    cases hv : val s (bl s 0) with
    | none => rw [hv] at hpl; cases hpl
    | some p' =>
      rw [hv] at hpl
      simp only [Option.bind_some] at hpl
      split at hpl
      · cases hpl; exact ⟨rfl, by assumption⟩
      · cases hpl
  obtain ⟨hpb, hwf⟩ := val_wf (bl_le s 0 (Nat.zero_le _)) hv
  refine s_drew ?_
  have kd : Kp Off w5 w5.drew := (Kp.refl Off w5).drew
  have k06 := k05.trans kd
  have b6 := kd.blk b5 id
  have c6 := kd.blk c5 id
  have hP5 : PlAt (fun q => q < w5.heap.size) w5 p (pc k b e1 na ka) := PlAt.kp (kc.trans k5) (fun q hq _ => ⟨by have := (kc.trans k5).size; omega, id⟩) hP
  have hP6 : PlAt (fun q => q < w5.drew.heap.size) w5.drew p (pc k b e1 na ka) := PlAt.kp kd (fun q hq h => ⟨h, id⟩) hP5
  obtain ⟨rfl, rfl, rfl⟩ : k = p.k ∧ b = p.b ∧ e1 = p.e := by
    obtain ⟨k', b', e', ns, ks⟩ := p
    obtain ⟨na', ka', xs, h, _⟩ := hP
    simp only [pc, List.cons.injEq, Value.int.injEq, true_and] at h
    exact ⟨h.1, h.2.1, h.2.2.1⟩
  generalize w5.drew = w6 at *
  refine ⟨(st 0, st 1, st 2, st 3, st 4, st 5, st 6, st 7, st 8, st 9, st 10, st 11, st 12, st 13, st 14, st 15, ()), fun w' hw' => style_run ((Kp.of_below (S := Off) hw').blk b6 id), ?_⟩
  refine ⟨((p.k : Int), (p.b : Int), (p.e : Int), na, ka, ()), fun w' hw' => loadP ((Kp.of_below (S := Off) hw').blk c6 id), ?_⟩
  refine ⟨(st 0, st 1, st 2, st 3, st 4, st 5, st 6, st 7, st 8, st 9, st 10, st 11, st 12, st 13, st 14, st 15, ()), fun w' hw' => style_run ((Kp.of_below (S := Off) hw').blk b6 id), ?_⟩
  show sat _ (.call _ _ _ _) _ _
  refine s_call (prColor_any hs hm hN hpb hwf hbl) ?_
  rintro e w7 ⟨rfl, k7⟩
  refine ⟨cs st s p, rfl, k7.belowOff, ?_⟩
  have hP7 : PlAt (fun q => q < w7.heap.size) w7 p (pc p.k p.b p.e na ka) := PlAt.kp k7 (fun q hq h => ⟨by have := k7.size; omega, id⟩) hP6
  refine s_call (colored_any hs hm hpb hwf hbl hP7) ?_
  rintro e w8 ⟨rfl, k8⟩
  refine ⟨cs st s p, rfl, s_leaf ?_⟩
  rw [if_neg (by decide)]
  have ht : strEq (cs st s p) (cs st s p) = true := strEq_iff.2 rfl
  rw [ht]
  exact done _ ((k06.trans k7).trans k8)
/-! ## The parameter -/
open Go.ChangeShapes Go.WideShapes
theorem pair_open {H : Type} {enc : TypeId × Value → H} {W : World} {base : Nat} {spare : Nat → Bool} {held : Bool} {n : Nat} {c0 c1 : Value} {x : DataW H × List MemPlace}
    (h : DataW.trod enc Try.prog W base spare held n tM [c0, c1] = some x) : ∃ a b, c0 = .string a ∧ c1 = .string b := by
  obtain ⟨xs, m, _, _, _, hl, hg⟩ := DataW.trod_array Try.underlying22 h
  have hc : Try.prog.cellsOf 9 = 1 := by kernel_rfl
  have h0 := hg 0 (by decide)
  have h1 := hg 1 (by decide)
  rw [hc] at h0 h1
  have e0 : xs[0]? = some (xs[0]'(by omega)) := List.getElem?_eq_getElem (by omega)
  have e1 : xs[1]? = some (xs[1]'(by omega)) := List.getElem?_eq_getElem (by omega)
  rw [e0] at h0
  rw [e1] at h1
  have h0 : DataW.trod enc Try.prog W base spare held m 9 [c0] = some _ := h0
  have h1 : DataW.trod enc Try.prog W base spare held m 9 [c1] = some _ := h1
  obtain ⟨a, ha, _⟩ := DataW.trod_string Try.underlying9 h0
  obtain ⟨b, hb, _⟩ := DataW.trod_string Try.underlying9 h1
  exact ⟨a, b, by cases ha; rfl, by cases hb; rfl⟩
theorem style_open {H : Type} {enc : TypeId × Value → H} {W : World} {base : Nat} {spare : Nat → Bool} {held : Bool} {r : Reach} {b0 : Nat} {v : Value} {d : DataW H} {p : List MemPlace}
    (hv : Value.okWide Try.prog W r b0 tS v) (h : DataW.Trod enc Try.prog W base spare held tS v d p) : ∃ st : Sy, v = sA st ∧ ∀ k, 16 ≤ k → (st k).size ≤ 64 := by
  obtain ⟨cs, rfl, hsz⟩ := okWide_struct Try.underlying24 hv
  obtain ⟨l⟩ := cs
  have hc16 : Try.prog.cellsOf tS = 16 := by kernel_rfl
  have hl : l.length = 16 := hsz.trans hc16
  obtain ⟨fuel, hf⟩ := h
  obtain ⟨xs, n, _, _, _, hlen, hg⟩ := DataW.trod_struct Try.underlying24 hf
  have hc : Try.prog.cellsOf tM = 2 := by kernel_rfl
  have hlen : xs.length = 8 := hlen
  match l, hl with
  | [c0, c1, c2, c3, c4, c5, c6, c7, c8, c9, c10, c11, c12, c13, c14, c15], _ =>
    have get : ∀ j, j < 8 → ∃ x, xs[j]? = some x := fun j hj => ⟨_, List.getElem?_eq_getElem (by omega)⟩
    have pr : ∀ (j o : Nat) (f : Field) (a b : Value), j < 8 → DataW.trod enc Try.prog W base spare held n f.type (([c0, c1, c2, c3, c4, c5, c6, c7, c8, c9, c10, c11, c12, c13, c14, c15].drop f.offset).take (Try.prog.cellsOf f.type)) = xs[j]? → f.type = tM → f.offset = o →
        ([c0, c1, c2, c3, c4, c5, c6, c7, c8, c9, c10, c11, c12, c13, c14, c15].drop o).take 2 = [a, b] → ∃ u v, a = .string u ∧ b = .string v := by
      intro j o f a b hj hh ht ho he
      obtain ⟨x, hx⟩ := get j hj
      rw [ht, ho, hc, he, hx] at hh
      exact pair_open hh
    obtain ⟨s0, s1, rfl, rfl⟩ := pr 0 0 _ _ _ (by decide) (hg 0 _ rfl) rfl rfl rfl
    obtain ⟨s2, s3, rfl, rfl⟩ := pr 1 2 _ _ _ (by decide) (hg 1 _ rfl) rfl rfl rfl
    obtain ⟨s4, s5, rfl, rfl⟩ := pr 2 4 _ _ _ (by decide) (hg 2 _ rfl) rfl rfl rfl
    obtain ⟨s6, s7, rfl, rfl⟩ := pr 3 6 _ _ _ (by decide) (hg 3 _ rfl) rfl rfl rfl
    obtain ⟨s8, s9, rfl, rfl⟩ := pr 4 8 _ _ _ (by decide) (hg 4 _ rfl) rfl rfl rfl
    obtain ⟨s10, s11, rfl, rfl⟩ := pr 5 10 _ _ _ (by decide) (hg 5 _ rfl) rfl rfl rfl
    obtain ⟨s12, s13, rfl, rfl⟩ := pr 6 12 _ _ _ (by decide) (hg 6 _ rfl) rfl rfl rfl
    obtain ⟨s14, s15, rfl, rfl⟩ := pr 7 14 _ _ _ (by decide) (hg 7 _ rfl) rfl rfl rfl
    refine ⟨fun k => [s0, s1, s2, s3, s4, s5, s6, s7, s8, s9, s10, s11, s12, s13, s14, s15].getD k (ByteArray.mk #[]), rfl, fun k hk => ?_⟩
    have : [s0, s1, s2, s3, s4, s5, s6, s7, s8, s9, s10, s11, s12, s13, s14, s15].getD k (ByteArray.mk #[]) = ByteArray.mk #[] := by
      rw [List.getD_eq_getElem?_getD, List.getElem?_eq_none hk]; rfl
    show ([s0, s1, s2, s3, s4, s5, s6, s7, s8, s9, s10, s11, s12, s13, s14, s15].getD k (ByteArray.mk #[])).size ≤ 64
    rw [this]; decide
theorem walk {H : Type} {enc : TypeId × Value → H} {base : Nat} {spare : Nat → Bool} {held : Bool} {r : Reach} {b0 : Nat} (s : ByteArray) (v : Value) (W : World) {d : DataW H} {p : List MemPlace} (_ : s.size ≤ 140737488351232)
    (hv : Value.okWide Try.prog W r b0 tS v) (h : DataW.Trod enc Try.prog W base spare held tS v d p) :
    Calls Try.prog 3 #[.string s, v] W fun e w' => e = .returned (.bool true) ∧ RowKit.Below W.heap.size W w' := by
  obtain ⟨st, rfl, hst⟩ := style_open hv h
  exact walk_st hst
end Go.Proofs.Ytiganlecnpphmaa.LawPrColor
