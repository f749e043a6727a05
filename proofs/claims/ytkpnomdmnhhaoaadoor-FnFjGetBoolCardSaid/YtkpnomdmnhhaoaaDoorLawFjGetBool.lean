/- laws.FnFjGetBool is true for every text and every keys: the walk. Its conditions: the text is no longer than the form says, the keys are a row of strings, strconv's two error variables hold what is laid. -/
import Derived.Test.YtkpnomdmnhhaoaaDoorZb
import Derived.Test.YtkpnomdmnhhaoaaDoorRows
import Derived.Lib.LaidTab
import Derived.Stop.LaidErr
import Derived.OpenShut
import Derived.Deep.Strs
namespace Go.Proofs.YtkpnomdmnhhaoaaDoor.LawFjGetBool
open Go Go.Proofs Go.RowKit Go.Proofs.YtkpnomdmnhhaoaaDoor.Rx Go.Proofs.YtkpnomdmnhhaoaaDoor.Tr Go.Proofs.YtkpnomdmnhhaoaaDoor.Pl Go.Proofs.YtkpnomdmnhhaoaaDoor.Pw Go.Proofs.YtkpnomdmnhhaoaaDoor.Nt Go.Proofs.YtkpnomdmnhhaoaaDoor.Zv Go.Proofs.YtkpnomdmnhhaoaaDoor.Zf
open Go.Proofs.YtkpnomdmnhhaoaaDoor.Sr (Sl slV places)
open Go.Proofs.YtkpnomdmnhhaoaaDoor.Zu (PdV pd)
open Go.Proofs.YtkpnomdmnhhaoaaDoor.Ed (mvP)
open Go.ChangeShapes Go.WideShapes

variable {w w' : World} {s : ByteArray} {p : PT} {q : Sl} {keys : List ByteArray}
/-- Whether a value that was found is true. -/
def isT : Option NT → Bool
  | some n => decide (n.k = 2)
  | none => false
theorem getBool_any {w0 : World} {v : Nat × Nat} {F : Nat × Nat → Prop} (hs : s.size ≤ 100000) (hw : WfV s p) (hp : PdV s p) (hV : VAt s w p v F) (hF : ∀ y, F y → w0.heap.size ≤ y.1 ∧ y.1 < w.heap.size) (k0 : Kp Off w0 w)
    (hK : Kx w0 q keys) (hkl : keys.length ≤ 1000000) (hkeys : ∀ key ∈ keys, key.size ≤ 100000 ∧ KeyOk key) (e0 : Ev w0 0) (e1 : Ev w0 1) :
    Calls Tryd.prog 21 #[ptrV v, slV q] w fun e w' => (∃ r, FindR (treeN s p) keys r ∧ e = .returned (.bool (isT r))) ∧ Kp Off w0 w' := by
  refine fastjson_Value_GetBool.calls _ _ _ _ ?_
  unfold fastjson_Value_GetBool.t
  refine s_call (get_any hs hw hp hV hF k0 hK hkl hkeys e0 e1) ?_
  rintro e w1 ⟨⟨r, hr, ⟨rfl, rfl⟩ | ⟨c, u, F', rfl, hVc, _, hwc, _, rfl⟩⟩, k1⟩
  · exact ⟨none, rfl, sat_iteF.2 (s_leaf ⟨rfl, ⟨none, hr, rfl⟩, k1⟩)⟩
  · obtain ⟨kvs, a, hC⟩ := hVc.cells
    have hk := (kind_is (wf_k hwc)).2.2
    refine ⟨some ⟨u.1, u.2, none⟩, rfl, sat_iteT.2 (s_ptr (s_load (kindN c.k) (by rw [addr_add]; exact (hC 4 _ rfl).1) (s_iteE (fun g => s_leaf ?_) (fun g => s_leaf ?_))))⟩
    · refine ⟨rfl, ⟨_, hr, ?_⟩, k1⟩
      show _ = Ending.returned (.bool (decide ((treeN s c).k = 2)))
      rw [treeN_k, decide_eq_true (hk.1 g)]; rfl
    · refine ⟨rfl, ⟨_, hr, ?_⟩, k1⟩
      show _ = Ending.returned (.bool (decide ((treeN s c).k = 2)))
      rw [treeN_k, decide_eq_false (fun h => g (hk.2 h))]; rfl
theorem fjGetBool_any (hs : s.size ≤ 100000) (hp : Whole s p) (hlv : lv p ≤ 300) (hpd : pd s 0 = true) (hK : Kx w q keys) (hkl : keys.length ≤ 1000000) (hkeys : ∀ key ∈ keys, key.size ≤ 100000 ∧ KeyOk key) (e0 : Ev w 0) (e1 : Ev w 1) :
    Calls Tryd.prog 10 #[.string s, slV q] w fun e w' => (∃ r, FindR (treeN s p) keys r ∧ e = .returned (.bool (isT r))) ∧ Kp Off w w' := by
  obtain ⟨hb, hw, _⟩ := id hp
  have hl := hw.lt
  have hz := Pl.sfx_size s p.b
  obtain ⟨hw', hp'⟩ := wf_mv hw hpd hb
  refine impl_FjGetBool.calls _ _ _ _ ?_
  unfold impl_FjGetBool.t
  refine s_alloc ?_
  have b0 := Blk.new w [slV (none, 0, 0), slV (none, 0, 0)] tPr
  have k0 : Kp Off w (w.alloc (.cells [slV (none, 0, 0), slV (none, 0, 0)].toArray tPr (0, 0))) := (Kp.refl Off w).alloc _
  show sat _ _ _ (w.alloc (.cells [slV (none, 0, 0), slV (none, 0, 0)].toArray tPr (0, 0)))
  generalize w.alloc (.cells [slV (none, 0, 0), slV (none, 0, 0)].toArray tPr (0, 0)) = w1 at b0 k0
  refine s_call (parse_whole hs hp hlv b0) ?_
  rintro e w2 ⟨x1, v, rfl, hV, k2⟩
  have k2' : Kp Off w w2 := k0.then k2 fun q hq e => by have e : q = w.heap.size := e; omega
  have hs1 := k0.size
  refine ⟨(some ⟨v.1, v.2, none⟩, .nilIface, ()), rfl, s_chk rfl (sat_iteF.2 ?_)⟩
  refine s_call (getBool_any (w0 := w) (by omega) hw' hp' hV (fun y hy => ⟨by have := reg_new hy; omega, hy.2.1⟩) k2' hK hkl hkeys e0 e1) ?_
  rintro e w3 ⟨⟨r, hr, rfl⟩, k3⟩
  rw [tree_sfx p hw (Nat.le_refl _)] at hr
  exact ⟨isT r, rfl, s_leaf ⟨rfl, ⟨r, hr, rfl⟩, k3⟩⟩
/-- The text [true]. -/
def oneT : ByteArray := ByteArray.mk #[91, 116, 114, 117, 101, 93]
def zeroK : ByteArray := ByteArray.mk #[48]
def oneP : PT := .mk 5 0 6 [] [.mk 2 1 5 [] []]
theorem one_whole : Whole oneT oneP := by
  have hb0 : bl oneT 0 = 0 := bl_no rfl
  have hb1 : bl oneT 1 = 1 := bl_no rfl
  have hb5 : bl oneT 5 = 5 := bl_no rfl
  refine ⟨hb0, ?_, bl_no rfl⟩
  unfold oneP WfV
  refine ⟨by decide, by decide, .inr (.inr (.inl ⟨rfl, rfl, rfl, ?_⟩))⟩
  unfold WfE
  refine ⟨?_, ?_, ?_⟩
  · rw [if_pos rfl]; exact hb1.symm
  · unfold WfV
    refine ⟨by decide, by decide, .inl ⟨rfl, rfl, fun j h1 h2 => ?_, .inr (.inr (.inr ⟨rfl, ?_, rfl⟩))⟩⟩
    · have : j = 1 ∨ j = 2 ∨ j = 3 ∨ j = 4 := by omega
      rcases this with rfl | rfl | rfl | rfl <;> rfl
    · unfold wordB
      have e : oneT.extract 1 (1 + trueW.size) = trueW := by decide
      rw [e, strEq_iff.2 rfl]; rfl
  · unfold WfE
    show bt oneT (bl oneT 5 : Int) = 93 ∧ 6 = bl oneT 5 + 1
    rw [hb5]; exact ⟨rfl, rfl⟩
theorem one_pd : pd oneT 0 = true := by
  rw [Zu.pd_gap (s := oneT) (a := 0) (b := 6) rfl (by decide) (by decide) (fun j _ hj => ?_)]
  · exact Zu.pd_end (by decide)
  · have : j = 0 ∨ j = 1 ∨ j = 2 ∨ j = 3 ∨ j = 4 ∨ j = 5 := by omega
    rcases this with rfl | rfl | rfl | rfl | rfl | rfl <;> decide
theorem one_find {r : Option NT} (h : FindR (treeN oneT oneP) [zeroK] r) : isT r = true := by
  have hix : ixK zeroK = some 0 := by unfold ixK; rw [if_neg (by decide)]; rfl
  have e1 : treeN oneT oneP = .mk 5 (ByteArray.mk #[]) [] [.mk 2 (ByteArray.mk #[]) [] []] := by unfold oneP; simp only [treeN, treeL]; rfl
  rw [e1] at h
  have hf : FindR (.mk 5 (ByteArray.mk #[]) [] [.mk 2 (ByteArray.mk #[]) [] []]) [zeroK] (some (.mk 2 (ByteArray.mk #[]) [] [])) := FindR.hit (.inr ⟨rfl, 0, hix, rfl⟩) (FindR.fin _)
  have hu : UqN (.mk 5 (ByteArray.mk #[]) [] [.mk 2 (ByteArray.mk #[]) [] []]) := by
    unfold UqN UqL UqN UqL
    exact ⟨fun i j x h => by simp at h, ⟨fun i j x h => by simp at h, trivial⟩, trivial⟩
  rw [FindR.det hu h hf]; rfl
theorem key_zero : KeyOk zeroK := .inr (.inl (by unfold ixK; rw [if_neg (by decide)]; rfl))
/-- The call of the law's end. -/
theorem one_any {Q : Nat → List Value → World → Prop} {K : Sh.bool.Ty → T} (e0 : Ev w 0) (e1 : Ev w 1) (hK : ∀ w', Kp Off w w' → sat Tryd.prog (K true) Q w') :
    sat Tryd.prog (.eff (Instr.buildSlice tSs 1 #[(0, (Value.string zeroK))]) .slice fun z => .call 10 #[.string oneT, slV z] .bool K) Q w := by
  have hb := build1 (P := Tryd.prog) (w := w) (t := tSs) (e := tStr) (size := 1) Tryd.underlying22 (info_some (by kernel_rfl)) (by kernel_rfl : _ = some (Value.string (ByteArray.mk #[]))) (by kernel_rfl) (by decide) (by decide) (.string zeroK) [.string zeroK] rfl rfl
  have kn : Kp Off w (w.alloc (.cells [Value.string zeroK].toArray tStr)) := (Kp.refl Off w).alloc _
  have bn : Blk (w.alloc (.cells [Value.string zeroK].toArray tStr)) w.heap.size [.string zeroK] tStr := Blk.new w [.string zeroK] tStr
  generalize w.alloc (.cells [Value.string zeroK].toArray tStr) = w1 at hb kn bn
  refine s_eff (w' := w1) (some ⟨w.heap.size, 0, none⟩, 1, 1) hb ?_
  have hk : Kx w1 (some ⟨w.heap.size, 0, none⟩, 1, 1) [zeroK] := ⟨rfl, Nat.le_refl _, .inr ⟨w.heap.size, 0, rfl, bn.lt, fun j key hj => by
    cases j with
    | zero => cases hj; exact bn.cell 0
    | succ j => simp at hj⟩⟩
  refine s_call (fjGetBool_any (s := oneT) (by decide) one_whole (by decide) one_pd hk (by decide) (fun key hkey => by
    simp only [List.mem_singleton] at hkey
    subst hkey
    exact ⟨by decide, key_zero⟩) (e0.kp kn) (e1.kp kn)) ?_
  rintro e w2 ⟨⟨r, hr, rfl⟩, k2⟩
  exact ⟨isT r, rfl, by rw [one_find hr]; exact hK w2 (kn.trans k2)⟩
theorem walk_q {W : World} (hs : s.size < 4611686018427387904) (hK : Kx W q keys) (e0 : Ev W 0) (e1 : Ev W 1) :
    Calls Tryd.prog 4 #[.string s, slV q] W fun e w' => e = .returned (.bool true) ∧ RowKit.Below W.heap.size W w' := by
  refine laws_FnFjGetBool.calls _ _ _ _ ?_
  unfold laws_FnFjGetBool.t
  have done : ∀ (w1 : World), Kp Off W w1 → ((0 : Nat) = 0 ∧ Ending.returned (retVal [.bool true]) = .returned (.bool true) ∧ RowKit.Below W.heap.size W w1) := fun w1 h => ⟨rfl, rfl, h.belowOff⟩
  refine s_cut (fun z w' => (∃ b : Bool, z = (b, ())) ∧ W = w') (s_iteD (fun _ => s_leaf ?_) (fun _ => ?_)) ?_
  · rw [if_pos rfl]; exact ⟨(true, ()), rfl, ⟨true, rfl⟩, rfl⟩
  · refine s_call (fits1_any hK) ?_
    rintro e w1 ⟨⟨b, rfl, _⟩, rfl⟩
    refine ⟨b, rfl, s_leaf ?_⟩
    rw [if_pos rfl]; exact ⟨(!b, ()), rfl, ⟨!b, rfl⟩, rfl⟩
  rintro z w1 ⟨⟨b, rfl⟩, rfl⟩
  show sat _ (laws_FnFjGetBool.t1 s q.1 q.2.1 q.2.2 b) _ _
  unfold laws_FnFjGetBool.t1
  refine s_ite (fun _ => s_leaf (done W (Kp.refl _ _))) (fun _ => ?_)
  refine s_call (fjLook_any hs hK) ?_
  rintro e w1 ⟨m, a, b', is, sp, rfl, hsp, k1⟩
  refine ⟨(((m.k : Int), m.t, a, b', ()), is, sp, ()), rfl, ?_⟩
  refine s_alloc ?_
  have b0 := Blk.new w1 zn tN
  have k2 : Kp Off w1 (w1.alloc (.cells zn.toArray tN (0, 0))) := (Kp.refl Off w1).alloc _
  show sat _ _ _ (w1.alloc (.cells zn.toArray tN (0, 0)))
  generalize w1.alloc (.cells zn.toArray tN (0, 0)) = w2 at b0 k2
  obtain ⟨w3, h3, b3, k3⟩ := storeN b0 rfl m.k m.t a b'
  have hz1 := k1.size
  have k03 : Kp Off W w3 := (k1.trans k2).then k3 fun q hq e => by have : q = w1.heap.size := e; omega
  refine s_effU h3 (s_ite (fun _ => s_leaf (done w3 k03)) (fun hspf => ?_))
  have hspt : sp = true := by cases sp with | true => rfl | false => cases hspf
  obtain ⟨hsz, hpd, hkl, hkk, p, hp, hdep, huq, r, hfr, rfl, hm⟩ := hsp hspt
  obtain ⟨g1, g2, g3⟩ := Lj.places_of hp
  have hlv : lv p ≤ 300 := by
    have := lv_dep s _ p (Nat.lt_succ_self _) g2
    omega
  refine s_call (fjGetBool_any (by omega) ⟨g1, g2, g3⟩ hlv hpd (hK.kp k03) (by omega) (fun key hk => ⟨by have := (hkk key hk).1; omega, (hkk key hk).2⟩) (e0.kp k03) (e1.kp k03)) ?_
  rintro e w4 ⟨⟨r', hr', rfl⟩, k4⟩
  have hrr : r' = r := FindR.det huq hr' hfr
  subst hrr
  have k04 := k03.trans k4
  have b4 := k4.blk b3 id
  refine ⟨isT r', rfl, ?_⟩
  cases r' with
  | none =>
    refine sat_iteF.2 (sat_iteT.2 ?_)
    exact one_any (e0.kp k04) (e1.kp k04) fun w5 k5 => s_leaf (done w5 (k04.trans k5))
  | some n =>
    have hmn := hm n rfl
    refine sat_iteT.2 (s_load (m.k : Int) (by rw [addr_add, b4.cell]; rfl) (s_ite (fun _ => ?_) (fun c => ?_)))
    · exact one_any (e0.kp k04) (e1.kp k04) fun w5 k5 => s_leaf (done w5 (k04.trans k5))
    · exfalso
      rw [hmn] at c
      have c : (decide (n.k = 2) == ((n.k : Int) == 2)) = false := c
      by_cases h2 : n.k = 2
      · rw [h2] at c; exact absurd c (by decide)
      · have e1 : ((n.k : Int) == 2) = false := beq_eq_false_iff_ne.2 (by omega)
        rw [decide_eq_false h2, e1] at c; cases c
/-! ## What is laid -/
abbrev tE : TypeId := 46
abbrev tPE : TypeId := 97
theorem laidMet_drop {P : Program} {w : World} : ∀ (n : Nat) (l : List (String × DataW Unit)), laidMet P l w → laidMet P (l.drop n) w
  | 0, _, h => h
  | _ + 1, [], h => h
  | n + 1, _ :: r, h => laidMet_drop n r (laidMet.tail h)
theorem laid_of_H {P : Program} {l : List (String × DataW Unit)} {W : World} (h : laidMetH P l W) (hn : (l.filter fun x => x.2.handleName?.isSome) = []) : laidMet P l W := by
  unfold laidMetH at h; rw [hn] at h; exact h
theorem star : "*" ++ "errors.errorString" = "*errors.errorString" := by decide
theorem type_errS (u : TypeId) (h : Tryd.prog.typeName? 3 u = some "*errors.errorString") : u = tPE :=
  typeName_ptr_named (nm := "errors.errorString") (by rw [star]; kernel_rfl) (by kernel_rfl) (by decide) u (by rw [star]; exact h)
theorem evS {w : World} {r : List (String × DataW Unit)} (h : laidMet Tryd.prog (("strconv.ErrSyntax", Rows.laid_strconv_ErrSyntax) :: r) w) : Ev w 0 := by
  obtain ⟨a, s, h, _⟩ := laid_sentinel h (g := 0) (by kernel_rfl) (by kernel_rfl : _ = some tE) Tryd.underlying46 type_errS Tryd.underlying97 Tryd.underlying99 rfl rfl Tryd.underlying9 (by kernel_rfl) (by kernel_rfl)
  exact ⟨_, _, World.var?_cell (by kernel_rfl) h 0⟩
theorem evR {w : World} {r : List (String × DataW Unit)} (h : laidMet Tryd.prog (("strconv.ErrRange", Rows.laid_strconv_ErrRange) :: r) w) : Ev w 1 := by
  obtain ⟨a, s, h, _⟩ := laid_sentinel h (g := 1) (by kernel_rfl) (by kernel_rfl : _ = some tE) Tryd.underlying46 type_errS Tryd.underlying97 Tryd.underlying99 rfl rfl Tryd.underlying9 (by kernel_rfl) (by kernel_rfl)
  exact ⟨_, _, World.var?_cell (by kernel_rfl) h 0⟩
set_option maxRecDepth 100000 in
/-- A row of strings, off a parameter. -/
theorem keys_open {H : Type} {enc : TypeId × Value → H} {W : World} {base : Nat} {spare : Nat → Bool} {held : Bool} {r : Reach} {b0 : Nat} {v : Value} {d : DataW H} {p : List MemPlace}
    (hv : Value.okWide Tryd.prog W r b0 tSs v) (h : DataW.Trod enc Tryd.prog W base spare held tSs v d p) : ∃ (q : Sl) (keys : List ByteArray), v = slV q ∧ Kx W q keys := by
  have hw := okWide_slice (P := Tryd.prog) (t := tSs) (e := 9) Tryd.underlying22 hv
  obtain ⟨a, len, cap, rfl⟩ := hw
  obtain ⟨fuel, hf⟩ := h
  rcases Deep.open_strs Tryd.underlying22 Tryd.underlying9 (by kernel_rfl) hf with ⟨h1, _⟩ | ⟨a', len', cap', m, Sx, h1, _, h3, h4, h5, _, h7⟩
  · have h1 : [Value.slice a len cap] = [.slice none 0 0] := h1
    cases h1
    exact ⟨(none, 0, 0), [], rfl, ⟨rfl, Nat.le_refl _, .inl rfl⟩⟩
  · have h1 : [Value.slice a len cap] = [.slice (some a') len' cap'] := h1
    cases h1
    have hlm : len ≤ m := by rw [h5]; split <;> omega
    refine ⟨(some a', len, cap), (List.range len).map Sx, rfl, ⟨by simp, h3, ?_⟩⟩
    rcases Nat.eq_zero_or_pos len with h0 | h0
    · left; subst h0; rfl
    · right
      obtain ⟨b, off, spot⟩ := a'
      have hspot : spot = none := by simpa [Addr.add] using World.cell?_spot (h7 0 (by omega)).1
      subst hspot
      have hc0 := (h7 0 (by omega)).1
      rw [addr_add] at hc0
      refine ⟨b, off, rfl, Ms.cell_lt hc0, fun j key hj => ?_⟩
      have hjl := (List.getElem?_eq_some_iff.1 hj).1
      rw [List.length_map, List.length_range] at hjl
      rw [List.getElem?_map, List.getElem?_range hjl] at hj
      cases hj
      have := (h7 j (by omega)).1
      rw [addr_add] at this
      exact this
set_option maxRecDepth 100000 in
theorem walk {H : Type} {enc : TypeId × Value → H} {base : Nat} {spare : Nat → Bool} {held : Bool} {r : Reach} {b0 : Nat} (s : ByteArray) (v : Value) (W : World) {d : DataW H} {p : List MemPlace} (hs : s.size ≤ 140737488351232)
    (hv : Value.okWide Tryd.prog W r b0 tSs v) (h : DataW.Trod enc Tryd.prog W base spare held tSs v d p) (hL : laidMetH Tryd.prog Rows.fnFjGetBoolRow.laid W) :
    Calls Tryd.prog 4 #[.string s, v] W fun e w' => e = .returned (.bool true) ∧ RowKit.Below W.heap.size W w' := by
  have hM := laid_of_H hL (by kernel_rfl)
  obtain ⟨q, keys, rfl, hK⟩ := keys_open hv h
  exact walk_q (by omega) hK (evS (laidMet_drop 4 _ hM)) (evR (laidMet_drop 3 _ hM))
end Go.Proofs.YtkpnomdmnhhaoaaDoor.LawFjGetBool
