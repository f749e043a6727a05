/- laws.FnFjTail is true for all texts: the walk. Its conditions: the texts are no longer than the form says. -/
import Derived.Test.YtkpnomdmnhhaoaaGreatDoorWh
import Derived.Test.YtkpnomdmnhhaoaaGreatDoorRows
namespace Go.Proofs.YtkpnomdmnhhaoaaGreatDoor.LawFjTail
open Go Go.Proofs Go.RowKit Go.Proofs.YtkpnomdmnhhaoaaGreatDoor.Rx Go.Proofs.YtkpnomdmnhhaoaaGreatDoor.Tr Go.Proofs.YtkpnomdmnhhaoaaGreatDoor.Pl Go.Proofs.YtkpnomdmnhhaoaaGreatDoor.Pw Go.Proofs.YtkpnomdmnhhaoaaGreatDoor.Nt Go.Proofs.YtkpnomdmnhhaoaaGreatDoor.Zv Go.Proofs.YtkpnomdmnhhaoaaGreatDoor.Sk Go.Proofs.YtkpnomdmnhhaoaaGreatDoor.Zs
open Go.Proofs.YtkpnomdmnhhaoaaGreatDoor.Sr (Sl slV places)
open Go.Proofs.YtkpnomdmnhhaoaaGreatDoor.Zu (PdV pd)
open Go.Proofs.YtkpnomdmnhhaoaaGreatDoor.Ed (mvP Nst sh)

variable {w w' : World} {u y : ByteArray} {p : PT}
abbrev cW : ByteArray := ByteArray.mk #[44]
abbrev bW : ByteArray := ByteArray.mk #[32]
/-- What is asked of the first text. -/
structure Ft (u : ByteArray) (p : PT) : Prop where
  sz : u.size ≤ 4000
  pd : pd u 0 = true
  at0 : bl u 0 = p.b
  wf : WfV u p
  fin : bl u p.e = u.size
  lv : lv p ≤ 300
theorem nst44 : Nst 44 := ⟨by decide, by decide, by decide, by decide⟩
theorem nst32 : Nst 32 := ⟨by decide, by decide, by decide, by decide⟩
theorem isB32 : isB 32 = true := by decide
theorem app0 {y : ByteArray} : bt (u ++ y) (u.size : Int) = bt y (0 : Int) := bt_app2 (x := u) (y := y) (j := 0)
theorem Ft.pdv (h : Ft u p) : PdV u p := (Zu.pd_val p h.wf (by rw [← h.at0, ← Zu.pd_bl (Nat.zero_le _)]; exact h.pd)).1
theorem Ft.lt (h : Ft u p) : bl u 0 < u.size := by have := h.wf.lt; rw [h.at0]; omega
/-- Behind a comma. -/
theorem comma (h : Ft u p) (x : ByteArray) (hx : x.size ≤ 4000) : (u ++ (cW ++ x)).size ≤ 100000 ∧ bl (u ++ (cW ++ x)) 0 = p.b ∧ WfV (u ++ (cW ++ x)) p ∧ bl (u ++ (cW ++ x)) p.e < (u ++ (cW ++ x)).size ∧ isN (bt (u ++ (cW ++ x)) (p.e : Int)) = false := by
  have hl := h.wf.lt
  have hsz := h.sz
  have hc0 : bt (cW ++ x) (0 : Int) = 44 := bt_app1 (x := cW) (y := x) (j := 0) (by decide)
  have hz : (u ++ (cW ++ x)).size = u.size + (1 + x.size) := by rw [ByteArray.size_append, ByteArray.size_append]; rfl
  have hbl : bl (u ++ (cW ++ x)) p.e = u.size := bl_app hl.2 h.fin (Nat.le_refl _) (fun j h1 h2 => by omega) (by rw [app0, hc0]; decide)
  refine ⟨by omega, by rw [bl_app0 h.lt]; exact h.at0, wf_app h.wf (by rw [hc0]; exact nst44), by omega, ?_⟩
  exact delim (c := 44) (by rw [hbl, app0, hc0]) (by omega)
/-- Behind a blank, another text. -/
theorem blank2 (h : Ft u p) {x : ByteArray} {p1 : PT} (h1 : Ft x p1) : (u ++ (bW ++ x)).size ≤ 100000 ∧ bl (u ++ (bW ++ x)) 0 = p.b ∧ WfV (u ++ (bW ++ x)) p ∧ bl (u ++ (bW ++ x)) p.e < (u ++ (bW ++ x)).size ∧ isN (bt (u ++ (bW ++ x)) (p.e : Int)) = false := by
  have hl := h.wf.lt
  have hl1 := h1.wf.lt
  have hsz := h.sz
  have hsz1 := h1.sz
  have hc0 : bt (bW ++ x) (0 : Int) = 32 := bt_app1 (x := bW) (y := x) (j := 0) (by decide)
  have hc1 : ∀ j : Nat, bt (u ++ (bW ++ x)) ((u.size + (1 + j) : Nat) : Int) = bt x (j : Int) := fun j => by
    rw [bt_app2]
    exact bt_app2 (x := bW) (y := x) (j := j)
  have hz : (u ++ (bW ++ x)).size = u.size + (1 + x.size) := by rw [ByteArray.size_append, ByteArray.size_append]; rfl
  have hst := start_byte h1.wf
  have hbl : bl (u ++ (bW ++ x)) p.e = u.size + (1 + p1.b) := by
    refine bl_app hl.2 h.fin (by omega) (fun j g1 g2 => ?_) ?_
    · rcases Nat.eq_zero_or_pos (j - u.size) with g | g
      · have : j = u.size := by omega
        rw [this, app0, hc0]; exact isB32
      · have : j = u.size + (1 + (j - u.size - 1)) := by omega
        rw [this, hc1]
        exact bl_blank x 0 _ (Nat.zero_le _) (by rw [h1.at0]; omega)
    · rw [hc1]
      exact isB_no (by unfold St at hst; omega)
  have hwf := wf_app (y := bW ++ x) h.wf (by rw [hc0]; exact nst32)
  refine ⟨by omega, by rw [bl_app0 h.lt]; exact h.at0, hwf, by omega, ?_⟩
  exact isN_blank (bl_blank _ p.e p.e (Nat.le_refl _) (by omega))
/-- Behind a blank, another blank. -/
theorem blank1 (h : Ft u p) : (u ++ (bW ++ bW)).size ≤ 100000 ∧ Whole (u ++ (bW ++ bW)) p ∧ PdV (sfx (u ++ (bW ++ bW)) p.b) (mvP p.b 0 p) := by
  have hl := h.wf.lt
  have hsz := h.sz
  have hc0 : bt (bW ++ bW) (0 : Int) = 32 := bt_app1 (x := bW) (y := bW) (j := 0) (by decide)
  have hc1 : bt (bW ++ bW) (1 : Int) = 32 := bt_app2 (x := bW) (y := bW) (j := 0)
  have hz : (u ++ (bW ++ bW)).size = u.size + 2 := by rw [ByteArray.size_append]; rfl
  have hbl : bl (u ++ (bW ++ bW)) p.e = u.size + 2 := by
    refine bl_app hl.2 h.fin (by omega) (fun j g1 g2 => ?_) ?_
    · have : j = u.size ∨ j = u.size + 1 := by omega
      rcases this with rfl | rfl
      · rw [app0, hc0]; exact isB32
      · rw [bt_app2]
        have : bt (bW ++ bW) ((1 : Nat) : Int) = 32 := hc1
        rw [this]; exact isB32
    · rw [bt_end (by omega)]; decide
  refine ⟨by omega, ⟨by rw [bl_app0 h.lt]; exact h.at0, wf_app h.wf (by rw [hc0]; exact nst32), by rw [hbl, hz]⟩, ?_⟩
  refine pdv_mv (s := u) (v := p.b) (fun n h1 h2 h3 => ?_) p h.wf (Nat.le_refl _) h.pdv
  rw [Zf.ext_sfx, ext_app (by unfold sh; omega)]
  unfold sh
  rw [show p.b + (n.1 + 0 - p.b + 1) = n.1 + 1 by omega, show p.b + (n.2 + 0 - p.b - 1) = n.2 - 1 by omega]
theorem ft_of {nt : NT} {B : Nat → Prop} {a b : Sl} {r : Bool} (hr : r = true → u.size ≤ 4000 ∧ pd u 0 = true ∧ ∃ p, places u = some p ∧ nt = treeN u p ∧ depN nt ≤ 250 ∧ NdAt B w nt (nc nt.k nt.t a b)) (h : r = true) : ∃ p, Ft u p := by
  obtain ⟨hsz, hpd, p, hp, hnt, hdep, _⟩ := hr h
  obtain ⟨g1, g2, g3⟩ := Lj.places_of hp
  have := lv_dep u _ p (Nat.lt_succ_self _) g2
  rw [← hnt] at this
  exact ⟨p, hsz, hpd, g1, g2, g3, by omega⟩
theorem walk (q0 q1 : ByteArray) (q2 : Bool) (w : World) (h0 : q0.size ≤ 140737488351232) (h1 : q1.size ≤ 140737488351232) (_ : laidMetH Tryz.prog Rows.fnFjTailRow.laid w) :
    Calls Tryz.prog 4 #[.string q0, .string q1, .bool q2] w fun e w' => e = .returned (.bool true) ∧ RowKit.Below w.heap.size w w' := by
  refine laws_FnFjTail.calls _ _ _ ?_
  unfold laws_FnFjTail.t
  have done : ∀ (w1 : World), Kp Off w w1 → ((0 : Nat) = 0 ∧ Ending.returned (retVal [.bool true]) = .returned (.bool true) ∧ RowKit.Below w.heap.size w w1) := fun w1 h => ⟨rfl, rfl, h.belowOff⟩
  refine s_cut (fun z w' => (∃ b : Bool, z = (b, ())) ∧ w = w') (s_iteD (fun _ => s_leaf ?_) (fun _ => s_leaf ?_)) ?_
  · rw [if_pos rfl]; exact ⟨(true, ()), rfl, ⟨true, rfl⟩, rfl⟩
  · rw [if_pos rfl]; exact ⟨(_, ()), rfl, ⟨_, rfl⟩, rfl⟩
  rintro z w1 ⟨⟨b, rfl⟩, rfl⟩
  show sat _ (laws_FnFjTail.t1 q0 q1 q2 b) _ _
  unfold laws_FnFjTail.t1
  refine s_ite (fun _ => s_leaf (done w (Kp.refl _ _))) (fun _ => ?_)
  have node : ∀ {w1 : World} {m : NT} {a b : Sl}, Kp Off w w1 → ∀ {K : Addr → T}, (∀ w2, Kp Off w w2 → sat Tryz.prog (K ⟨w1.heap.size, 0, none⟩) (fun l vs w' => l = 0 ∧ Ending.returned (retVal vs) = .returned (.bool true) ∧ RowKit.Below w.heap.size w w') w2) →
      sat Tryz.prog (.alloc (Obj.cells zn.toArray tN (0, 0)) fun z => .effU (Instr.storeAt tN (Value.pointer (some z)) (.agg (nc m.k m.t a b).toArray)) (K z)) (fun l vs w' => l = 0 ∧ Ending.returned (retVal vs) = .returned (.bool true) ∧ RowKit.Below w.heap.size w w') w1 := fun {w1} {m} {a} {b} k1 {K} hK => by
    refine s_alloc ?_
    have b0 := Blk.new w1 zn tN
    have k2 : Kp Off w1 (w1.alloc (.cells zn.toArray tN (0, 0))) := (Kp.refl Off w1).alloc _
    generalize w1.alloc (.cells zn.toArray tN (0, 0)) = w2 at b0 k2
    obtain ⟨w3, h3, b3, k3⟩ := storeN b0 rfl m.k m.t a b
    have hz1 := k1.size
    exact s_effU h3 (hK w3 ((k1.trans k2).then k3 fun q hq e => by have : q = w1.heap.size := e; omega))
  refine s_call (fjText_any (by omega)) ?_
  rintro e w1 ⟨nt, a, b, r, rfl, hr, k1⟩
  refine ⟨(((nt.k : Int), nt.t, a, b, ()), r, ()), rfl, node k1 fun w2 k2 => ?_⟩
  refine s_call (fjText_any (by omega)) ?_
  rintro e w3 ⟨nt', a', b', r', rfl, hr', k3⟩
  refine ⟨(((nt'.k : Int), nt'.t, a', b', ()), r', ()), rfl, node (k2.trans k3) fun w4 k4 => ?_⟩
  have hwr : IntKind.wrap IntKind.i64 (((q0.size : Nat) : Int) + ((q1.size : Nat) : Int)) = ((q0.size + q1.size : Nat) : Int) := by rw [wrap_in (by omega) (by omega)]; omega
  rw [hwr]
  refine s_cut (fun z w' => ∃ b5 : Bool, z = (b5, ()) ∧ (b5 = false → r = true ∧ r' = true ∧ q0.size + q1.size ≤ 4000) ∧ w' = w4) (s_ite (fun _ => s_leaf ?_) (fun hrf => s_ite (fun _ => s_leaf ?_) (fun hrf' => s_leaf ?_))) ?_
  · rw [if_pos rfl]; exact ⟨(true, ()), rfl, true, rfl, (fun h => by cases h), rfl⟩
  · rw [if_pos rfl]; exact ⟨(true, ()), rfl, true, rfl, (fun h => by cases h), rfl⟩
  · rw [if_pos rfl]
    refine ⟨(decide (((q0.size + q1.size : Nat) : Int) > 4000), ()), rfl, _, rfl, fun h => ⟨?_, ?_, ?_⟩, rfl⟩
    · cases r with | true => rfl | false => cases hrf
    · cases r' with | true => rfl | false => cases hrf'
    · have := of_decide_eq_false h; omega
  rintro z w5 ⟨b5, rfl, hb5, rfl⟩
  show sat _ (laws_FnFjTail.t2 q0 q1 q2 b5) _ _
  unfold laws_FnFjTail.t2
  refine s_ite (fun _ => s_leaf (done w5 k4)) (fun hf => ?_)
  obtain ⟨g1, g2, g3⟩ := hb5 hf
  obtain ⟨p, hp⟩ := ft_of hr g1
  obtain ⟨p1, hp1⟩ := ft_of hr' g2
  have hsz := hp.sz
  have hsz1 := hp1.sz
  refine s_cut (fun z w' => ∃ s6 : ByteArray, z = (s6, ()) ∧ s6 = (if q2 = true then bW else cW) ∧ w' = w5) (s_ite (fun hq => s_leaf ?_) (fun hq => s_leaf ?_)) ?_
  · rw [if_pos rfl]; exact ⟨(bW, ()), rfl, bW, rfl, by rw [if_pos hq], rfl⟩
  · rw [if_pos rfl]; exact ⟨(cW, ()), rfl, cW, rfl, by rw [if_neg (by rw [show q2 = false from hq]; decide)], rfl⟩
  rintro z w6 ⟨s6, rfl, hs6, rfl⟩
  show sat _ (laws_FnFjTail.t3 q0 q1 q2 s6) _ _
  unfold laws_FnFjTail.t3
  have hs6z : s6.size = 1 := by rw [hs6]; split <;> rfl
  have hcs : ∀ x : ByteArray, (q0 ++ s6 ++ x) = q0 ++ (s6 ++ x) := fun x => ByteArray.append_assoc
  have c1 : q0.size + s6.size ≤ 9223372036854775807 := by omega
  have c2 : (q0 ++ s6).size + q1.size ≤ 9223372036854775807 := by rw [ByteArray.size_append]; omega
  have c3 : (q0 ++ s6).size + 1 ≤ 9223372036854775807 := by rw [ByteArray.size_append]; omega
  -- the text with a second one behind it
  have two : (q0 ++ (s6 ++ q1)).size ≤ 100000 ∧ bl (q0 ++ (s6 ++ q1)) 0 = p.b ∧ WfV (q0 ++ (s6 ++ q1)) p ∧ bl (q0 ++ (s6 ++ q1)) p.e < (q0 ++ (s6 ++ q1)).size ∧ isN (bt (q0 ++ (s6 ++ q1)) (p.e : Int)) = false := by
    by_cases hq : q2 = true
    · rw [if_pos hq] at hs6
      rw [hs6]; exact blank2 hp hp1
    · rw [if_neg hq] at hs6
      rw [hs6]; exact comma hp q1 hsz1
  obtain ⟨t1, t2, t3, t4, t5⟩ := two
  refine s_chk c1 (s_chk c2 ?_)
  rw [hcs q1, hcs bW]
  refine s_call (fjRead_err t1 t2 t3 (by omega) (fun _ => t5) hp.lv) ?_
  rintro e w7 ⟨⟨m, am, bm, rfl⟩, k7⟩
  refine ⟨(((m.k : Int), m.t, am, bm, ()), false, ()), rfl, node (k4.trans k7) fun w8 k8 => s_chk c1 (s_chk c3 ?_)⟩
  have one : Calls Tryz.prog 10 #[.string (q0 ++ (s6 ++ bW))] w8 fun e w' => (∃ (m : NT) (a b : Sl), e = .returned (.tuple #[.agg (nc m.k m.t a b).toArray, .bool q2])) ∧ Kp Off w8 w' := by
    by_cases hq : q2 = true
    · rw [if_pos hq] at hs6
      rw [hs6, hq]
      obtain ⟨d1, d2, d3⟩ := blank1 hp
      exact fjRead_ok d1 d2 hp.lv d3
    · rw [if_neg hq] at hs6
      have hq : q2 = false := by cases q2 with | true => exact absurd rfl hq | false => rfl
      rw [hs6, hq]
      obtain ⟨d1, d2, d3, d4, d5⟩ := comma hp bW (by decide)
      exact fjRead_err d1 d2 d3 (by omega) (fun _ => d5) hp.lv
  refine s_call one ?_
  rintro e w9 ⟨⟨m', am', bm', rfl⟩, k9⟩
  refine ⟨(((m'.k : Int), m'.t, am', bm', ()), q2, ()), rfl, node (k8.trans k9) fun w10 k10 => sat_iteT.2 ?_⟩
  refine s_ite (fun _ => s_chk c1 (s_chk c2 ?_)) (fun g => by
    have g : (q2 == q2) = false := g
    cases q2 <;> cases g)
  refine s_call (fjValid_err t1 t2 t3 t4) ?_
  rintro e w11 ⟨rfl, k11⟩
  exact ⟨false, rfl, s_leaf (done w11 (k10.trans k11))⟩
end Go.Proofs.YtkpnomdmnhhaoaaGreatDoor.LawFjTail
