/- match.match as a function of text and pattern; with a limit it gives that or tells that it stopped. No statement of the set is proved here. -/
import Derived.Test.YtlhhmgopfilgpaaDoorMs
namespace Go.Proofs.YtlhhmgopfilgpaaDoor.Ms
open Go Go.Proofs Go.RowKit Go.Proofs.YtlhhmgopfilgpaaDoor.Rx Go.Proofs.YtlhhmgopfilgpaaDoor.Tr Go.Proofs.YtlhhmgopfilgpaaDoor.Pl Go.Proofs.YtlhhmgopfilgpaaDoor.Ut

def stars (p : ByteArray) (k : Nat) : Nat := if k + 1 < p.size ∧ bn p (k + 1) = 42 then stars p (k + 1) else k
termination_by p.size - k
def Nc (s : ByteArray) : Nat := if s.size = 0 then 0 else (dc s 0).2
def Rc (s : ByteArray) : Nat := if s.size = 0 then 0 else (dc s 0).1
def starM (rec : ByteArray → ByteArray → Bool) (s q : ByteArray) : Bool :=
  if q.size = 1 then true
  else if (mts s q s.size q.size).2.2 = false then false
  else if (mts s q s.size q.size).2.1 = 1 then true
  else if rec (pfx s (mts s q s.size q.size).1) (sfx (pfx q (mts s q s.size q.size).2.1) 1) = true then true
  else if (mts s q s.size q.size).1 = 0 then false
  else rec (sfx (pfx s (mts s q s.size q.size).1) (Nc s)) (pfx q (mts s q s.size q.size).2.1)
/-- What match gives. -/
def M : Nat → ByteArray → ByteArray → Bool
  | 0, _, _ => false
  | f + 1, s, p =>
    if p.size = 0 then decide (s.size = 0)
    else if (dc p 0).1 = 63 then (if Nc s = 0 then false else M f (sfx s (Nc s)) (sfx p (dc p 0).2))
    else if (dc p 0).1 = 42 then starM (M f) s (sfx p (stars p 0))
    else if Nc s = 0 then false
    else if (dc p 0).1 = 92 then (if p.size ≤ (dc p 0).2 then false else if Rc s ≠ (dc p (dc p 0).2).1 then false else M f (sfx s (Nc s)) (sfx p ((dc p 0).2 + (dc p (dc p 0).2).2)))
    else if Rc s ≠ (dc p 0).1 then false else M f (sfx s (Nc s)) (sfx p (dc p 0).2)
theorem M_pos {f : Nat} {s p : ByteArray} (h : 0 < p.size) : M (f + 1) s p = if (dc p 0).1 = 63 then (if Nc s = 0 then false else M f (sfx s (Nc s)) (sfx p (dc p 0).2))
    else if (dc p 0).1 = 42 then starM (M f) s (sfx p (stars p 0))
    else if Nc s = 0 then false
    else if (dc p 0).1 = 92 then (if p.size ≤ (dc p 0).2 then false else if Rc s ≠ (dc p (dc p 0).2).1 then false else M f (sfx s (Nc s)) (sfx p ((dc p 0).2 + (dc p (dc p 0).2).2)))
    else if Rc s ≠ (dc p 0).1 then false else M f (sfx s (Nc s)) (sfx p (dc p 0).2) := by rw [M, if_neg (by omega)]
theorem Nc_le (s : ByteArray) : Nc s ≤ s.size := by
  unfold Nc; split
  · omega
  · have := dc_width (s := s) (i := 0) (by omega); omega
theorem Nc_zero {s : ByteArray} : Nc s = 0 ↔ s.size = 0 := by
  unfold Nc; split
  · simp [*]
  · have := dc_width (s := s) (i := 0) (by omega); constructor <;> intro <;> omega
theorem ascii_of {p : ByteArray} (h : 0 < p.size) (hr : (dc p 0).1 < 128) : bn p 0 = (dc p 0).1 ∧ (dc p 0).2 = 1 := by
  rcases dc_cases h with h1 | h1
  · have h2 := h1.one_iff.1 hr
    have h3 := h1.small h2
    exact ⟨h3.2.symm, h2⟩
  · rw [h1] at hr; simp only at hr; omega
theorem stars_spec {p : ByteArray} (h0 : bn p 0 = 42) : bn p (stars p 0) = 42 := by
  suffices h : ∀ n k, p.size - k = n → bn p k = 42 → bn p (stars p k) = 42 from h _ 0 rfl h0
  intro n
  induction n using Nat.strongRecOn with
  | _ n ih =>
    intro k hk hb
    rw [stars]
    split
    · rename_i h; exact ih (p.size - (k + 1)) (by omega) (k + 1) rfl h.2
    · exact hb
theorem stars_on {p : ByteArray} {k : Nat} (h : k + 1 < p.size) (h' : bn p (k + 1) = 42) : stars p k = stars p (k + 1) := by rw [stars, if_pos ⟨h, h'⟩]
theorem stars_end {p : ByteArray} {k : Nat} (h : ¬ (k + 1 < p.size ∧ bn p (k + 1) = 42)) : stars p k = k := by rw [stars, if_neg h]

/-- The counter: its block, where there is a limit. -/
def Cn (q3 : Option Addr) (q4 : Int) (w : World) : Prop := q4 ≤ -1 ∨ ∃ g c, q3 = some ⟨g, 0, none⟩ ∧ Blk w g [.int .i64 c] 3 ∧ g ≠ g1 ∧ g ≠ g2
def S4 (q3 : Option Addr) (q4 : Int) : Nat → Prop := fun k => -1 < q4 ∧ q3 = some ⟨k, 0, none⟩
theorem Cn.off {q3 : Option Addr} {q4 : Int} {w w' : World} (h : Cn q3 q4 w) (k : Kp Off w w') : Cn q3 q4 w' := by
  rcases h with h | ⟨g, c, h1, h2, h3⟩
  · exact .inl h
  · exact .inr ⟨g, c, h1, k.blk h2 id, h3⟩
theorem Tb.cn {q3 : Option Addr} {q4 : Int} {w w0 w' : World} (h : Tb w) (hc : Cn q3 q4 w0) (k : Kp (S4 q3 q4) w w') : Tb w' := by
  refine h.kp k ?_ ?_
  all_goals
    rintro ⟨h1, h2⟩
    rcases hc with g | ⟨g, c, e, _, n1, n2⟩
    · omega
    · rw [e] at h2
      simp only [Option.some.injEq, Addr.mk.injEq, and_true] at h2
      omega
def MPost (f : Nat) (s p : ByteArray) (q3 : Option Addr) (q4 : Int) (w : World) (e : Ending) (w' : World) : Prop :=
  (e = .returned (.int .i64 (if M f s p then 1 else 0)) ∨ (-1 < q4 ∧ e = .returned (.int .i64 2))) ∧ Kp (S4 q3 q4) w w' ∧ Cn q3 q4 w'
theorem extract_sfx (s : ByteArray) (k : Nat) : ByteArray.extract s (Int.toNat (k : Int)) (Int.toNat (((ByteArray.size s) : Nat) : Int)) = sfx s k := by
  rw [Int.toNat_natCast, Int.toNat_natCast]; rfl

theorem match_any : ∀ (f : Nat) (s p : ByteArray) (q2 q4 : Int) (q3 : Option Addr) (w : World), s.size + p.size < f → s.size < 4294967296 → p.size < 4294967296 → Tb w → Cn q3 q4 w →
    Calls Tryd.prog 55 #[.string s, .string p, .int .i64 q2, .pointer q3, .int .i64 q4, .bool false] w (MPost f s p q3 q4 w) := by
  intro f
  induction f using Nat.strongRecOn with
  | _ f ih =>
  intro s p q2 q4 q3 w hf hs hp hT hC
  refine match_match.calls _ _ _ _ _ _ ?_
  unfold match_match.t
  refine s_cut (fun _ w' => Kp (S4 q3 q4) w w' ∧ Cn q3 q4 w') ?_ ?_
  · refine s_iteD (fun h => ?_) (fun h => ?_)
    · rcases hC with hC | ⟨g, c, rfl, hb, n1, n2⟩
      · omega
      refine s_ptr (s_load c (hb.cell 0) ?_)
      refine s_iteD (fun h1 => ?_) (fun h1 => ?_)
      · refine s_leaf ?_
        rw [if_neg (by decide)]
        exact ⟨rfl, .inr ⟨h, rfl⟩, Kp.refl _ _, .inr ⟨g, c, rfl, hb, n1, n2⟩⟩
      · refine s_ptr (s_load c (hb.cell 0) (s_ptr (s_store (hb.cell 0) (hb.free 0) (s_leaf ?_))))
        rw [if_pos rfl]
        exact ⟨(), rfl, (Kp.refl _ _).set (a := ⟨g, 0, none⟩) ⟨h, rfl⟩ _, .inr ⟨g, _, rfl, hb.set 0 _, n1, n2⟩⟩
    · refine s_leaf ?_
      rw [if_pos rfl]
      exact ⟨(), rfl, Kp.refl _ _, hC⟩
  rintro _ w0 ⟨k0, hC0⟩
  simp only [match_match.t1]
  refine s_loop (fun n x w' => ∃ s' p' : ByteArray, x = (p', s', ()) ∧ s'.size + p'.size < n ∧ n ≤ f ∧ s'.size ≤ s.size ∧ p'.size ≤ p.size ∧ M n s' p' = M f s p ∧ Kp (S4 q3 q4) w w' ∧ Cn q3 q4 w') f (p, s, ()) rfl
    ⟨s, p, rfl, hf, Nat.le_refl _, Nat.le_refl _, Nat.le_refl _, rfl, k0, hC0⟩ ?_
  rintro n x w1 ⟨s1, p1, rfl, hm, hnf, hs1, hp1, hM, k1, hC1⟩
  obtain ⟨m, rfl⟩ : ∃ m, n = m + 1 := ⟨n - 1, by omega⟩
  have hT1 := hT.cn hC k1
  -- how a round ends
  have fin : ∀ (b : Bool) (w' : World), M f s p = b → Kp (S4 q3 q4) w w' → Cn q3 q4 w' → (fun l' vs w'' => if l' = 1 then ∃ n' x', vs = (Sh.cons .str (.cons .str .nil)).vals x' ∧ n' < m + 1 ∧ ∃ s' p' : ByteArray, x' = (p', s', ()) ∧ s'.size + p'.size < n' ∧ n' ≤ f ∧ s'.size ≤ s.size ∧ p'.size ≤ p.size ∧ M n' s' p' = M f s p ∧ Kp (S4 q3 q4) w w'' ∧ Cn q3 q4 w''
      else l' = 0 ∧ MPost f s p q3 q4 w (.returned (retVal vs)) w'') 0 [.int .i64 (if b then 1 else 0)] w' := by
    intro b w' hb k hc
    show if (0 : Nat) = 1 then _ else _
    rw [if_neg (by decide)]
    refine ⟨rfl, .inl ?_, k, hc⟩
    rw [hb]; rfl
  have on : ∀ (s2 p2 : ByteArray) (w' : World), s2.size + p2.size < s1.size + p1.size → s2.size ≤ s1.size → p2.size ≤ p1.size → M m s2 p2 = M f s p → Kp (S4 q3 q4) w w' → Cn q3 q4 w' → (fun l' vs w'' => if l' = 1 then ∃ n' x', vs = (Sh.cons .str (.cons .str .nil)).vals x' ∧ n' < m + 1 ∧ ∃ s' p' : ByteArray, x' = (p', s', ()) ∧ s'.size + p'.size < n' ∧ n' ≤ f ∧ s'.size ≤ s.size ∧ p'.size ≤ p.size ∧ M n' s' p' = M f s p ∧ Kp (S4 q3 q4) w w'' ∧ Cn q3 q4 w''
      else l' = 0 ∧ MPost f s p q3 q4 w (.returned (retVal vs)) w'') 1 [.string p2, .string s2] w' := by
    intro s2 p2 w' h1 h2 h3 h4 k hc
    show if (1 : Nat) = 1 then _ else _
    rw [if_pos rfl]
    exact ⟨m, (p2, s2, ()), rfl, by omega, s2, p2, rfl, by omega, by omega, by omega, by omega, h4, k, hc⟩
  simp only [match_match.t2]
  refine s_iteD (fun hpos => ?_) (fun hpos => ?_)
  rotate_left
  · have hz : p1.size = 0 := by omega
    have hv : M f s p = decide (s1.size = 0) := hM.symm.trans (by rw [M, if_pos hz])
    refine s_iteE (fun h => s_leaf ?_) (fun h => s_leaf ?_)
    · exact fin true w1 (by rw [hv]; exact decide_eq_true (by omega)) k1 hC1
    · exact fin false w1 (by rw [hv]; exact decide_eq_false (by omega)) k1 hC1
  have hp0 : 0 < p1.size := by omega
  have hM' := hM.symm.trans (M_pos hp0)
  have wpc : ∀ x : ByteArray, IntKind.wrap IntKind.i32 (bt x (0 : Int)) = ((bn x 0 : Nat) : Int) := fun x => by
    have h1 := bt_bn x 0
    have h2 := bn_lt x 0
    have h3 : bt x (0 : Int) = (bn x 0 : Int) := h1
    rw [h3, IntKind.wrap_i32]; omega
  refine s_chk (by omega) ?_
  refine s_cut (fun x w' => x = ((((dc p1 0).2 : Nat) : Int), (((dc p1 0).1 : Nat) : Int), ()) ∧ Kp Off w1 w') ?_ ?_
  · rw [wpc]
    refine s_iteD (fun h => ?_) (fun h => ?_)
    · refine s_call (decode_any hT1 hp0) ?_
      rintro e w2 ⟨rfl, k2⟩
      refine ⟨((((dc p1 0).1 : Nat) : Int), (((dc p1 0).2 : Nat) : Int), ()), rfl, s_leaf ?_⟩
      rw [if_pos rfl]
      exact ⟨((((dc p1 0).2 : Nat) : Int), (((dc p1 0).1 : Nat) : Int), ()), rfl, rfl, k2⟩
    · refine s_leaf ?_
      rw [if_pos rfl, dc_low (by omega)]
      exact ⟨(((1 : Nat) : Int), ((bn p1 0 : Nat) : Int), ()), rfl, rfl, Kp.refl _ _⟩
  rintro x w2 ⟨rfl, k2⟩
  have hT2 := hT1.off k2
  have hC2 := hC1.off k2
  have k02 := k1.trans k2.off
  simp only [match_match.t3]
  refine s_cut (fun x w' => x = ((Nc s1 : Int), (Rc s1 : Int), ()) ∧ Kp Off w2 w') ?_ ?_
  · refine s_iteD (fun h => ?_) (fun h => ?_)
    · refine s_chk (by omega) ?_
      have e1 : Nc s1 = (dc s1 0).2 := by unfold Nc; rw [if_neg (by omega)]
      have e2 : Rc s1 = (dc s1 0).1 := by unfold Rc; rw [if_neg (by omega)]
      rw [wpc]
      refine s_cut (fun x w' => x = ((Nc s1 : Int), (Rc s1 : Int), ()) ∧ Kp Off w2 w') ?_ ?_
      · refine s_iteD (fun h => ?_) (fun h => ?_)
        · refine s_call (decode_any hT2 (by omega)) ?_
          rintro e w3 ⟨rfl, k3⟩
          refine ⟨((((dc s1 0).1 : Nat) : Int), (((dc s1 0).2 : Nat) : Int), ()), rfl, s_leaf ?_⟩
          rw [if_pos rfl]
          exact ⟨((((dc s1 0).2 : Nat) : Int), (((dc s1 0).1 : Nat) : Int), ()), rfl, by rw [e1, e2]; rfl, k3⟩
        · refine s_leaf ?_
          rw [if_pos rfl]
          refine ⟨(((1 : Nat) : Int), ((bn s1 0 : Nat) : Int), ()), rfl, ?_, Kp.refl _ _⟩
          rw [e1, e2, dc_low (by omega)]; rfl
      · rintro x w3 ⟨rfl, k3⟩
        simp only [match_match.t4]
        refine s_leaf ?_
        rw [if_pos rfl]
        exact ⟨((Nc s1 : Int), (Rc s1 : Int), ()), rfl, rfl, k3⟩
    · refine s_leaf ?_
      rw [if_pos rfl]
      refine ⟨(((0 : Nat) : Int), ((0 : Nat) : Int), ()), rfl, ?_, Kp.refl _ _⟩
      unfold Nc Rc
      rw [if_pos (by omega), if_pos (by omega)]; rfl
  rintro x w3 ⟨rfl, k3⟩
  have hT3 := hT2.off k3
  have hC3 := hC2.off k3
  have k03 := k02.trans k3.off
  simp only [match_match.t5]
  have hNl := Nc_le s1
  have hNz := Nc_zero (s := s1)
  have hw := dc_width hp0
  refine s_iteE (fun h63 => ?_) (fun h63 => ?_)
  · rw [if_pos (by omega)] at hM'
    refine s_iteE (fun hn => s_leaf ?_) (fun hn => ?_)
    · exact fin false w3 (by rw [hM', if_pos (by omega)]) k03 hC3
    · refine s_chk (by omega) (s_chk (by omega) (s_leaf ?_))
      rw [extract_sfx, extract_sfx]
      exact on _ _ w3 (by rw [sfx_size, sfx_size]; omega) (by rw [sfx_size]; omega) (by rw [sfx_size]; omega) (by rw [hM', if_neg (by omega)]) k03 hC3
  rw [if_neg (by omega)] at hM'
  refine s_iteE (fun h42 => ?_) (fun h42 => ?_)
  · -- a star
    rw [if_pos (by omega)] at hM'
    have ha := ascii_of hp0 (by omega)
    have hb0 : bn p1 0 = 42 := by omega
    refine s_loop (fun n x w' => ∃ k : Nat, n = p1.size - k ∧ x = (sfx p1 k, ()) ∧ k < p1.size ∧ bn p1 k = 42 ∧ stars p1 k = stars p1 0 ∧ w3 = w') p1.size (p1, ()) rfl ⟨0, rfl, by rw [sfx_zero]; rfl, hp0, hb0, rfl, rfl⟩ ?_
    rintro n' x w4 ⟨k, rfl, rfl, hk, hbk, hst, rfl⟩
    have hz := sfx_size p1 k
    -- behind the stars
    have tail : ∀ (Q' : Nat → List Value → World → Prop), k = stars p1 0 → (∀ (b : Bool) (w' : World), M f s p = b → Kp (S4 q3 q4) w w' → Cn q3 q4 w' → Q' 0 [.int .i64 (if b then 1 else 0)] w') → (∀ w', -1 < q4 → Kp (S4 q3 q4) w w' → Cn q3 q4 w' → Q' 0 [.int .i64 2] w') →
        (∀ (s2 p2 : ByteArray) (w' : World), s2.size + p2.size < s1.size + p1.size → s2.size ≤ s1.size → p2.size ≤ p1.size → M m s2 p2 = M f s p → Kp (S4 q3 q4) w w' → Cn q3 q4 w' → Q' 1 [.string p2, .string s2] w') →
        sat Tryd.prog (.ite ((((ByteArray.size (sfx p1 k)) : Nat) : Int) == (1 : Int)) (
        .leaf 0 [(Value.int IntKind.i64 (1 : Int))]) (
        .call 59 #[(Value.string s1), (Value.string (sfx p1 k)), (Value.bool false)] (.tuple (.cons .str (.cons .str (.cons .bool .nil)))) fun (z16 : (ByteArray × (ByteArray × (Bool × PUnit)))) =>
        .ite (!(((z16).2).2).1) (
          .leaf 0 [(Value.int IntKind.i64 (0 : Int))]) (
          .ite ((((ByteArray.size ((z16).2).1) : Nat) : Int) == (1 : Int)) (
            .leaf 0 [(Value.int IntKind.i64 (1 : Int))]) (
            .chk (((0 : Int) ≤ (1 : Int)) ∧ (((1 : Int) ≤ (((ByteArray.size ((z16).2).1) : Nat) : Int)) ∧ ((((ByteArray.size ((z16).2).1) : Nat) : Int) ≤ (((ByteArray.size ((z16).2).1) : Nat) : Int)))) <|
            .call 55 #[(Value.string (z16).1), (Value.string (ByteArray.extract ((z16).2).1 1 (Int.toNat (((ByteArray.size ((z16).2).1) : Nat) : Int)))), (Value.int IntKind.i64 q2), (Value.pointer q3), (Value.int IntKind.i64 q4), (Value.bool false)] (.int .i64) fun (i17 : Int) =>
            .ite (i17 != (0 : Int)) (
              .leaf 0 [(Value.int IntKind.i64 i17)]) (
              .ite ((((ByteArray.size (z16).1) : Nat) : Int) == (0 : Int)) (
                .leaf 0 [(Value.int IntKind.i64 (0 : Int))]) (
                .chk (((0 : Int) ≤ (Nc s1 : Int)) ∧ (((Nc s1 : Int) ≤ (((ByteArray.size (z16).1) : Nat) : Int)) ∧ ((((ByteArray.size (z16).1) : Nat) : Int) ≤ (((ByteArray.size (z16).1) : Nat) : Int)))) <|
                .leaf 1 [(Value.string ((z16).2).1), (Value.string (ByteArray.extract (z16).1 (Int.toNat (Nc s1 : Int)) (Int.toNat (((ByteArray.size (z16).1) : Nat) : Int))))])))))) Q' w3 := by
      intro Q' hks hfin hstop hon
      subst hks
      unfold starM at hM'
      have hS : Star (sfx p1 (stars p1 0)) := ⟨by rw [sfx_bn]; exact hbk, by omega⟩
      refine s_iteE (fun h1 => s_leaf ?_) (fun h1 => ?_)
      · exact hfin true w3 (by rw [hM', if_pos (by omega)]) k03 hC3
      rw [if_neg (by omega)] at hM'
      refine s_call (mts_any hT3 (by omega) (by omega) hS) ?_
      rintro e w4 ⟨rfl, k4⟩
      refine ⟨(pfx s1 (mts s1 (sfx p1 (stars p1 0)) s1.size (sfx p1 (stars p1 0)).size).1, pfx (sfx p1 (stars p1 0)) (mts s1 (sfx p1 (stars p1 0)) s1.size (sfx p1 (stars p1 0)).size).2.1, (mts s1 (sfx p1 (stars p1 0)) s1.size (sfx p1 (stars p1 0)).size).2.2, ()), rfl, ?_⟩
      have hT4 := hT3.off k4
      have hC4 := hC3.off k4
      have k04 := k03.trans k4.off
      obtain ⟨b1, b2, b3, b4⟩ := mts_le (s := s1) hS s1.size s1.size (sfx p1 (stars p1 0)).size (Nat.le_refl _) (Nat.le_refl _) hS.pos (Nat.le_refl _)
      generalize mts s1 (sfx p1 (stars p1 0)) s1.size (sfx p1 (stars p1 0)).size = t at *
      obtain ⟨i, j, b⟩ := t
      simp only at b1 b2 b3 b4 hM' ⊢
      have hzi := pfx_size b1
      have hzj := pfx_size b3
      cases b with
      | false => exact sat_iteT.2 (s_leaf (hfin false w4 (by rw [hM', if_pos rfl]) k04 hC4))
      | true =>
      refine sat_iteF.2 ?_
      rw [if_neg (by decide)] at hM'
      refine s_iteE (fun h2 => s_leaf ?_) (fun h2 => ?_)
      · exact hfin true w4 (by rw [hM', if_pos (by omega)]) k04 hC4
      rw [if_neg (by omega)] at hM'
      refine s_chk (by omega) ?_
      have e1 : ByteArray.extract (pfx (sfx p1 (stars p1 0)) j) 1 (Int.toNat (((ByteArray.size (pfx (sfx p1 (stars p1 0)) j)) : Nat) : Int)) = sfx (pfx (sfx p1 (stars p1 0)) j) 1 := by rw [Int.toNat_natCast]; rfl
      rw [e1]
      have hz1 := sfx_size (pfx (sfx p1 (stars p1 0)) j) 1
      refine s_call (ih m (by omega) _ _ q2 q4 q3 w4 (by omega) (by omega) (by omega) hT4 hC4) ?_
      rintro e w5 ⟨he, k5, hC5⟩
      have k05 := k04.trans k5
      rcases he with rfl | ⟨h4, rfl⟩
      · refine ⟨_, rfl, ?_⟩
        cases hr : M m (pfx s1 i) (sfx (pfx (sfx p1 (stars p1 0)) j) 1) with
        | true =>
          refine s_iteN (fun _ => s_leaf ?_) (fun h => absurd h (by decide))
          exact hfin true w5 (by rw [hM', if_pos hr]) k05 hC5
        | false =>
          rw [if_neg (by rw [hr]; decide)] at hM'
          refine s_iteN (fun h => absurd rfl h) (fun _ => ?_)
          refine s_iteE (fun h3 => s_leaf ?_) (fun h3 => ?_)
          · exact hfin false w5 (by rw [hM', if_pos (by omega)]) k05 hC5
          rw [if_neg (by omega)] at hM'
          have hge : Nc s1 ≤ i := by
            have hs0 : 0 < s1.size := by omega
            have e : Nc s1 = (dc s1 0).2 := by unfold Nc; rw [if_neg (by omega)]
            rw [e]
            rcases dc_cases hs0 with g | g
            · rcases b4 _ _ g (by have := g.width; omega) with g | g
              · omega
              · exact g
            · rw [g]; simp only; omega
          refine s_chk (by omega) (s_leaf ?_)
          rw [extract_sfx]
          have hz2 := sfx_size (pfx s1 i) (Nc s1)
          have : Nc s1 ≠ 0 := fun g => by have := hNz.1 g; omega
          exact hon _ _ w5 (by omega) (by omega) (by omega) hM'.symm k05 hC5
      · refine ⟨_, rfl, ?_⟩
        refine s_iteN (fun _ => s_leaf ?_) (fun h => absurd h (by decide))
        exact hstop w5 h4 k05 hC5
    have tailQ := tail (fun l' vs w'' => if l' = 2 then ∃ n'' x', vs = (Sh.cons .str .nil).vals x' ∧ n'' < p1.size - k ∧ ∃ k : Nat, n'' = p1.size - k ∧ x' = (sfx p1 k, ()) ∧ k < p1.size ∧ bn p1 k = 42 ∧ stars p1 k = stars p1 0 ∧ w3 = w'' else
        (if l' = 1 then ∃ n' x', vs = (Sh.cons .str (.cons .str .nil)).vals x' ∧ n' < m + 1 ∧ ∃ s' p' : ByteArray, x' = (p', s', ()) ∧ s'.size + p'.size < n' ∧ n' ≤ f ∧ s'.size ≤ s.size ∧ p'.size ≤ p.size ∧ M n' s' p' = M f s p ∧ Kp (S4 q3 q4) w w'' ∧ Cn q3 q4 w''
          else l' = 0 ∧ MPost f s p q3 q4 w (.returned (retVal vs)) w''))
    simp only [match_match.t6]
    have end2 := fun (h : k = stars p1 0) => tailQ h (fun b w' h1 h2 h3 => by
        show if (0 : Nat) = 2 then _ else _
        rw [if_neg (by decide)]
        exact fin b w' h1 h2 h3) (fun w' h1 h2 h3 => by
        show if (0 : Nat) = 2 then _ else _
        rw [if_neg (by decide), if_neg (by decide)]
        exact ⟨rfl, .inr ⟨h1, rfl⟩, h2, h3⟩) (fun s2 p2 w' h1 h2 h3 h4 h5 h6 => by
        show if (1 : Nat) = 2 then _ else _
        rw [if_neg (by decide)]
        exact on s2 p2 w' h1 h2 h3 h4 h5 h6)
    refine s_iteD (fun h1 => ?_) (fun h1 => ?_)
    · refine s_chk (by omega) ?_
      have hbt : bt (sfx p1 k) (1 : Int) = ((bn p1 (k + 1) : Nat) : Int) := by
        have := bt_bn (sfx p1 k) 1
        rw [sfx_bn] at this; exact this
      rw [hbt]
      refine s_iteE (fun h2 => ?_) (fun h2 => ?_)
      · refine s_chk (by omega) (s_leaf ?_)
        rw [if_pos rfl]
        have e1 : ByteArray.extract (sfx p1 k) 1 (Int.toNat (((ByteArray.size (sfx p1 k)) : Nat) : Int)) = sfx p1 (k + 1) := by rw [Int.toNat_natCast]; exact sfx_sfx p1 k 1
        rw [e1]
        exact ⟨p1.size - (k + 1), (sfx p1 (k + 1), ()), rfl, by omega, k + 1, rfl, rfl, by omega, by omega, by rw [← stars_on (by omega) (by omega)]; exact hst, rfl⟩
      · exact end2 (by rw [← hst, stars_end (by omega)])
    · exact end2 (by rw [← hst, stars_end (by omega)])
  rw [if_neg (by omega)] at hM'
  refine s_iteE (fun hn => s_leaf ?_) (fun hn => ?_)
  · exact fin false w3 (by rw [hM', if_pos (by omega)]) k03 hC3
  rw [if_neg (by omega)] at hM'
  have hsz := sfx_size s1 (Nc s1)
  refine s_cut (fun x w' => ∃ a c : Nat, x = ((c : Int), sfx p1 a, (((dc (sfx p1 a) 0).1 : Nat) : Int), ()) ∧ a < p1.size ∧ c = (dc (sfx p1 a) 0).2 ∧ (M f s p = if Rc s1 ≠ (dc (sfx p1 a) 0).1 then false else M m (sfx s1 (Nc s1)) (sfx p1 (a + c))) ∧ Kp Off w3 w') ?_ ?_
  · refine s_iteE (fun h92 => ?_) (fun h92 => ?_)
    · rw [if_pos (by omega)] at hM'
      refine s_chk (by omega) ?_
      rw [extract_sfx]
      rcases Nat.lt_or_ge (dc p1 0).2 p1.size with hlt | hge
      · have hz := sfx_size p1 (dc p1 0).2
        refine s_call (decode_any hT3 (by omega)) ?_
        rintro e w4 ⟨rfl, k4⟩
        refine ⟨((((dc (sfx p1 (dc p1 0).2) 0).1 : Nat) : Int), (((dc (sfx p1 (dc p1 0).2) 0).2 : Nat) : Int), ()), rfl, ?_⟩
        have hw2 := dc_width (s := sfx p1 (dc p1 0).2) (i := 0) (by omega)
        refine s_iteE (fun h => (by have h : (((dc (sfx p1 (dc p1 0).2) 0).2 : Nat) : Int) = 0 := h; omega)) (fun _ => s_leaf ?_)
        rw [if_pos rfl]
        refine ⟨((((dc (sfx p1 (dc p1 0).2) 0).2 : Nat) : Int), sfx p1 (dc p1 0).2, (((dc (sfx p1 (dc p1 0).2) 0).1 : Nat) : Int), ()), rfl, (dc p1 0).2, _, rfl, hlt, rfl, ?_, k4⟩
        rw [sfx_dc, Nat.add_zero, hM', if_neg (by omega)]
      · have e : sfx p1 (dc p1 0).2 = ByteArray.mk #[] := sfx_end hge
        rw [e]
        refine s_call (decode_nil hT3) ?_
        rintro e w4 ⟨rfl, k4⟩
        refine ⟨((65533 : Int), (0 : Int), ()), rfl, ?_⟩
        refine s_iteE (fun _ => s_leaf ?_) (fun h => absurd rfl h)
        show if (0 : Nat) = 2 then _ else _
        rw [if_neg (by decide)]
        exact fin false w4 (by rw [hM', if_pos hge]) (k03.trans k4.off) (hC3.off k4)
    · rw [if_neg (by omega)] at hM'
      refine s_leaf ?_
      rw [if_pos rfl]
      refine ⟨((((dc p1 0).2 : Nat) : Int), p1, (((dc p1 0).1 : Nat) : Int), ()), rfl, 0, (dc p1 0).2, by rw [sfx_zero]; rfl, hp0, by rw [sfx_zero], ?_, Kp.refl _ _⟩
      rw [sfx_zero, Nat.zero_add]; exact hM'
  rintro x w4 ⟨a, c, rfl, hal, hc, hM2, k4⟩
  have hC4 := hC3.off k4
  have k04 := k03.trans k4.off
  simp only [match_match.t7]
  refine s_cut (fun x w' => x = ((((dc (sfx p1 a) 0).1 : Nat) : Int), (Rc s1 : Int), ()) ∧ w4 = w') ?_ ?_
  · refine sat_iteF.2 (s_leaf ?_)
    rw [if_pos rfl]
    exact ⟨((((dc (sfx p1 a) 0).1 : Nat) : Int), (Rc s1 : Int), ()), rfl, rfl, rfl⟩
  rintro x w4' ⟨rfl, rfl⟩
  simp only [match_match.t8]
  refine s_iteN (fun h => s_leaf ?_) (fun h => ?_)
  · exact fin false w4 (by rw [hM2, if_pos (by omega)]) k04 hC4
  · have hz := sfx_size p1 a
    have hw2 := dc_width (s := sfx p1 a) (i := 0) (by omega)
    refine s_chk (by omega) (s_chk (by omega) (s_leaf ?_))
    rw [extract_sfx, extract_sfx]
    have e : sfx (sfx p1 a) c = sfx p1 (a + c) := sfx_sfx p1 a c
    rw [e]
    have hz2 := sfx_size p1 (a + c)
    exact on _ _ w4 (by omega) (by omega) (by omega) (by rw [hM2, if_neg (by omega)]) k04 hC4
end Go.Proofs.YtlhhmgopfilgpaaDoor.Ms
