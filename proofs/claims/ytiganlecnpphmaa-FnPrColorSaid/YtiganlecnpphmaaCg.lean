/- pretty.Color: its walk, numbers and words. No statement of the set is proved here. -/
import Derived.Test.YtiganlecnpphmaaCf
namespace Go.Proofs.Ytiganlecnpphmaa.Cc
open Go Go.Proofs Go.RowKit Go.Proofs.Ytiganlecnpphmaa.Rx Go.Proofs.Ytiganlecnpphmaa.Tr Go.Proofs.Ytiganlecnpphmaa.Pl Go.Proofs.Ytiganlecnpphmaa.Pw Go.Proofs.Ytiganlecnpphmaa.Bw Go.Proofs.Ytiganlecnpphmaa.Co
open Go.Proofs.Ytiganlecnpphmaa.Sr (slV tBs tB Sl)
open Go.Proofs.Ytiganlecnpphmaa.Cw (Sy mb qi_end qi_on qi_es esc_es)

variable {w0 w w1 : World} {x x1 y : Sl} {D D1 : List UInt8} {stk : St} {s : ByteArray} {st : Sy} {r h : Nat}
theorem num_iff {c : Int} : numOk c = true ↔ c = 45 ∨ (48 ≤ c ∧ c ≤ 57) := by simp [numOk, isDig_iff]
theorem num_no {c : Int} (h : ¬ (c = 45 ∨ (48 ≤ c ∧ c ≤ 57))) : numOk c = false := by
  cases e : numOk c with
  | false => rfl
  | true => exact absurd (num_iff.1 e) h
theorem nan_any {i n c : Nat} (H : SS w0 w x D y stk) (I : In w0 s st r h) (hi : i < s.size) (hn : n = s.size - i) (h1 : bt s (i : Int) ≠ 105 ∧ bt s (i : Int) ≠ 73 ∧ bt s (i : Int) ≠ 43 ∧ bt s (i : Int) ≠ 78)
    (h2 : bt s (i : Int) = 110 → i + 1 < s.size ∧ bt s ((i + 1 : Nat) : Int) = 117) :
    Calls Try.prog 17 #[.slice (some ⟨r, i, none⟩) n c] w fun e w' => e = .returned (.bool false) ∧ w' = w := by
  subst hn
  obtain ⟨a1, a2, a3, a4⟩ := h1
  refine pretty_isNaNOrInf.calls _ _ _ ?_
  unfold pretty_isNaNOrInf.t
  have rd : ∀ {K : Int → T} {Q : Nat → List Value → World → Prop}, sat Try.prog (K (bt s (i : Int))) Q w → sat Try.prog (.chk (((0 : Int) ≤ (0 : Int)) ∧ ((0 : Int) < ((s.size - i : Nat) : Int))) <| .ptr (some ⟨r, i, none⟩) fun (z0 : Addr) => .load (Addr.add z0 0) (.int .u8) K) Q w := by
    intro K Q hK
    refine s_chk (by omega) (s_ptr ?_)
    rw [addr_add, Nat.add_zero]
    exact s_load (bt s (i : Int)) (H.byte I hi) hK
  refine rd (s_iteE (fun c => absurd c a1) fun _ => rd (s_iteE (fun c => absurd c a2) fun _ => rd (s_iteE (fun c => absurd c a3) fun _ => rd (s_iteE (fun c => absurd c a4) fun _ => rd (s_iteE (fun c => ?_) fun _ => s_leaf ⟨rfl, rfl, rfl⟩)))))
  obtain ⟨g1, g2⟩ := h2 c
  refine s_iteD (fun _ => s_chk (by omega) (s_ptr ?_)) (fun c => absurd c (by omega))
  rw [addr_add]
  refine s_load (bt s ((i + 1 : Nat) : Int)) (H.byte I g1) (s_leaf ⟨rfl, ?_, rfl⟩)
  rw [g2]; rfl
theorem t17_no {Q : Nat → List Value → World → Prop} {i cap : Nat} {b : Bool} (I : In w0 s st r h) (hcap : s.size ≤ cap) (hi : i < s.size) (H : SS w0 w x D y stk) (hb : b = numOk (bt s (i : Int)))
    (h1 : numOk (bt s (i : Int)) = false → bt s (i : Int) ≠ 105 ∧ bt s (i : Int) ≠ 73 ∧ bt s (i : Int) ≠ 43 ∧ bt s (i : Int) ≠ 78)
    (h2 : bt s (i : Int) = 110 → i + 1 < s.size ∧ bt s ((i + 1 : Nat) : Int) = 117)
    (hK : sat Try.prog (pretty_Color.t18 (some ⟨r, 0, none⟩) s.size (some ⟨h, 0, none⟩) vA (i : Int) x y b) Q w) :
    sat Try.prog (pretty_Color.t17 (some ⟨r, 0, none⟩) s.size cap (some ⟨h, 0, none⟩) vA (i : Int) x y false) Q w := by
  unfold pretty_Color.t17
  have nan : ∀ {Q' : Nat → List Value → World → Prop} {K : Bool → T}, numOk (bt s (i : Int)) = false → sat Try.prog (K false) Q' w → sat Try.prog (
      .chk (((0 : Int) ≤ (i : Int)) ∧ (((i : Int) ≤ ((s.size : Nat) : Int)) ∧ (((s.size : Nat) : Int) ≤ ((cap : Nat) : Int)))) <|
      .call 17 #[(Value.slice (if (cap = (Int.toNat (i : Int))) then (some ⟨r, 0, none⟩) else (Option.map (fun (y148 : Addr) => (Addr.add y148 ((Int.toNat (i : Int)) * 1))) (some ⟨r, 0, none⟩))) ((Int.toNat ((s.size : Nat) : Int)) - (Int.toNat (i : Int))) (cap - (Int.toNat (i : Int))))] .bool K) Q' w := by
    intro Q' K hn hK'
    refine s_chk (by omega) ?_
    rw [Int.toNat_natCast, Int.toNat_natCast, if_neg (by omega), Option.map_some, addr_add, Nat.mul_one, Nat.zero_add]
    refine s_call (nan_any H I hi rfl (h1 hn) h2) ?_
    rintro e w' ⟨rfl, rfl⟩
    exact ⟨false, rfl, hK'⟩
  refine sat_iteF.2 (s_cut (fun z w' => z = (b, ()) ∧ w' = w) ?_ ?_)
  · refine s_byte H I hi rfl (s_iteD (fun e => s_byte H I hi rfl (s_iteD (fun e' => s_leaf ?_) (fun e' => s_byte H I hi rfl (s_iteE (fun e2 => s_leaf ?_) (fun e2 => ?_)))))
      (fun e => s_byte H I hi rfl (s_iteE (fun e2 => s_leaf ?_) (fun e2 => ?_))))
    · rw [if_pos rfl]
      exact ⟨(b, ()), by rw [hb, num_iff.2 (by omega)]; rfl, rfl, rfl⟩
    · rw [if_pos rfl]
      exact ⟨(b, ()), by rw [hb, num_iff.2 (by omega)]; rfl, rfl, rfl⟩
    · have hn : numOk (bt s (i : Int)) = false := num_no (by omega)
      refine nan hn (s_leaf ?_)
      rw [if_pos rfl]
      exact ⟨(b, ()), by rw [hb, hn]; rfl, rfl, rfl⟩
    · rw [if_pos rfl]
      exact ⟨(b, ()), by rw [hb, num_iff.2 (by omega)]; rfl, rfl, rfl⟩
    · have hn : numOk (bt s (i : Int)) = false := num_no (by omega)
      refine nan hn (s_leaf ?_)
      rw [if_pos rfl]
      exact ⟨(b, ()), by rw [hb, hn]; rfl, rfl, rfl⟩
  · rintro z w' ⟨rfl, rfl⟩; exact hK
/-- The letter of a literal's kind. -/
def kl (k : Nat) : Int := if k = 2 then 48 else if k = 3 then 116 else if k = 4 then 102 else 110
def LitK (s : ByteArray) (i k : Nat) : Prop := (k = 2 ∧ numOk (bt s (i : Int)) = true) ∨ (k = 3 ∧ bt s (i : Int) = 116) ∨ (k = 4 ∧ bt s (i : Int) = 102) ∨ (k = 5 ∧ bt s (i : Int) = 110 ∧ i + 1 < s.size ∧ bt s ((i + 1 : Nat) : Int) = 117)
theorem t18_lit {Q : Nat → List Value → World → Prop} {i k : Nat} {b : Bool} (I : In w0 s st r h) (hm : ∀ k, (st k).size ≤ 64) (hi : i < s.size) (hk : LitK s i k) (hb : b = numOk (bt s (i : Int)))
    (H : SS w0 w x D y stk) (hD : D.length ≤ 100000000)
    (hK : ∀ (x' : Sl) w', SS w0 w' x' (D ++ mb st (2 * k)) y stk → sat Try.prog (pretty_Color.t22 (some ⟨r, 0, none⟩) s.size (some ⟨h, 0, none⟩) vA (i : Int) y x' (kl k)) Q w') :
    sat Try.prog (pretty_Color.t18 (some ⟨r, 0, none⟩) s.size (some ⟨h, 0, none⟩) vA (i : Int) x y b) Q w := by
  unfold pretty_Color.t18
  refine s_cut (fun z w' => z.2.1 = kl k ∧ SS w0 w' z.1 (D ++ mb st (2 * k)) y stk) ?_ ?_
  · subst hb
    rcases hk with ⟨rfl, hk⟩ | ⟨rfl, hk⟩ | ⟨rfl, hk⟩ | ⟨rfl, hk, _⟩
    · rw [hk]
      refine sat_iteT.2 (s_mark 4 H I hm hD (by decide) rfl (by decide) rfl fun x1 w1 H1 => s_leaf ?_)
      rw [if_pos rfl]
      exact ⟨(x1, (48 : Int), ()), rfl, rfl, H1⟩
    all_goals
      rw [num_no (by omega)]
      refine sat_iteF.2 (s_byte H I hi rfl ?_)
    · refine s_cut (fun z w' => z.2.1 = kl 3 ∧ SS w0 w' z.1 (D ++ mb st (2 * 3)) y stk) (s_iteE (fun _ => ?_) (fun c => absurd hk c)) ?_
      · refine s_mark 6 H I hm hD (by decide) rfl (by decide) rfl fun x1 w1 H1 => s_leaf ?_
        rw [if_pos rfl]
        exact ⟨(x1, (116 : Int), ()), rfl, rfl, H1⟩
      · rintro ⟨x1, c1, q1⟩ w1 hh
        unfold pretty_Color.t21
        refine s_leaf ?_
        rw [if_pos rfl]
        exact ⟨(x1, c1, ()), rfl, hh⟩
    · refine s_cut (fun z w' => z.2.1 = kl 4 ∧ SS w0 w' z.1 (D ++ mb st (2 * 4)) y stk) (s_iteE (fun c => absurd c (by omega)) (fun _ => s_byte H I hi rfl ?_)) ?_
      · refine s_cut (fun z w' => z.2.1 = kl 4 ∧ SS w0 w' z.1 (D ++ mb st (2 * 4)) y stk) (s_iteE (fun _ => ?_) (fun c => absurd hk c)) ?_
        · refine s_mark 8 H I hm hD (by decide) rfl (by decide) rfl fun x1 w1 H1 => s_leaf ?_
          rw [if_pos rfl]
          exact ⟨(x1, (102 : Int), ()), rfl, rfl, H1⟩
        · rintro ⟨x1, c1, q1⟩ w1 hh
          unfold pretty_Color.t20
          refine s_leaf ?_
          rw [if_pos rfl]
          exact ⟨(x1, c1, ()), rfl, hh⟩
      · rintro ⟨x1, c1, q1⟩ w1 hh
        unfold pretty_Color.t21
        refine s_leaf ?_
        rw [if_pos rfl]
        exact ⟨(x1, c1, ()), rfl, hh⟩
    · refine s_cut (fun z w' => z.2.1 = kl 5 ∧ SS w0 w' z.1 (D ++ mb st (2 * 5)) y stk) (s_iteE (fun c => absurd c (by omega)) (fun _ => s_byte H I hi rfl ?_)) ?_
      · refine s_cut (fun z w' => z.2.1 = kl 5 ∧ SS w0 w' z.1 (D ++ mb st (2 * 5)) y stk) (s_iteE (fun c => absurd c (by omega)) (fun _ => s_byte H I hi rfl ?_)) ?_
        · refine s_cut (fun z w' => z.2.1 = kl 5 ∧ SS w0 w' z.1 (D ++ mb st (2 * 5)) y stk) (s_iteE (fun _ => ?_) (fun c => absurd hk c)) ?_
          · refine s_mark 10 H I hm hD (by decide) rfl (by decide) rfl fun x1 w1 H1 => s_leaf ?_
            rw [if_pos rfl]
            exact ⟨(x1, (110 : Int), ()), rfl, rfl, H1⟩
          · rintro ⟨x1, c1, q1⟩ w1 hh
            unfold pretty_Color.t19
            refine s_leaf ?_
            rw [if_pos rfl]
            exact ⟨(x1, c1, ()), rfl, hh⟩
        · rintro ⟨x1, c1, q1⟩ w1 hh
          unfold pretty_Color.t20
          refine s_leaf ?_
          rw [if_pos rfl]
          exact ⟨(x1, c1, ()), rfl, hh⟩
      · rintro ⟨x1, c1, q1⟩ w1 hh
        unfold pretty_Color.t21
        refine s_leaf ?_
        rw [if_pos rfl]
        exact ⟨(x1, c1, ()), rfl, hh⟩
  · rintro ⟨x1, c1, q1⟩ w1 ⟨h1, h2⟩
    have h1 : c1 = kl k := h1
    subst h1
    exact hK x1 w1 h2
/-- A byte that stands for itself. -/
theorem t18_self {Q : Nat → List Value → World → Prop} {i : Nat} (I : In w0 s st r h) (hs : s.size ≤ 100000) (hi : i < s.size) (hk : bt s (i : Int) ≠ 116 ∧ bt s (i : Int) ≠ 102 ∧ bt s (i : Int) ≠ 110)
    (H : SS w0 w x D y stk) (hD : D.length ≤ 100000000)
    (hQ : ∀ (x' : Sl) w', SS w0 w' x' (D ++ [gb s i]) y stk → Q 1 [.int .i64 ((i + 1 : Nat) : Int), .slice x'.1 x'.2.1 x'.2.2, .slice y.1 y.2.1 y.2.2] w') :
    sat Try.prog (pretty_Color.t18 (some ⟨r, 0, none⟩) s.size (some ⟨h, 0, none⟩) vA (i : Int) x y false) Q w := by
  have wi : IntKind.wrap IntKind.i64 ((i : Int) + 1) = ((i + 1 : Nat) : Int) := by rw [wrap_in (by omega) (by omega)]; omega
  obtain ⟨k1, k2, k3⟩ := hk
  unfold pretty_Color.t18
  refine s_cut (fun z w' => z.2.1 = (0 : Int) ∧ SS w0 w' z.1 (D ++ [gb s i]) y stk) ?_ ?_
  · refine sat_iteF.2 (s_byte H I hi rfl ?_)
    refine s_cut (fun z w' => z.2.1 = (0 : Int) ∧ SS w0 w' z.1 (D ++ [gb s i]) y stk) (s_iteE (fun c => absurd c k1) (fun _ => s_byte H I hi rfl ?_)) ?_
    · refine s_cut (fun z w' => z.2.1 = (0 : Int) ∧ SS w0 w' z.1 (D ++ [gb s i]) y stk) (s_iteE (fun c => absurd c k2) (fun _ => s_byte H I hi rfl ?_)) ?_
      · refine s_cut (fun z w' => z.2.1 = (0 : Int) ∧ SS w0 w' z.1 (D ++ [gb s i]) y stk) (s_iteE (fun c => absurd c k3) (fun _ => s_byte H I hi rfl ?_)) ?_
        · refine s_apnd (gb s i) H (bt_gb s i) hD fun x1 w1 H1 => s_leaf ?_
          rw [if_pos rfl]
          exact ⟨(x1, (0 : Int), ()), rfl, rfl, H1⟩
        · rintro ⟨x1, c1, q1⟩ w1 hh
          unfold pretty_Color.t19
          refine s_leaf ?_
          rw [if_pos rfl]
          exact ⟨(x1, c1, ()), rfl, hh⟩
      · rintro ⟨x1, c1, q1⟩ w1 hh
        unfold pretty_Color.t20
        refine s_leaf ?_
        rw [if_pos rfl]
        exact ⟨(x1, c1, ()), rfl, hh⟩
    · rintro ⟨x1, c1, q1⟩ w1 hh
      unfold pretty_Color.t21
      refine s_leaf ?_
      rw [if_pos rfl]
      exact ⟨(x1, c1, ()), rfl, hh⟩
  · rintro ⟨x1, c1, q1⟩ w1 ⟨h1, h2⟩
    have h1 : c1 = (0 : Int) := h1
    subst h1
    show sat _ (pretty_Color.t22 _ _ _ _ _ _ x1 (0 : Int)) _ _
    unfold pretty_Color.t22
    refine s_iteN (fun c => absurd rfl c) (fun _ => s_leaf ?_)
    rw [wi]
    exact hQ x1 w1 h2
theorem wdn (n : Nat) (h : n ≤ 100000) (h0 : 0 < n) : IntKind.wrap IntKind.i64 (IntKind.wrap IntKind.i64 ((n : Int) - 1) + 1) = (n : Int) := by
  rw [show IntKind.wrap IntKind.i64 ((n : Int) - 1) = (n : Int) - 1 from wrap_in (by omega) (by omega), wrap_in (by omega) (by omega)]; omega
theorem wup (n : Nat) (h : n ≤ 100000) : IntKind.wrap IntKind.i64 ((n : Int) + 1) = ((n + 1 : Nat) : Int) := by rw [wrap_in (by omega) (by omega)]; omega
abbrev nx (z : Int) : Int := IntKind.wrap IntKind.i64 (z + 1)
theorem c_lit {Q : Nat → List Value → World → Prop} {i e k : Nat} (I : In w0 s st r h) (hs : s.size ≤ 100000) (hm : ∀ k, (st k).size ≤ 64) (hie : i < e) (hes : e ≤ s.size) (hL : allL s i e) (he : e = s.size ∨ isD (bt s (e : Int))) (hk : k = 2 ∨ k = 3 ∨ k = 4 ∨ k = 5)
    (H : SS w0 w x D y stk) (hD : D.length + s.size + 3000 ≤ 100000000)
    (hQ : ∀ (x' : Sl) w' (i' : Nat), (i' = e ∨ e = s.size ∧ i' = s.size + 1) → SS w0 w' x' (D ++ (sl s i e ++ mb st (2 * k + 1))) y stk → Q 1 [.int .i64 (i' : Int), .slice x'.1 x'.2.1 x'.2.2, .slice y.1 y.2.1 y.2.2] w') :
    sat Try.prog (pretty_Color.t22 (some ⟨r, 0, none⟩) s.size (some ⟨h, 0, none⟩) vA (i : Int) y x (kl k)) Q w := by
  unfold pretty_Color.t22
  refine s_iteN (fun _ => ?_) (fun c => absurd c (by rcases hk with rfl | rfl | rfl | rfl <;> decide))
  refine s_cut (fun z w' => ∃ i' : Nat, nx z.1 = (i' : Int) ∧ (i' = e ∨ e = s.size ∧ i' = s.size + 1) ∧ SS w0 w' z.2.1 (D ++ sl s i e) y stk) ?_ ?_
  · refine s_loop (fun n z w' => ∃ j : Nat, n = e - j ∧ z.2.1 = (j : Int) ∧ i ≤ j ∧ j ≤ e ∧ SS w0 w' z.1 (D ++ sl s i j) y stk) (e - i) (x, (i : Int), ()) rfl ⟨i, rfl, rfl, Nat.le_refl i, by omega, by rw [sl_nil, List.append_nil]; exact H⟩ ?_
    rintro n ⟨x1, zj, zu⟩ w1 ⟨j, rfl, hzj, hij, hje, H1⟩
    have hzj : zj = (j : Int) := hzj
    subst hzj
    have H1 : SS w0 w1 x1 (D ++ sl s i j) y stk := H1
    show sat _ (pretty_Color.t23 _ _ _ x1 (j : Int)) _ _
    unfold pretty_Color.t23
    refine s_iteD (fun c => ?_) (fun c => s_leaf ?_)
    · have hj : j < s.size := by omega
      refine s_cut (fun z w' => (z.1 = true ↔ isD (bt s (j : Int))) ∧ w' = w1) ?_ ?_
      · refine s_byte H1 I hj rfl (s_iteD (fun a => s_leaf ?_) fun a1 => s_byte H1 I hj rfl (s_iteE (fun a => s_leaf ?_) fun a2 => s_byte H1 I hj rfl (s_iteE (fun a => s_leaf ?_) fun a3 => s_byte H1 I hj rfl (s_iteE (fun a => s_leaf ?_) fun a4 => s_byte H1 I hj rfl (s_leaf ?_)))))
        · rw [if_pos rfl]; exact ⟨(true, ()), rfl, ⟨fun _ => .inl a, fun _ => rfl⟩, rfl⟩
        · rw [if_pos rfl]; exact ⟨(true, ()), rfl, ⟨fun _ => .inr (.inl a), fun _ => rfl⟩, rfl⟩
        · rw [if_pos rfl]; exact ⟨(true, ()), rfl, ⟨fun _ => .inr (.inr (.inl a)), fun _ => rfl⟩, rfl⟩
        · rw [if_pos rfl]; exact ⟨(true, ()), rfl, ⟨fun _ => .inr (.inr (.inr (.inl a))), fun _ => rfl⟩, rfl⟩
        · rw [if_pos rfl]
          refine ⟨((bt s (j : Int) == (125 : Int)), ()), rfl, ?_, rfl⟩
          show (bt s (j : Int) == (125 : Int)) = true ↔ _
          rw [beq_iff_eq]
          unfold isD; omega
      · rintro ⟨b, q⟩ w2 ⟨hb, rfl⟩
        have hb : b = true ↔ isD (bt s (j : Int)) := hb
        show sat _ (pretty_Color.t24 _ _ _ x1 (j : Int) b) _ _
        unfold pretty_Color.t24
        refine s_ite (fun hbt => s_leaf ?_) (fun hbf => ?_)
        · have hd := hb.1 hbt
          have : j = e := by
            rcases Nat.lt_or_ge j e with g | g
            · have := isL_iff.1 (hL j hij g)
              unfold isD at hd; omega
            · omega
          subst this
          rw [if_neg (by decide), if_pos rfl]
          refine ⟨(_, x1, ()), rfl, j, ?_, .inl rfl, H1⟩
          exact wdn j (by omega) (by omega)
        · have hje' : j < e := by
            rcases Nat.lt_or_ge j e with g | g
            · exact g
            · have : j = e := by omega
              subst this
              rcases he with he | he
              · omega
              · rw [hb.2 he] at hbf; cases hbf
          have hl := sl_len s i j
          refine s_byte H1 I hj rfl (s_apnd (gb s j) H1 (bt_gb s j) (by rw [List.length_append]; omega) fun x3 w3 H3 => s_leaf ?_)
          rw [if_pos rfl, wup j (by omega)]
          refine ⟨e - (j + 1), (x3, ((j + 1 : Nat) : Int), ()), rfl, by omega, j + 1, rfl, rfl, by omega, by omega, ?_⟩
          rw [sl_snoc hij hj, ← List.append_assoc]; exact H3
    · have : j = e := by omega
      subst this
      have hjs : j = s.size := by omega
      rw [if_neg (by decide), if_pos rfl]
      exact ⟨((j : Int), x1, ()), rfl, j + 1, wup j (by omega), .inr ⟨hjs, by omega⟩, H1⟩
  · rintro ⟨zi, x1, q⟩ w1 ⟨i', hi', hor, H1⟩
    have H1 : SS w0 w1 x1 (D ++ sl s i e) y stk := H1
    have hl := sl_len s i e
    have hDl : (D ++ sl s i e).length ≤ 100000000 := by rw [List.length_append]; omega
    suffices key : ∀ z : Int, nx z = (i' : Int) → sat Try.prog (pretty_Color.t25 (some ⟨h, 0, none⟩) y (kl k) z x1) Q w1 from key zi hi'
    intro z hz
    have hz : IntKind.wrap IntKind.i64 (z + 1) = (i' : Int) := hz
    unfold pretty_Color.t25
    rw [hz]
    have fin : ∀ {k' : Nat}, k' = 2 * k + 1 → ∀ (x2 : Sl) (w2 : World), SS w0 w2 x2 (D ++ sl s i e ++ mb st k') y stk → Q 1 [.int .i64 (i' : Int), .slice x2.1 x2.2.1 x2.2.2, .slice y.1 y.2.1 y.2.2] w2 := by
      rintro k' rfl x2 w2 H2
      exact hQ x2 w2 i' hor (by rw [← List.append_assoc]; exact H2)
    rcases hk with rfl | rfl | rfl | rfl
    · exact s_iteE (fun _ => s_mark 5 H1 I hm hDl (by decide) rfl (by decide) rfl fun x2 w2 H2 => s_leaf (fin rfl x2 w2 H2)) (fun c => absurd rfl c)
    · exact s_iteE (fun c => absurd c (by decide)) fun _ => s_iteE (fun _ => s_mark 7 H1 I hm hDl (by decide) rfl (by decide) rfl fun x2 w2 H2 => s_leaf (fin rfl x2 w2 H2)) (fun c => absurd rfl c)
    · exact s_iteE (fun c => absurd c (by decide)) fun _ => s_iteE (fun c => absurd c (by decide)) fun _ => s_iteE (fun _ => s_mark 9 H1 I hm hDl (by decide) rfl (by decide) rfl fun x2 w2 H2 => s_leaf (fin rfl x2 w2 H2)) (fun c => absurd rfl c)
    · exact s_iteE (fun c => absurd c (by decide)) fun _ => s_iteE (fun c => absurd c (by decide)) fun _ => s_iteE (fun c => absurd c (by decide)) fun _ => s_iteE (fun _ => s_mark 11 H1 I hm hDl (by decide) rfl (by decide) rfl fun x2 w2 H2 => s_leaf (fin rfl x2 w2 H2)) (fun c => absurd rfl c)
end Go.Proofs.Ytiganlecnpphmaa.Cc
