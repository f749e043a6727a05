/- pretty's spec over a text that a JSON text and one comma make. No statement of the set is proved here. -/
import Derived.Test.YtdjilnhalpmabaaBy
import Derived.Test.YtdjilnhalpmabaaRn
import Derived.Test.YtdjilnhalpmabaaTx
namespace Go.Proofs.Ytdjilnhalpmabaa.Qs
open Go Go.Proofs Go.Proofs.Ytdjilnhalpmabaa.Rx Go.Proofs.Ytdjilnhalpmabaa.Tr Go.Proofs.Ytdjilnhalpmabaa.Pl Go.Proofs.Ytdjilnhalpmabaa.Sr

/-- How many backslashes stand right ahead of a place. -/
def nb (s : ByteArray) (b : Nat) : Nat → Nat
  | 0 => 0
  | q + 1 => if b ≤ q ∧ bt s (q : Nat) = 92 then nb s b q + 1 else 0
theorem nb_no {s : ByteArray} {b q : Nat} (h : bt s (q : Nat) ≠ 92) : nb s b (q + 1) = 0 := by rw [nb, if_neg (fun e => h e.2)]
theorem nb_yes {s : ByteArray} {b q : Nat} (hb : b ≤ q) (h : bt s (q : Nat) = 92) : nb s b (q + 1) = nb s b q + 1 := by rw [nb, if_pos ⟨hb, h⟩]
theorem nb_base {s : ByteArray} {b : Nat} : nb s b b = 0 := by
  cases b with
  | zero => rfl
  | succ b => rw [nb, if_neg (by omega)]

/-- Where we are: the text's bytes at 'p', the row 'v' with 'xs', what was there ahead of it unchanged. -/
structure St (w0 : World) (p : Addr) (s : ByteArray) (v : Sl) (n : Nat) (xs : List Value) (w : World) : Prop where
  own : w.ownsRow w0.heap.size tB 1 (slV v) n xs
  kp : Kp (fun k => w0.heap.size ≤ k) w0 w
  len : v.2.1 = n
variable {w0 w : World} {p : Addr} {s : ByteArray} {v : Sl} {n : Nat} {xs : List Value}
theorem St.at_ (h : St w0 p s v n xs w) (hB : Byts w0 p s) (hp : p.block < w0.heap.size) {j : Nat} (hj : j < s.size) : w.cell? (p.add (j * 1)) = some (.int .u8 (bt s (j : Nat))) := by
  rw [Nat.mul_one]
  have h1 := hB.at_ hj
  have e : (p.add j).block = p.block := by unfold Addr.add; split <;> rfl
  rw [h.kp.cell (by rw [e]; exact hp) (by rw [e]; omega)]
  exact h1
theorem St.push (h : St w0 p s v n xs w) (b : Int) (hn : n + 1 ≤ 4294967296) {Q : Nat → List Value → World → Prop} {k : Sl → T}
    (hk : ∀ v' w', St w0 p s v' (n + 1) (xs ++ [.int .u8 b]) w' → sat Try.prog (k v') Q w') :
    sat Try.prog (.eff (Instr.buildSlice tBs 1 #[(0, (Value.int IntKind.u8 b))]) .slice fun (z62 : ((Option Addr) × (Nat × Nat))) =>
      .eff (Builtin.append_ #[tBs, tBs] tBs #[(Value.slice v.1 v.2.1 v.2.2), (Value.slice (z62).1 ((z62).2).1 ((z62).2).2)]) .slice fun (z63 : ((Option Addr) × (Nat × Nat))) => k z63) Q w := by
  obtain ⟨w1, h1, v', w2, h2, h3, h4, h5, h6⟩ := push_byte h.own b hn h.kp.size
  refine s_eff (some ⟨w.heap.size, 0, none⟩, 1, 1) h1 ?_
  refine s_eff v' h2 (hk v' w2 ⟨h3, h.kp.trans (h4.mono fun q _ e => (h.own.lt q e.symm).1), h6⟩)

/-- Back over backslashes. -/
theorem nb_loop {b q : Nat} {Q : Nat → List Value → World → Prop} {z : Sl} (hs : s.size < 4294967295) (hq : q < s.size) (hbq : b ≤ q) (hb1 : 0 < b) (hqt : bt s ((b - 1 : Nat) : Int) = 34) (hc : ∀ j, j < s.size → w.cell? (p.add (j * 1)) = some (.int .u8 (bt s (j : Nat))))
    (h0 : nb s b q % 2 = 0 → Q 1 [.int .i64 ((q + 1 : Nat) : Int), slV z] w) (h1 : nb s b q % 2 = 1 → Q 2 [.int .i64 ((q + 1 : Nat) : Int), slV z] w) :
    sat Try.prog (.loop 3 (.cons (.int .i64) .nil) [(Value.int IntKind.i64 (IntKind.wrap IntKind.i64 ((q : Int) - (1 : Int))))] (fun x => pretty_spec.t12 (some p) s.size (q : Int) z x.1)) Q w := by
  rw [wrap_in (by omega) (by omega)]
  refine s_loop (fun m x w' => ∃ k : Nat, x = ((q : Int) - 1 - k, ()) ∧ b + k ≤ q ∧ m = q - k ∧ nb s b q = k + nb s b (q - k) ∧ w = w') q ((q : Int) - 1, ()) rfl ⟨0, by simp; rfl, by omega, rfl, by simp, rfl⟩ ?_
  rintro m x w' ⟨k, rfl, hk, rfl, hn, rfl⟩
  obtain ⟨j, hj⟩ : ∃ j, q - k = j + 1 := ⟨q - k - 1, by omega⟩
  have ej : (q : Int) - 1 - k = (j : Int) := by omega
  simp only [pretty_spec.t12]
  rw [ej]
  refine s_chk (by omega) (s_ptr (s_load (bt s (j : Nat)) (by rw [Int.toNat_natCast]; exact hc j (by omega)) ?_))
  refine s_iteN (fun h92 => ?_) (fun h92 => ?_)
  · rw [hj, nb_no h92] at hn
    refine s_chk (by decide) ?_
    rw [wrap_in (by omega) (by omega), wrap_in (n := (q : Int) + 1) (by omega) (by omega)]
    have e : (j : Int) - q = -((k + 1 : Nat) : Int) := by omega
    have et : Int.tmod ((j : Int) - q) 2 = -(((k + 1) % 2 : Nat) : Int) := by rw [e, Int.neg_tmod, Int.tmod_eq_emod_of_nonneg (by omega)]; omega
    rw [et]
    refine s_iteN (fun hp => s_leaf ?_) (fun hp => s_leaf ?_)
    · rw [if_neg (by decide)]
      exact h0 (by omega)
    · rw [if_neg (by decide)]
      exact h1 (by omega)
  · have hbj : b ≤ j := by
      rcases Nat.lt_or_ge j b with h | h
      · have : j = b - 1 := by omega
        rw [this, hqt] at h92; cases h92
      · exact h
    rw [hj, nb_yes hbj h92] at hn
    refine s_leaf ?_
    rw [if_pos rfl, wrap_in (by omega) (by omega)]
    exact ⟨q - (k + 1), ((j : Int) - 1, ()), rfl, by omega, k + 1, by rw [show (q : Int) - 1 - ((k + 1 : Nat) : Int) = (j : Int) - 1 from by omega]; rfl, by omega, rfl, by rw [show q - (k + 1) = j from by omega]; omega, rfl⟩

/-- Over a string. -/
theorem str_loop {b m : Nat} {Q : Nat → List Value → World → Prop} (hs : s.size < 4294967295) (hB : Byts w0 p s) (hp : p.block < w0.heap.size) (hb1 : 0 < b) (hqt : bt s ((b - 1 : Nat) : Int) = 34) (hm : strE s b = some m)
    (h : St w0 p s v b (bytesC s b) w) (hQ : ∀ v' w', St w0 p s v' m (bytesC s m) w' → Q 1 [.int .i64 (m : Int), slV v'] w') :
    sat Try.prog (.loop 2 (.cons (.int .i64) (.cons .slice .nil)) [(Value.int IntKind.i64 (b : Int)), (Value.slice v.1 v.2.1 v.2.2)] (fun z => pretty_spec.t11 (some p) s.size z.1 z.2.1)) Q w := by
  refine s_loop (fun n x w' => ∃ (q r : Nat) (v' : Sl), x = ((q : Int), v', ()) ∧ n = s.size - q ∧ b ≤ r ∧ r ≤ q ∧ strE s r = some m ∧ nb s b r % 2 = 0 ∧ (q = r ∨ (bt s (r : Nat) = 92 ∧ ∃ e, escE s (r + 1) = some e ∧ r < q ∧ q < e)) ∧ St w0 p s v' q (bytesC s q) w')
    (s.size - b) ((b : Int), v, ()) rfl ⟨b, b, v, rfl, rfl, Nat.le_refl _, Nat.le_refl _, hm, by rw [nb_base], .inl rfl, h⟩ ?_
  rintro n x w1 ⟨q, r, v1, rfl, rfl, hbr, hrq, hE, hnb, hor, hS⟩
  have hq : q < s.size := by
    rcases hor with rfl | ⟨_, e, he, _, hqe⟩
    · have := strE_le hE; omega
    · have := escE_le he; omega
  simp only [pretty_spec.t11]
  refine s_iteD (fun _ => ?_) (fun h => by omega)
  refine s_chk (by omega) (s_ptr (s_load (bt s (q : Nat)) (by rw [Int.toNat_natCast]; exact hS.at_ hB hp hq) ?_))
  refine hS.push (bt s (q : Nat)) (by omega) fun v2 w2 hS2 => ?_
  rw [← bytesC_succ] at hS2
  refine s_chk (by omega) (s_ptr (s_load (bt s (q : Nat)) (by rw [Int.toNat_natCast]; exact hS2.at_ hB hp hq) ?_))
  have next : ∀ r', b ≤ r' → r' ≤ q + 1 → strE s r' = some m → nb s b r' % 2 = 0 → (q + 1 = r' ∨ (bt s (r' : Nat) = 92 ∧ ∃ e, escE s (r' + 1) = some e ∧ r' < q + 1 ∧ q + 1 < e)) →
      ∃ n' x', [Value.int IntKind.i64 ((q + 1 : Nat) : Int), slV v2] = (Sh.cons (.int .i64) (.cons .slice .nil)).vals x' ∧ n' < s.size - q ∧ ∃ (q r : Nat) (v' : Sl), x' = ((q : Int), v', ()) ∧ n' = s.size - q ∧ b ≤ r ∧ r ≤ q ∧ strE s r = some m ∧ nb s b r % 2 = 0 ∧
        (q = r ∨ (bt s (r : Nat) = 92 ∧ ∃ e, escE s (r + 1) = some e ∧ r < q ∧ q < e)) ∧ St w0 p s v' q (bytesC s q) w2 := fun r' h1 h2 h3 h4 h5 =>
    ⟨s.size - (q + 1), (((q + 1 : Nat) : Int), v2, ()), rfl, by omega, q + 1, r', v2, rfl, rfl, h1, h2, h3, h4, h5, hS2⟩
  refine s_iteE (fun h34 => ?_) (fun h34 => ?_)
  · refine nb_loop (b := b) hs hq (by omega) hb1 hqt (fun j hj => hS2.at_ hB hp hj) (fun h0 => ?_) (fun h1 => ?_)
    · rw [if_neg (by decide)]
      rcases hor with rfl | ⟨h92, e, he, hrq', hqe⟩
      · rw [strE_q h34] at hE
        cases hE
        exact hQ v2 w2 hS2
      · -- within an escape: right behind the backslash
        exfalso
        have : q = r + 1 := by
          unfold escE at he
          split at he
          · cases he; omega
          · split at he
            · rename_i hu
              obtain ⟨e1, _⟩ := hexE_le he
              rcases Nat.lt_or_ge (r + 1) q with h | h
              · exfalso
                have hx : ∀ {n i e : Nat}, hexE s i n = some e → ∀ k, i ≤ k → k < e → isH (bt s (k : Nat)) = true := by
                  intro n
                  induction n with
                  | zero => intro i e h k h1 h2; cases h; omega
                  | succ n ih =>
                    intro i e h k h1 h2
                    unfold hexE at h
                    split at h
                    · rcases Nat.lt_or_ge i k with h3 | h3
                      · exact ih h k h3 h2
                      · have : k = i := by omega
                        subst this; assumption
                    · cases h
                have := isH_iff.1 (hx he q (by omega) hqe)
                omega
              · omega
            · cases he
        subst this
        rw [nb_yes hbr h92] at h0
        omega
    · rw [if_pos rfl]
      rcases hor with rfl | ⟨h92, e, he, hrq', hqe⟩
      · omega
      · rcases Nat.lt_or_ge (q + 1) e with h | h
        · exact next r hbr (by omega) hE hnb (.inr ⟨h92, e, he, by omega, h⟩)
        · have : e = q + 1 := by omega
          subst this
          refine next (q + 1) (by omega) (Nat.le_refl _) ?_ (by rw [nb_no (by omega)]) (.inl rfl)
          rw [strE_esc h92, he] at hE; exact hE
  · refine s_leaf ?_
    rw [if_pos rfl, wrap_in (by omega) (by omega)]
    rcases hor with rfl | ⟨h92, e, he, hrq', hqe⟩
    · by_cases h92 : bt s (q : Nat) = 92
      · rw [strE_esc h92] at hE
        cases he : escE s (q + 1) with
        | none => rw [he] at hE; cases hE
        | some e =>
          have := escE_le he
          exact next q hbr (by omega) (by rw [strE_esc h92]; exact hE) hnb (.inr ⟨h92, e, he, by omega, by omega⟩)
      · have hc : ¬ bt s (q : Nat) < 32 := fun h => by rw [strE_ctl h] at hE; cases hE
        rw [strE_plain hq h34 hc h92] at hE
        exact next (q + 1) (by omega) (Nat.le_refl _) hE (by rw [nb_no h92]) (.inl rfl)
    · rcases Nat.lt_or_ge (q + 1) e with h | h
      · exact next r hbr (by omega) hE hnb (.inr ⟨h92, e, he, by omega, h⟩)
      · have : e = q + 1 := by omega
        subst this
        refine next (q + 1) (by omega) (Nat.le_refl _) (by rw [strE_esc h92, he] at hE; exact hE) ?_ (.inl rfl)
        by_cases hq92 : bt s (q : Nat) = 92
        · -- two backslashes
          have : q = r + 1 := by
            unfold escE at he
            split at he
            · cases he; omega
            · split at he
              · obtain ⟨e1, _⟩ := hexE_le he
                exfalso
                have hx : ∀ {n i e : Nat}, hexE s i n = some e → ∀ k, i ≤ k → k < e → isH (bt s (k : Nat)) = true := by
                  intro n
                  induction n with
                  | zero => intro i e h k h1 h2; cases h; omega
                  | succ n ih =>
                    intro i e h k h1 h2
                    unfold hexE at h
                    split at h
                    · rcases Nat.lt_or_ge i k with h3 | h3
                      · exact ih h k h3 h2
                      · have : k = i := by omega
                        subst this; assumption
                    · cases h
                have := isH_iff.1 (hx he q (by omega) (by omega))
                omega
              · cases he
          subst this
          rw [nb_yes (by omega) hq92, nb_yes hbr h92]
          omega
        · rw [nb_no hq92]
end Go.Proofs.Ytdjilnhalpmabaa.Qs
