/- pretty's spec: back over blanks, and the whole. No statement of the set is proved here. -/
import Derived.Test.YtdjilnhalpmabaaQs
namespace Go.Proofs.Ytdjilnhalpmabaa.Qs
open Go Go.Proofs Go.Proofs.Ytdjilnhalpmabaa.Rx Go.Proofs.Ytdjilnhalpmabaa.Tr Go.Proofs.Ytdjilnhalpmabaa.Pl Go.Proofs.Ytdjilnhalpmabaa.Sr
variable {w0 w : World} {p : Addr} {s : ByteArray} {v : Sl}

theorem ipair {a b : Int} (h : a = b) : (a, ()) = (b, ()) := by rw [h]
theorem back_loop {i q : Nat} {Q : Nat → List Value → World → Prop} (hs : s.size < 4294967295) (hq : q < i) (hi : i < s.size) (h : St w0 p s v (i + 1) (bytesC s (i + 1)) w) (h32 : 32 < bt s (q : Nat)) (hk : ∀ k : Nat, q < k → k < i → bt s (k : Nat) ≤ 32)
    (h1 : bt s (q : Nat) ≠ 44 → Q 1 [.int .i64 ((i + 1 : Nat) : Int), slV v] w) (h2 : bt s (q : Nat) = 44 → ∀ w', St w0 p s v (i + 1) ((bytesC s (i + 1)).set q (.int .u8 32)) w' → Q 1 [.int .i64 ((i + 1 : Nat) : Int), slV v] w') :
    sat Try.prog (.loop 2 (.cons (.int .i64) .nil) [(Value.int IntKind.i64 (IntKind.wrap IntKind.i64 ((((v.2).1 : Nat) : Int) - (2 : Int))))] (fun z => pretty_spec.t14 (i : Int) v z.1)) Q w := by
  obtain ⟨g, cap, rfl, hb, hc, hf, hset⟩ := owns_some h.own (by omega)
  show sat Try.prog (.loop 2 (.cons (.int .i64) .nil) [(Value.int IntKind.i64 (IntKind.wrap IntKind.i64 (((i + 1 : Nat) : Int) - (2 : Int))))] (fun z => pretty_spec.t14 (i : Int) (some ⟨g, 0, none⟩, i + 1, cap) z.1)) Q w
  rw [wrap_in (by omega) (by omega)]
  refine s_loop (fun m x w' => ∃ k : Nat, x = ((i : Int) - 1 - k, ()) ∧ q + k + 1 ≤ i ∧ m = i - k ∧ w = w') i (((i + 1 : Nat) : Int) - 2, ()) rfl ⟨0, ipair (by omega), by omega, rfl, rfl⟩ ?_
  rintro m x w' ⟨k, rfl, hk1, rfl, rfl⟩
  obtain ⟨j, hj⟩ : ∃ j, i - k = j + 1 := ⟨i - k - 1, by omega⟩
  have ej : (i : Int) - 1 - k = (j : Int) := by omega
  simp only [pretty_spec.t14]
  rw [ej]
  have hcj : w.cell? ((⟨g, 0, none⟩ : Addr).add (Int.toNat (j : Int) * 1)) = some (.int .u8 (bt s (j : Nat))) := by
    rw [Int.toNat_natCast, Nat.mul_one, addr_add, Nat.zero_add, hc j (by omega), bytesC_get (by omega)]
  have e1 : IntKind.wrap .i64 ((i : Int) + 1) = ((i + 1 : Nat) : Int) := by rw [wrap_in (by omega) (by omega)]; rfl
  refine s_iteD (fun _ => ?_) (fun h => by omega)
  refine s_chk (by omega) (s_ptr (s_load (bt s (j : Nat)) hcj ?_))
  refine s_iteD (fun hle => s_leaf ?_) (fun hgt => ?_)
  · have hqj : q < j := by
      rcases Nat.lt_or_ge q j with h | h
      · exact h
      · have : j = q := by omega
        subst this; omega
    rw [if_pos rfl, wrap_in (by omega) (by omega)]
    exact ⟨i - (k + 1), ((j : Int) - 1, ()), rfl, by omega, k + 1, by rw [show (i : Int) - 1 - ((k + 1 : Nat) : Int) = (j : Int) - 1 from by omega]; rfl, by omega, rfl, rfl⟩
  · have hqj : j = q := by
      rcases Nat.lt_or_ge q j with h | h
      · have := hk j h (by omega); omega
      · omega
    subst hqj
    refine s_chk (by omega) (s_ptr (s_load (bt s (j : Nat)) hcj ?_))
    rw [e1]
    refine s_iteE (fun h44 => ?_) (fun h44 => s_leaf ?_)
    · refine s_chk (by omega) (s_ptr (s_store hcj ?_ (s_leaf ?_)))
      · rw [Int.toNat_natCast, Nat.mul_one, addr_add, Nat.zero_add]; exact hf j
      · rw [if_neg (by decide), Int.toNat_natCast, Nat.mul_one, addr_add, Nat.zero_add]
        exact h2 h44 _ ⟨hset j _ (by omega), h.kp.set (a := ⟨g, j, none⟩) hb _, rfl⟩
    · rw [if_neg (by decide)]
      exact h1 h44

theorem spec_any {c cap : Nat} {R : ByteArray} (hs : s.size < 4294967295) (hB : Byts w0 p s) (hp : p.block < w0.heap.size) (h0 : 0 < s.size) (hrun : Run s 0 (s.size - 1)) (hend : bt s ((s.size - 1 : Nat) : Int) = 93 ∨ bt s ((s.size - 1 : Nat) : Int) = 125)
    (hc : c < s.size - 1) (h44 : bt s (c : Nat) = 44) (hbl : ∀ k : Nat, c < k → k < s.size - 1 → bt s (k : Nat) ≤ 32) (hR : (bytesC s s.size).set c (.int .u8 32) = bytesC R s.size) :
    Calls Try.prog 36 #[.slice (some p) s.size cap, .slice none 0 0] w0 fun e w' => ∃ v' : Sl, e = .returned (slV v') ∧ St w0 p s v' s.size (bytesC R s.size) w' := by
  refine pretty_spec.calls _ _ _ _ _ _ ?_
  unfold pretty_spec.t
  refine s_chk (by omega) ?_
  refine s_loop (fun n x w' => ∃ (i : Nat) (v : Sl), x = ((i : Int), v, ()) ∧ n = s.size - i ∧ ((i ≤ s.size - 1 ∧ Run s i (s.size - 1) ∧ St w0 p s v i (bytesC s i) w') ∨ (i = s.size ∧ St w0 p s v s.size (bytesC R s.size) w')))
    s.size ((0 : Int), (none, 0, 0), ()) rfl ⟨0, (none, 0, 0), rfl, rfl, .inl ⟨by omega, hrun, ⟨World.ownsRow_nil _ _ _ _, Kp.refl _ _, rfl⟩⟩⟩ ?_
  rintro n x w1 ⟨i, v, rfl, rfl, ⟨hi, hr, hS⟩ | ⟨rfl, hS⟩⟩
  · have hlt : i < s.size := by omega
    simp only [pretty_spec.t1]
    refine s_iteD (fun _ => ?_) (fun h => by omega)
    refine s_chk (by omega) (s_ptr (s_load (bt s (i : Nat)) (by rw [Int.toNat_natCast]; exact hS.at_ hB hp hlt) ?_))
    have h47 : bt s (i : Nat) ≠ 47 := by
      cases hr with
      | refl => omega
      | byte _ _ h _ _ _ => exact h
      | str h _ _ => omega
      | close _ h _ _ _ _ _ => omega
    refine s_cut (fun x w' => x = ((i : Int), v, ()) ∧ w1 = w') (s_iteE (fun h => absurd h h47) (fun _ => s_leaf (by rw [if_pos rfl]; exact ⟨_, rfl, rfl, rfl⟩))) ?_
    rintro x w' ⟨rfl, rfl⟩
    simp only [pretty_spec.t10]
    refine s_chk (by omega) (s_ptr (s_load (bt s (i : Nat)) (by rw [Int.toNat_natCast]; exact hS.at_ hB hp hlt) ?_))
    refine hS.push (bt s (i : Nat)) (by omega) fun v2 w2 hS2 => ?_
    rw [← bytesC_succ] at hS2
    refine s_chk (by omega) (s_ptr (s_load (bt s (i : Nat)) (by rw [Int.toNat_natCast]; exact hS2.at_ hB hp hlt) ?_))
    have e1 : IntKind.wrap .i64 ((i : Int) + 1) = ((i + 1 : Nat) : Int) := by rw [wrap_in (by omega) (by omega)]; rfl
    rw [e1]
    have next : ∀ (j : Nat) (v3 : Sl) (w3 : World), i < j → Run s j (s.size - 1) → St w0 p s v3 j (bytesC s j) w3 → ∃ n' x', [Value.int IntKind.i64 (j : Int), slV v3] = (Sh.cons (.int .i64) (.cons .slice .nil)).vals x' ∧ n' < s.size - i ∧
        ∃ (i : Nat) (v : Sl), x' = ((i : Int), v, ()) ∧ n' = s.size - i ∧ ((i ≤ s.size - 1 ∧ Run s i (s.size - 1) ∧ St w0 p s v i (bytesC s i) w3) ∨ (i = s.size ∧ St w0 p s v s.size (bytesC R s.size) w3)) := fun j v3 w3 hj hr' hS' =>
      ⟨s.size - j, ((j : Int), v3, ()), rfl, by have := hr'.le; omega, j, v3, rfl, rfl, .inl ⟨hr'.le, hr', hS'⟩⟩
    refine s_iteE (fun h34 => ?_) (fun h34 => ?_)
    · cases hr with
      | refl => omega
      | byte _ h _ _ _ _ => exact absurd h34 h
      | close _ h _ _ _ _ _ => omega
      | @str _ m _ h1 hm hr' =>
        have hm' := strE_le hm
        refine str_loop hs hB hp (by omega) (by rw [show i + 1 - 1 = i from by omega]; exact h34) hm hS2 fun v3 w3 hS3 => ?_
        rw [if_pos rfl]
        exact next m v3 w3 (by omega) hr' hS3
    · have hld : w2.cell? (p.add (Int.toNat (i : Int) * 1)) = some (.int .u8 (bt s (i : Nat))) := by rw [Int.toNat_natCast]; exact hS2.at_ hB hp hlt
      refine s_cut (fun x w' => x = (decide (bt s (i : Nat) = 125 ∨ bt s (i : Nat) = 93), ()) ∧ w2 = w') ?_ ?_
      · refine s_chk (by omega) (s_ptr (s_load (bt s (i : Nat)) hld ?_))
        refine s_iteE (fun h => s_leaf ?_) (fun h => s_chk (by omega) (s_ptr (s_load (bt s (i : Nat)) hld (s_leaf ?_))))
        · rw [if_pos rfl]; exact ⟨(true, ()), rfl, bpair (by simp [h]), rfl⟩
        · rw [if_pos rfl]; exact ⟨(bt s (i : Nat) == 93, ()), rfl, bpair (by simp [h]), rfl⟩
      rintro x w' ⟨rfl, rfl⟩
      simp only [pretty_spec.t13]
      refine s_iteD (fun hcl => ?_) (fun hcl => ?_)
      · by_cases hL : i = s.size - 1
        · -- the last bracket
          subst hL
          refine back_loop hs hc (by omega) hS2 (by omega) hbl (fun h => absurd h44 h) (fun _ w3 hS3 => ?_)
          rw [if_pos rfl]
          have es : s.size - 1 + 1 = s.size := by omega
          rw [es] at hS3 ⊢
          rw [hR] at hS3
          exact ⟨0, ((s.size : Int), v2, ()), rfl, by omega, s.size, v2, rfl, by omega, .inr ⟨rfl, hS3⟩⟩
        · cases hr with
          | refl => exact absurd rfl hL
          | byte _ _ _ h1 h2 _ => omega
          | str h _ _ => exact absurd h h34
          | @close _ q _ _ _ hq h3 h4 h5 hr' =>
            refine back_loop hs hq hlt hS2 h4 h5 (fun _ => ?_) (fun h => absurd h h3)
            rw [if_pos rfl]
            exact next (i + 1) v2 w2 (by omega) hr' hS2
      · refine s_leaf ?_
        rw [if_pos rfl, e1]
        cases hr with
        | refl => omega
        | byte _ _ _ _ _ hr' => exact next (i + 1) v2 w2 (by omega) hr' hS2
        | str h _ _ => exact absurd h h34
        | close _ h _ _ _ _ _ => omega
  · simp only [pretty_spec.t1]
    refine s_iteD (fun h => by omega) (fun _ => s_leaf ?_)
    rw [if_neg (by decide)]
    exact ⟨rfl, v, rfl, hS⟩

theorem prSpec_any {c : Nat} {R : ByteArray} (hs : s.size < 4294967295) (h0 : 0 < s.size) (hrun : Run s 0 (s.size - 1)) (hend : bt s ((s.size - 1 : Nat) : Int) = 93 ∨ bt s ((s.size - 1 : Nat) : Int) = 125)
    (hc : c < s.size - 1) (h44 : bt s (c : Nat) = 44) (hbl : ∀ k : Nat, c < k → k < s.size - 1 → bt s (k : Nat) ≤ 32) (hRz : R.size = s.size) (hR : ∀ k : Nat, k < s.size → bt R (k : Nat) = if k = c then 32 else bt s (k : Nat)) :
    Calls Try.prog 16 #[.string s] w0 fun e w' => e = .returned (.string R) ∧ Kp Off w0 w' := by
  refine impl_PrSpec.calls _ ?_
  unfold impl_PrSpec.t
  obtain ⟨cp, w1, h1, h2, h3⟩ := convert_bytes (P := Try.prog) (w := w0) s Try.underlying9 Try.underlying55 Try.underlying5
  refine s_eff (some ⟨w0.heap.size, 0, none⟩, s.size, cp) h1 ?_
  have hp : w0.heap.size < w1.heap.size := World.block_lt_of_cell? w1 ⟨w0.heap.size, 0, none⟩ (by have := h2.2 0 h0; exact this)
  have hset : (bytesC s s.size).set c (.int .u8 32) = bytesC R s.size := by
    apply List.ext_getElem?
    intro k
    rw [List.getElem?_set]
    by_cases hk : k < s.size
    · rw [bytesC_get hk, bytesC_get hk, hR k hk, bytesC_length]
      by_cases hkc : c = k
      · rw [if_pos hkc, if_pos (by omega), if_pos hkc.symm]
      · rw [if_neg hkc, if_neg (fun e => hkc e.symm)]
    · rw [List.getElem?_eq_none (by rw [bytesC_length]; omega), List.getElem?_eq_none (by rw [bytesC_length]; omega), if_neg (by omega)]
  refine s_call (R := fun e w' => ∃ v' : Sl, e = .returned (slV v') ∧ St w1 ⟨w0.heap.size, 0, none⟩ s v' s.size (bytesC R s.size) w') ?_ ?_
  · refine pretty_Spec.calls _ _ _ ?_
    unfold pretty_Spec.t
    refine s_call (spec_any hs h2 hp h0 hrun hend hc h44 hbl hset) ?_
    rintro e w2 ⟨v', rfl, hS⟩
    exact ⟨v', rfl, s_leaf ⟨rfl, v', rfl, hS⟩⟩
  · rintro e w2 ⟨v', rfl, hS⟩
    refine ⟨v', rfl, ?_⟩
    have hS' := hS.own
    rw [← hRz] at hS'
    refine s_eff R (toString_run hS' (by omega)) (s_leaf ⟨rfl, rfl, ?_⟩)
    exact h3.then hS.kp fun q hq h => by have := h3.size; omega
end Go.Proofs.Ytdjilnhalpmabaa.Qs
