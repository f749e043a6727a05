/- The reference's Character and UTF8: what stands at a place of a text in UTF-8. No statement of the set is proved here. -/
import Derived.Test.YtkpnomdmnhhaoaaGreatDoorME
import Derived.Test.YtkpnomdmnhhaoaaGreatDoorTr
namespace Go.Proofs.YtkpnomdmnhhaoaaGreatDoor.Ch
open Go Go.Proofs Go.RowKit Go.Proofs.YtkpnomdmnhhaoaaGreatDoor.Rx Go.Proofs.YtkpnomdmnhhaoaaGreatDoor.Tr Go.Proofs.YtkpnomdmnhhaoaaGreatDoor.Pl Go.Proofs.YtkpnomdmnhhaoaaGreatDoor.Ut

/-- How a character's first byte sets out: how many follow, the least number, the first byte's share. -/
def Cls (b m least c : Nat) : Prop := (m = 1 ∧ 194 ≤ b ∧ b ≤ 223 ∧ least = 128 ∧ b = c + 192) ∨ (m = 2 ∧ 224 ≤ b ∧ b ≤ 239 ∧ least = 2048 ∧ b = c + 224) ∨ (m = 3 ∧ 240 ≤ b ∧ b ≤ 244 ∧ least = 65536 ∧ b = c + 240)
/-- The number behind k more bytes. -/
def ac (s : ByteArray) (i c : Nat) : Nat → Nat
  | 0 => c
  | k + 1 => ac s i c k * 64 + bn s (i + (k + 1)) % 64
theorem ac1 (s : ByteArray) (i c : Nat) : ac s i c 1 = c * 64 + bn s (i + 1) % 64 := rfl
theorem ac2 (s : ByteArray) (i c : Nat) : ac s i c 2 = (c * 64 + bn s (i + 1) % 64) * 64 + bn s (i + 2) % 64 := rfl
theorem ac3 (s : ByteArray) (i c : Nat) : ac s i c 3 = ((c * 64 + bn s (i + 1) % 64) * 64 + bn s (i + 2) % 64) * 64 + bn s (i + 3) % 64 := rfl
theorem cls_ok {s : ByteArray} {i m least c : Nat} (h : Cls (bn s i) m least c) (hz : i + m < s.size) (hc : ∀ k, 1 ≤ k → k ≤ m → 128 ≤ bn s (i + k) ∧ bn s (i + k) ≤ 191) (h1 : least ≤ ac s i c m) (h2 : ac s i c m ≤ 1114111) (h3 : ¬ (55296 ≤ ac s i c m ∧ ac s i c m ≤ 57343)) : ChA s i (m + 1) (ac s i c m) := by
  unfold Cls at h
  rcases h with ⟨e1, a1, a2, e2, e3⟩ | ⟨e1, a1, a2, e2, e3⟩ | ⟨e1, a1, a2, e2, e3⟩ <;> subst e1
  · have c1 := hc 1 (by omega) (by omega)
    rw [ac1] at h1 h2 h3 ⊢
    exact .inr (.inl ⟨rfl, by omega, by omega, by omega, by omega, by omega⟩)
  · have c1 := hc 1 (by omega) (by omega)
    have c2 := hc 2 (by omega) (by omega)
    rw [ac2] at h1 h2 h3 ⊢
    exact .inr (.inr (.inl ⟨rfl, by omega, by omega, by omega, by omega, by omega, by omega, by omega⟩))
  · have c1 := hc 1 (by omega) (by omega)
    have c2 := hc 2 (by omega) (by omega)
    have c3 := hc 3 (by omega) (by omega)
    rw [ac3] at h1 h2 h3 ⊢
    exact .inr (.inr (.inr ⟨rfl, by omega, by omega, by omega, by omega, by omega, by omega, by omega, h2⟩))
theorem cls_no {s : ByteArray} {i m least c n r : Nat} (h : Cls (bn s i) m least c) (hr : ChA s i n r) : n = m + 1 ∧ i + m < s.size ∧ (∀ k, 1 ≤ k → k ≤ m → 128 ≤ bn s (i + k) ∧ bn s (i + k) ≤ 191) ∧ r = ac s i c m ∧ least ≤ r ∧ r ≤ 1114111 ∧ ¬ (55296 ≤ r ∧ r ≤ 57343) := by
  unfold Cls at h
  have hcont := fun k h0 hk => hr.rest (k := k) h0 hk
  unfold ChA at hr
  rcases h with ⟨e1, a1, a2, e2, e3⟩ | ⟨e1, a1, a2, e2, e3⟩ | ⟨e1, a1, a2, e2, e3⟩ <;> subst e1
  · obtain ⟨rfl, b1, b2, b3, b4, b5⟩ : n = 2 ∧ i + 1 < s.size ∧ bn s i / 32 = 6 ∧ bn s (i + 1) / 64 = 2 ∧ r = bn s i % 32 * 64 + bn s (i + 1) % 64 ∧ 128 ≤ r := by omega
    refine ⟨rfl, b1, fun k h1 h2 => ?_, ?_, by omega, by omega, by omega⟩
    · have := hcont k (by omega) (by omega); omega
    · rw [ac1]; omega
  · obtain ⟨rfl, b1, b2, b3, b4, b5, b6, b7⟩ : n = 3 ∧ i + 2 < s.size ∧ bn s i / 16 = 14 ∧ bn s (i + 1) / 64 = 2 ∧ bn s (i + 2) / 64 = 2 ∧ r = bn s i % 16 * 4096 + bn s (i + 1) % 64 * 64 + bn s (i + 2) % 64 ∧ 2048 ≤ r ∧ (r < 55296 ∨ 57344 ≤ r) := by omega
    refine ⟨rfl, b1, fun k h1 h2 => ?_, ?_, by omega, by omega, by omega⟩
    · have := hcont k (by omega) (by omega); omega
    · rw [ac2]; omega
  · obtain ⟨rfl, b1, b2, b3, b4, b5, b6, b7, b8⟩ : n = 4 ∧ i + 3 < s.size ∧ bn s i / 8 = 30 ∧ bn s (i + 1) / 64 = 2 ∧ bn s (i + 2) / 64 = 2 ∧ bn s (i + 3) / 64 = 2 ∧ r = bn s i % 8 * 262144 + bn s (i + 1) % 64 * 4096 + bn s (i + 2) % 64 * 64 + bn s (i + 3) % 64 ∧ 65536 ≤ r ∧ r ≤ 1114111 := by omega
    refine ⟨rfl, b1, fun k h1 h2 => ?_, ?_, by omega, b8, by omega⟩
    · have := hcont k (by omega) (by omega); omega
    · rw [ac3]; omega
theorem ac_le {s : ByteArray} {i m least c : Nat} (h : Cls (bn s i) m least c) : ∀ k, k ≤ 3 → ac s i c k ≤ 9000000 := by
  have l1 := bn_lt s (i + 1); have l2 := bn_lt s (i + 2); have l3 := bn_lt s (i + 3)
  have hc : c ≤ 31 := by unfold Cls at h; omega
  clear h
  intro k hk
  have h3 : ac s i c 3 ≤ 9000000 := by rw [ac3]; omega
  have h2 : ac s i c 2 ≤ 9000000 := by rw [ac2]; omega
  have h1 : ac s i c 1 ≤ 9000000 := by rw [ac1]; omega
  have h0 : ac s i c 0 ≤ 9000000 := by unfold ac; omega
  have : k = 0 ∨ k = 1 ∨ k = 2 ∨ k = 3 := by omega
  rcases this with rfl | rfl | rfl | rfl
  · exact h0
  · exact h1
  · exact h2
  · exact h3
/-- What Character gives. -/
def ChPost (s : ByteArray) (i : Nat) (w : World) (e : Ending) (w' : World) : Prop :=
  w' = w ∧ ((∃ n r : Nat, ChA s i n r ∧ e = .returned (.tuple #[.int .i64 r, .int .i64 n, .bool true])) ∨ ((∀ n r, ¬ ChA s i n r) ∧ e = .returned (.tuple #[.int .i64 65533, .int .i64 1, .bool false])))
theorem char_any {s : ByteArray} {i : Nat} {w : World} (hs : s.size < 4611686018427387904) (hi : i < s.size) : Calls Tryz.prog 21 #[.string s, .int .i64 i] w (ChPost s i w) := by
  refine spec_Character.calls _ _ ?_
  unfold spec_Character.t
  have wb : ∀ j : Nat, IntKind.wrap .i64 (bt s ((j : Nat) : Int)) = ((bn s j : Nat) : Int) := fun j => by
    have := bn_lt s j
    rw [bt_bn, wrap_in (by omega) (by omega)]
  have bad : (∀ n r, ¬ ChA s i n r) → ChPost s i w (.returned (retVal [.int .i64 65533, .int .i64 1, .bool false])) w := fun h => ⟨rfl, .inr ⟨h, rfl⟩⟩
  refine s_chk (by omega) ?_
  rw [wb]
  refine s_cut (fun x w' => w = w' ∧ ∃ m least c : Nat, x = ((c : Int), (m : Int), (least : Int), ()) ∧ Cls (bn s i) m least c) ?_ ?_
  · refine s_iteD (fun h => s_leaf ?_) (fun h => ?_)
    · rw [if_neg (by decide)]
      exact ⟨rfl, rfl, .inl ⟨1, bn s i, .inl ⟨rfl, hi, by omega, rfl⟩, rfl⟩⟩
    refine s_cut (fun x w' => x = (decide (194 ≤ bn s i ∧ bn s i ≤ 223), ()) ∧ w = w') ?_ ?_
    · refine s_iteD (fun h => s_leaf ?_) (fun h => s_leaf ?_)
      · rw [if_pos rfl]
        refine ⟨(decide (((bn s i : Nat) : Int) ≤ 223), ()), rfl, bpair ?_, rfl⟩
        simp only [decide_eq_true_eq]; omega
      · rw [if_pos rfl]
        refine ⟨(false, ()), rfl, ?_, rfl⟩
        rw [decide_eq_false (by omega)]; rfl
    rintro x w1 ⟨rfl, rfl⟩
    simp only [spec_Character.t1]
    rw [wb]
    refine s_cut (fun x w' => w = w' ∧ ∃ m least c : Nat, x = ((c : Int), (m : Int), (least : Int), ()) ∧ Cls (bn s i) m least c) ?_ ?_
    · refine s_iteD (fun h1 => s_leaf ?_) (fun h1 => ?_)
      · rw [if_pos rfl, wrap_in (by omega) (by omega)]
        exact ⟨(((bn s i - 192 : Nat) : Int), ((1 : Nat) : Int), ((128 : Nat) : Int), ()), by rw [Int.ofNat_sub (by omega)]; rfl, rfl, 1, 128, bn s i - 192, rfl, .inl ⟨rfl, h1.1, h1.2, rfl, by omega⟩⟩
      refine s_cut (fun x w' => x = (decide (224 ≤ bn s i ∧ bn s i ≤ 239), ()) ∧ w = w') ?_ ?_
      · refine s_iteD (fun h => s_leaf ?_) (fun h => s_leaf ?_)
        · rw [if_pos rfl]
          refine ⟨(decide (((bn s i : Nat) : Int) ≤ 239), ()), rfl, bpair ?_, rfl⟩
          simp only [decide_eq_true_eq]; omega
        · rw [if_pos rfl]
          refine ⟨(false, ()), rfl, ?_, rfl⟩
          rw [decide_eq_false (by omega)]; rfl
      rintro x w1 ⟨rfl, rfl⟩
      simp only [spec_Character.t2]
      rw [wb]
      refine s_cut (fun x w' => w = w' ∧ ∃ m least c : Nat, x = ((c : Int), (m : Int), (least : Int), ()) ∧ Cls (bn s i) m least c) ?_ ?_
      · refine s_iteD (fun h2 => s_leaf ?_) (fun h2 => ?_)
        · rw [if_pos rfl, wrap_in (by omega) (by omega)]
          exact ⟨(((bn s i - 224 : Nat) : Int), ((2 : Nat) : Int), ((2048 : Nat) : Int), ()), by rw [Int.ofNat_sub (by omega)]; rfl, rfl, 2, 2048, bn s i - 224, rfl, .inr (.inl ⟨rfl, h2.1, h2.2, rfl, by omega⟩)⟩
        refine s_cut (fun x w' => x = (decide (240 ≤ bn s i ∧ bn s i ≤ 244), ()) ∧ w = w') ?_ ?_
        · refine s_iteD (fun h => s_leaf ?_) (fun h => s_leaf ?_)
          · rw [if_pos rfl]
            refine ⟨(decide (((bn s i : Nat) : Int) ≤ 244), ()), rfl, bpair ?_, rfl⟩
            simp only [decide_eq_true_eq]; omega
          · rw [if_pos rfl]
            refine ⟨(false, ()), rfl, ?_, rfl⟩
            rw [decide_eq_false (by omega)]; rfl
        rintro x w1 ⟨rfl, rfl⟩
        simp only [spec_Character.t3]
        rw [wb]
        refine s_iteD (fun h3 => s_leaf ?_) (fun h3 => s_leaf ?_)
        · rw [if_pos rfl, wrap_in (by omega) (by omega)]
          exact ⟨(((bn s i - 240 : Nat) : Int), ((3 : Nat) : Int), ((65536 : Nat) : Int), ()), by rw [Int.ofNat_sub (by omega)]; rfl, rfl, 3, 65536, bn s i - 240, rfl, .inr (.inr ⟨rfl, h3.1, h3.2, rfl, by omega⟩)⟩
        · rw [if_neg (by decide), if_neg (by decide), if_neg (by decide)]
          refine ⟨rfl, bad fun n r hr => ?_⟩
          unfold ChA at hr
          omega
      · rintro x w1 ⟨rfl, m, least, c, rfl, hc⟩
        simp only [spec_Character.t4]
        refine s_leaf ?_
        rw [if_pos rfl]
        exact ⟨((c : Int), (m : Int), (least : Int), ()), rfl, rfl, m, least, c, rfl, hc⟩
    · rintro x w1 ⟨rfl, m, least, c, rfl, hc⟩
      simp only [spec_Character.t5]
      refine s_leaf ?_
      rw [if_pos rfl]
      exact ⟨((c : Int), (m : Int), (least : Int), ()), rfl, rfl, m, least, c, rfl, hc⟩
  rintro x w1 ⟨rfl, m, least, c, rfl, hc⟩
  simp only [spec_Character.t6]
  have hm : 1 ≤ m ∧ m ≤ 3 := by unfold Cls at hc; omega
  have hle : least ≤ 65536 := by unfold Cls at hc; omega
  rw [wrap_in (by omega) (by omega)]
  refine s_iteD (fun h => s_leaf ⟨rfl, bad fun n r hr => ?_⟩) (fun h => ?_)
  · have := (cls_no hc hr).2.1; omega
  refine s_loop (fun n x w' => ∃ k : Nat, n = m + 1 - k ∧ x = (((k + 1 : Nat) : Int), ((ac s i c k : Nat) : Int), ()) ∧ k ≤ m ∧ (∀ j, 1 ≤ j → j ≤ k → 128 ≤ bn s (i + j) ∧ bn s (i + j) ≤ 191) ∧ w = w') (m + 1) ((1 : Int), (c : Int), ()) rfl
    ⟨0, rfl, rfl, Nat.zero_le _, fun j h1 h2 => by omega, rfl⟩ ?_
  rintro n x w1 ⟨k, rfl, rfl, hk, hj, rfl⟩
  simp only [spec_Character.t7]
  have hak := ac_le hc k (by omega)
  have ixw : IntKind.wrap IntKind.i64 (((i : Nat) : Int) + ((k + 1 : Nat) : Int)) = ((i + (k + 1) : Nat) : Int) := by rw [wrap_in (by omega) (by omega)]; omega
  refine s_iteD (fun h1 => ?_) (fun h1 => ?_)
  · rw [ixw]
    refine s_chk (by omega) ?_
    rw [wb]
    have lb := bn_lt s (i + (k + 1))
    refine s_cut (fun x w' => x = (decide (¬ (128 ≤ bn s (i + (k + 1)) ∧ bn s (i + (k + 1)) ≤ 191)), ()) ∧ w = w') ?_ ?_
    · refine s_iteD (fun h => s_leaf ?_) (fun h => s_leaf ?_)
      · rw [if_pos rfl]
        refine ⟨(true, ()), rfl, ?_, rfl⟩
        rw [decide_eq_true (by omega)]; rfl
      · rw [if_pos rfl]
        refine ⟨(decide (((bn s (i + (k + 1)) : Nat) : Int) > 191), ()), rfl, bpair ?_, rfl⟩
        simp only [decide_eq_true_eq]; omega
    rintro x w1 ⟨rfl, rfl⟩
    simp only [spec_Character.t8]
    refine s_iteD (fun h2 => s_leaf ?_) (fun h2 => s_leaf ?_)
    · rw [if_neg (by decide)]
      refine ⟨rfl, bad fun n r hr => ?_⟩
      exact h2 ((cls_no hc hr).2.2.1 (k + 1) (by omega) (by omega))
    · have h3 : 128 ≤ bn s (i + (k + 1)) ∧ bn s (i + (k + 1)) ≤ 191 := by omega
      rw [if_pos rfl, ixw, wb, wrap_in (n := ((k + 1 : Nat) : Int) + 1) (by omega) (by omega), wrap_in (n := ((ac s i c k : Nat) : Int) * 64) (by omega) (by omega), wrap_in (n := ((ac s i c k : Nat) : Int) * 64 + ((bn s (i + (k + 1)) : Nat) : Int)) (by omega) (by omega), wrap_in (by omega) (by omega)]
      refine ⟨m + 1 - (k + 1), (((k + 1 + 1 : Nat) : Int), ((ac s i c (k + 1) : Nat) : Int), ()), ?_, by omega, k + 1, rfl, rfl, by omega, fun j a b => ?_, rfl⟩
      · have : ((ac s i c (k + 1) : Nat) : Int) = ((ac s i c k : Nat) : Int) * 64 + ((bn s (i + (k + 1)) : Nat) : Int) - 128 := by simp only [ac]; omega
        rw [this]; rfl
      · rcases Nat.lt_or_ge k j with g | g
        · have : j = k + 1 := by omega
          subst this; exact h3
        · exact hj j a g
  · have hkm : k = m := by omega
    subst hkm
    refine s_iteD (fun h2 => s_leaf ?_) (fun h2 => ?_)
    · rw [if_neg (by decide)]
      exact ⟨rfl, bad fun n r hr => by have := cls_no hc hr; omega⟩
    refine s_iteD (fun h3 => s_leaf ?_) (fun h3 => ?_)
    · rw [if_neg (by decide)]
      exact ⟨rfl, bad fun n r hr => by have := cls_no hc hr; omega⟩
    refine s_call high_any ?_
    rintro e w2 ⟨rfl, rfl⟩
    refine ⟨_, rfl, ?_⟩
    refine s_iteD (fun h4 => s_leaf ?_) (fun h4 => ?_)
    · rw [if_neg (by decide)]
      exact ⟨rfl, bad fun n r hr => by have := cls_no hc hr; omega⟩
    refine s_call low_any ?_
    rintro e w3 ⟨rfl, rfl⟩
    refine ⟨_, rfl, ?_⟩
    refine s_iteD (fun h5 => s_leaf ?_) (fun h5 => s_leaf ?_)
    · rw [if_neg (by decide)]
      exact ⟨rfl, bad fun n r hr => by have := cls_no hc hr; omega⟩
    · rw [if_neg (by decide), wrap_in (by omega) (by omega)]
      refine ⟨rfl, rfl, .inl ⟨k + 1, ac s i c k, cls_ok hc (by omega) hj (by omega) (by omega) (by omega), rfl⟩⟩
/-- From a place on the text is UTF-8. -/
inductive U8 (s : ByteArray) : Nat → Prop
  | done : U8 s s.size
  | step {i n r : Nat} : ChA s i n r → U8 s (i + n) → U8 s i
/-- A place where a character ends, gone to from the beginning. -/
inductive Bd (s : ByteArray) : Nat → Prop
  | zero : Bd s 0
  | step {i n r : Nat} : Bd s i → ChA s i n r → Bd s (i + n)
theorem Bd.le {s : ByteArray} {i : Nat} (h : Bd s i) : i ≤ s.size := by
  cases h with
  | zero => exact Nat.zero_le _
  | step _ h => exact h.width.2.2
theorem U8.bd {s : ByteArray} {i : Nat} (h : U8 s i) : Bd s i → Bd s s.size := by
  induction h with
  | done => exact id
  | step hc _ ih => exact fun hb => ih (hb.step hc)
theorem U8.next {s : ByteArray} {i n r : Nat} (h : ChA s i n r) : U8 s (i + n) ↔ U8 s i := by
  constructor
  · exact fun g => .step h g
  · intro g
    generalize hj : i = j at g
    cases g with
    | done => have := h.width; omega
    | step h' g =>
      subst hj
      obtain ⟨rfl, _⟩ := h.uniq h'
      exact g
theorem U8.head {s : ByteArray} {i : Nat} (g : U8 s i) (hi : i < s.size) : ∃ n r, ChA s i n r ∧ U8 s (i + n) := by
  cases g with
  | done => omega
  | step h g => exact ⟨_, _, h, g⟩
theorem utf8_any {s : ByteArray} {w : World} (hs : s.size < 4611686018427387904) : Calls Tryz.prog 12 #[.string s] w fun e w' => w' = w ∧ ∃ b, e = .returned (.bool b) ∧ (b = true ↔ U8 s 0) := by
  refine spec_UTF8.calls _ ?_
  unfold spec_UTF8.t
  refine s_loop (fun n x w' => ∃ i : Nat, n = s.size - i ∧ x = ((i : Int), ()) ∧ i ≤ s.size ∧ (U8 s i ↔ U8 s 0) ∧ w = w') s.size ((0 : Int), ()) rfl ⟨0, rfl, rfl, Nat.zero_le _, Iff.rfl, rfl⟩ ?_
  rintro n x w1 ⟨i, rfl, rfl, hi, hu, rfl⟩
  simp only [spec_UTF8.t1]
  refine s_iteD (fun h => ?_) (fun h => s_leaf ?_)
  · refine s_call (char_any hs (by omega)) ?_
    rintro e w1 ⟨rfl, ⟨n, r, hc, rfl⟩ | ⟨hc, rfl⟩⟩
    · refine ⟨((r : Int), (n : Int), true, ()), rfl, ?_⟩
      refine sat_iteF.2 (s_leaf ?_)
      have hw := hc.width
      rw [if_pos rfl]
      refine ⟨s.size - (i + n), (((i + n : Nat) : Int), ()), ?_, by omega, i + n, rfl, rfl, by omega, (U8.next hc).trans hu, rfl⟩
      show [Value.int .i64 (IntKind.wrap .i64 ((i : Int) + (n : Int)))] = _
      rw [wrap_in (by omega) (by omega)]
      rfl
    · refine ⟨((65533 : Int), (1 : Int), false, ()), rfl, ?_⟩
      refine sat_iteT.2 (s_leaf ?_)
      rw [if_neg (by decide)]
      refine ⟨rfl, rfl, false, rfl, ⟨fun g => (by cases g), fun g => ?_⟩⟩
      have g := hu.2 g
      generalize hj : i = j at g
      cases g with
      | done => omega
      | step h' _ => subst hj; exact absurd h' (hc _ _)
  · rw [if_neg (by decide)]
    have e : i = s.size := by omega
    subst e
    exact ⟨rfl, rfl, true, rfl, ⟨fun _ => hu.1 .done, fun _ => rfl⟩⟩
end Go.Proofs.YtkpnomdmnhhaoaaGreatDoor.Ch
