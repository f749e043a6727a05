/- utf8.EncodeRune into a window of a row (XEn, over a row that holds other cells too). No statement of the set is proved here. -/
import Derived.Test.YtbmmpnjpejamaaaDoorUp
import Derived.Test.YtbmmpnjpejamaaaDoorTr
import Derived.Test.YtbmmpnjpejamaaaDoorPd
namespace Go.Proofs.YtbmmpnjpejamaaaDoor.Je
open Go Go.Proofs Go.RowKit Go.Proofs.YtbmmpnjpejamaaaDoor.Rx Go.Proofs.YtbmmpnjpejamaaaDoor.Tr Go.Proofs.YtbmmpnjpejamaaaDoor.Pl Go.Proofs.YtbmmpnjpejamaaaDoor.Ut Go.Proofs.YtbmmpnjpejamaaaDoor.Bw Go.Proofs.YtbmmpnjpejamaaaDoor.Uq

def cb (l : List UInt8) : List Value := l.map bv
theorem cb_len (l : List UInt8) : (cb l).length = l.length := List.length_map _
/-- Bytes laid over others. -/
def put (l : List UInt8) (c : Nat) : List UInt8 → List UInt8
  | [] => l
  | b :: e => put (l.set c b) (c + 1) e
theorem put_len (l : List UInt8) (c : Nat) : ∀ e, (put l c e).length = l.length
  | [] => rfl
  | b :: e => by unfold put; rw [put_len (l.set c b) (c + 1) e, List.length_set]
termination_by e => e.length
theorem put_take (e : List UInt8) : ∀ (l : List UInt8) (c : Nat), c + e.length ≤ l.length → (put l c e).take (c + e.length) = l.take c ++ e := by
  induction e with
  | nil => intro l c _; simp [put]
  | cons b e ih =>
    intro l c h
    simp only [List.length_cons] at h
    have := ih (l.set c b) (c + 1) (by rw [List.length_set]; omega)
    unfold put
    rw [show c + (b :: e).length = c + 1 + e.length by simp only [List.length_cons]; omega, this]
    have e1 : (l.set c b).take (c + 1) = l.take c ++ [b] := by
      have hc : c < l.length := by omega
      rw [List.take_add_one, List.take_set, List.set_eq_of_length_le (by rw [List.length_take]; exact Nat.min_le_left _ _), List.getElem?_set_self hc]; rfl
    rw [e1]; simp
theorem s_stb {Q : Nat → List Value → World → Prop} {w : World} {g c j : Nat} {T' : TypeId} {l : List UInt8} {pre post : List Value} {x : Int} {K : T} (b : UInt8) (hb : Blk w g (pre ++ (cb l ++ post)) T') (hj : c + j < l.length) (hx : x = (b.toNat : Int))
    (h : ∀ w', Blk w' g (pre ++ (cb (l.set (c + j) b) ++ post)) T' → Kp (On g) w w' → sat Tryd.prog K Q w') : sat Tryd.prog (.store (Addr.add ⟨g, pre.length + c, none⟩ j) (.int .u8 x) K) Q w := by
  subst hx
  rw [addr_add]
  have h1 : w.cell? ⟨g, pre.length + c + j, none⟩ = some (bv l[c + j]) := by
    rw [hb.cell, List.getElem?_append_right (by omega), show pre.length + c + j - pre.length = c + j by omega, List.getElem?_append_left (by rw [cb_len]; exact hj), cb, List.getElem?_map, List.getElem?_eq_getElem hj]; rfl
  refine s_store h1 (hb.free _) (h _ ?_ ((Kp.refl (On g) w).on _ _))
  have := hb.set (pre.length + c + j) (bv b)
  have e : (pre ++ (cb l ++ post)).set (pre.length + c + j) (bv b) = pre ++ (cb (l.set (c + j) b) ++ post) := by
    rw [List.set_append_right _ _ (by omega), show pre.length + c + j - pre.length = c + j by omega, List.set_append_left _ _ (by rw [cb_len]; exact hj)]
    unfold cb; rw [List.map_set]
  rw [e] at this
  exact this
theorem or192 : ∀ q, q < 32 → 192 ||| q = 192 + q := by decide
theorem or224 : ∀ q, q < 16 → 224 ||| q = 224 + q := by decide
theorem or240 : ∀ q, q < 8 → 240 ||| q = 240 + q := by decide
theorem or128 : ∀ q, q < 64 → 128 ||| q = 128 + q := by decide
theorem or8 {a b : Nat} (ha : a < 256) (hb : b < 256) (hab : a ||| b < 256) : IntKind.wrap .u8 (((BitVec.toNat ((BitVec.ofInt 8 (a : Int)) ||| (BitVec.ofInt 8 (IntKind.wrap .u8 (b : Int)))) : Nat)) : Int) = ((a ||| b : Nat) : Int) := by
  rw [wrapB_in (n := (b : Int)) (by omega) (by omega), BitVec.ofInt_natCast, BitVec.ofInt_natCast, BitVec.toNat_or, BitVec.toNat_ofNat, BitVec.toNat_ofNat, Nat.mod_eq_of_lt (by omega : a < 2 ^ 8), Nat.mod_eq_of_lt (by omega : b < 2 ^ 8), wrapB_in (by omega) (by omega)]
theorem and63 (x : Nat) : IntKind.wrap .u8 (((BitVec.toNat ((BitVec.ofInt 8 (IntKind.wrap .u8 (x : Int))) &&& (BitVec.ofInt 8 (63 : Int)))) : Nat) : Int) = ((x % 64 : Nat) : Int) := by
  have h1 : IntKind.wrap .u8 (x : Int) = ((x % 256 : Nat) : Int) := by rw [IntKind.wrap_u8]; omega
  have h2 : BitVec.ofInt 8 (63 : Int) = BitVec.ofNat 8 63 := by decide
  have h3 : x % 256 &&& 63 = x % 256 % 64 := Nat.and_two_pow_sub_one_eq_mod _ 6
  rw [h1, h2, BitVec.ofInt_natCast, BitVec.toNat_and, BitVec.toNat_ofNat, BitVec.toNat_ofNat, Nat.mod_eq_of_lt (by omega : x % 256 < 2 ^ 8), Nat.mod_eq_of_lt (by decide : 63 < 2 ^ 8), h3, wrapB_in (by omega) (by omega)]
  omega
theorem cnt (x : Nat) : IntKind.wrap .u8 (((BitVec.toNat ((BitVec.ofInt 8 (128 : Int)) ||| (BitVec.ofInt 8 (IntKind.wrap IntKind.u8 (((BitVec.toNat ((BitVec.ofInt 8 (IntKind.wrap IntKind.u8 (x : Int))) &&& (BitVec.ofInt 8 (63 : Int)))) : Nat) : Int))))) : Nat) : Int) = ((128 + x % 64 : Nat) : Int) := by
  rw [and63]
  have h := or128 (x % 64) (Nat.mod_lt _ (by decide))
  have h2 := or8 (a := 128) (b := x % 64) (by decide) (by omega) (by omega)
  rw [wrapB_in (n := ((x % 64 : Nat) : Int)) (by omega) (by omega)] at h2
  have h2 : IntKind.wrap .u8 (((BitVec.toNat ((BitVec.ofInt 8 (128 : Int)) ||| (BitVec.ofInt 8 ((x % 64 : Nat) : Int)))) : Nat) : Int) = ((128 ||| x % 64 : Nat) : Int) := h2
  rw [h2, h]
theorem fd (n d : Nat) : Int.fdiv (n : Int) (d : Int) = ((n / d : Nat) : Int) := by rw [Int.ofNat_fdiv]
theorem byte_of {n : Nat} {x : Int} (h : x = (n : Int)) (hn : n < 256) : x = ((UInt8.ofNat n).toNat : Int) := by
  rw [h, UInt8.toNat_ofNat_of_lt' (by simpa using hn)]
theorem encode_any {w : World} {h c m cap T' : Nat} {l : List UInt8} {pre post : List Value} {n : Nat} (hb : Blk w h (pre ++ (cb l ++ post)) T') (hn : n ≤ 1114111) (hs : ¬ (55296 ≤ n ∧ n ≤ 57343)) (hm : (enc n).length ≤ m) (hc : c + m ≤ l.length) :
    Calls Tryd.prog 73 #[.slice (some ⟨h, pre.length + c, none⟩) m cap, .int .i32 n] w fun e w' => e = .returned (.int .i64 ((enc n).length : Nat)) ∧ Blk w' h (pre ++ (cb (put l c (enc n)) ++ post)) T' ∧ Kp (On h) w w' := by
  refine utf8_EncodeRune.calls _ _ _ _ ?_
  unfold utf8_EncodeRune.t
  have wu : IntKind.wrap IntKind.u32 (n : Int) = (n : Int) := by rw [IntKind.wrap_u32]; omega
  rw [wu]
  refine s_iteD (fun h1 => ?_) (fun h1 => ?_)
  · have en : enc n = [UInt8.ofNat n] := by unfold enc; rw [if_pos (by omega)]
    rw [en] at hm ⊢
    simp only [List.length_cons, List.length_nil] at hm
    refine s_chk (by omega) (s_ptr ?_)
    refine s_stb (UInt8.ofNat n) hb (by omega) (byte_of (by rw [wrapB_in (by omega) (by omega)]) (by omega)) fun w1 b1 k1 => s_leaf ⟨rfl, rfl, b1, k1⟩
  refine s_call (R := fun e w' => e = .returned (.int .i64 ((enc n).length : Nat)) ∧ Blk w' h (pre ++ (cb (put l c (enc n)) ++ post)) T' ∧ Kp (On h) w w') ?_ ?_
  rotate_left
  · rintro e w1 ⟨rfl, b1, k1⟩
    exact ⟨_, rfl, s_leaf ⟨rfl, rfl, b1, k1⟩⟩
  refine utf8_encodeRuneNonASCII.calls _ _ _ _ ?_
  unfold utf8_encodeRuneNonASCII.t
  rw [wu]
  have f6 : Int.fdiv (n : Int) (64 : Int) = ((n / 64 : Nat) : Int) := fd n 64
  have f12 : Int.fdiv (n : Int) (4096 : Int) = ((n / 4096 : Nat) : Int) := fd n 4096
  have f18 : Int.fdiv (n : Int) (262144 : Int) = ((n / 262144 : Nat) : Int) := fd n 262144
  have ld : ∀ {w1 : World} {l1 : List UInt8} {j : Nat}, Blk w1 h (pre ++ (cb l1 ++ post)) T' → l1.length = l.length → c + j < l.length → ∃ x : Int, w1.cell? (Addr.add ⟨h, pre.length + c, none⟩ j) = some (.int .u8 x) := fun {w1 l1 j} b hl hj => by
    rw [addr_add, b.cell, List.getElem?_append_right (by omega), show pre.length + c + j - pre.length = c + j by omega, List.getElem?_append_left (by rw [cb_len]; omega), cb, List.getElem?_map, List.getElem?_eq_getElem (by omega)]; exact ⟨_, rfl⟩
  refine s_iteD (fun h2 => ?_) (fun h2 => ?_)
  · have en : enc n = [UInt8.ofNat (192 + n / 64), UInt8.ofNat (128 + n % 64)] := by unfold enc; rw [if_neg (by omega), if_pos (by omega)]
    rw [en] at hm ⊢
    simp only [List.length_cons, List.length_nil] at hm
    have hq : n / 64 < 32 := by omega
    have o := or8 (a := 192) (b := n / 64) (by decide) (by omega) (by rw [or192 _ hq]; omega)
    rw [or192 _ hq] at o
    refine s_chk (by omega) (s_ptr ?_)
    obtain ⟨x, hx⟩ := ld (j := 1) hb rfl (by omega)
    refine s_load x hx (s_chk (by decide) (s_chk (by omega) (s_ptr ?_)))
    rw [f6]
    refine s_stb (UInt8.ofNat (192 + n / 64)) hb (by omega) (byte_of o (by omega)) fun w1 b1 k1 => s_chk (by omega) (s_ptr ?_)
    refine s_stb (UInt8.ofNat (128 + n % 64)) b1 (by rw [List.length_set]; omega) (byte_of (cnt n) (by omega)) fun w2 b2 k2 => s_leaf ⟨rfl, rfl, b2, k1.trans k2⟩
  -- whether three bytes
  refine s_cut (fun x w' => x = (decide (n < 55296 ∨ (57343 < n ∧ n ≤ 65535)), (0 : Int), ()) ∧ w = w') ?_ ?_
  · refine s_iteD (fun h3 => s_leaf ?_) (fun h3 => ?_)
    · rw [if_pos rfl]
      have e : decide ((n : Int) < 55296) = decide (n < 55296 ∨ (57343 < n ∧ n ≤ 65535)) := by rw [decide_eq_decide]; omega
      rw [e]
      generalize decide (n < 55296 ∨ (57343 < n ∧ n ≤ 65535)) = d
      exact ⟨(d, (0 : Int), ()), rfl, rfl, rfl⟩
    refine s_cut (fun x w' => x = (decide (57343 < n ∧ n ≤ 65535), ()) ∧ w = w') ?_ ?_
    · refine s_iteD (fun h4 => s_leaf ?_) (fun h4 => s_leaf ?_)
      · rw [if_pos rfl]
        refine ⟨(decide ((n : Int) ≤ 65535), ()), rfl, bpair ?_, rfl⟩
        simp only [decide_eq_true_eq]; omega
      · rw [if_pos rfl]
        exact ⟨(false, ()), rfl, by rw [decide_eq_false (by omega)]; rfl, rfl⟩
    rintro x w1 ⟨rfl, rfl⟩
    simp only [utf8_encodeRuneNonASCII.t1]
    refine s_leaf ?_
    rw [if_pos rfl]
    refine ⟨(decide (57343 < n ∧ n ≤ 65535), (0 : Int), ()), rfl, ?_, rfl⟩
    have e : decide (57343 < n ∧ n ≤ 65535) = decide (n < 55296 ∨ (57343 < n ∧ n ≤ 65535)) := by rw [decide_eq_decide]; omega
    exact congrArg (fun b => (b, (0 : Int), ())) e
  rintro x w1 ⟨rfl, rfl⟩
  simp only [utf8_encodeRuneNonASCII.t2, wu]
  refine s_cut (fun _ _ => False) ?_ (fun _ _ h => h.elim)
  refine s_iteD (fun h3 => ?_) (fun h3 => ?_)
  · have en : enc n = [UInt8.ofNat (224 + n / 4096), UInt8.ofNat (128 + n / 64 % 64), UInt8.ofNat (128 + n % 64)] := by unfold enc; rw [if_neg (by omega), if_neg (by omega), if_neg hs, if_pos (by omega)]
    rw [en] at hm ⊢
    simp only [List.length_cons, List.length_nil] at hm
    have hq : n / 4096 < 16 := by omega
    have o := or8 (a := 224) (b := n / 4096) (by decide) (by omega) (by rw [or224 _ hq]; omega)
    rw [or224 _ hq] at o
    refine s_chk (by omega) (s_ptr ?_)
    obtain ⟨x, hx⟩ := ld (j := 2) hb rfl (by omega)
    refine s_load x hx (s_chk (by decide) (s_chk (by omega) (s_ptr ?_)))
    rw [f6, f12]
    refine s_stb (UInt8.ofNat (224 + n / 4096)) hb (by omega) (byte_of o (by omega)) fun w1 b1 k1 => s_chk (by decide) (s_chk (by omega) (s_ptr ?_))
    refine s_stb (UInt8.ofNat (128 + n / 64 % 64)) b1 (by rw [List.length_set]; omega) (byte_of (cnt (n / 64)) (by omega)) fun w2 b2 k2 => s_chk (by omega) (s_ptr ?_)
    refine s_stb (UInt8.ofNat (128 + n % 64)) b2 (by rw [List.length_set, List.length_set]; omega) (byte_of (cnt n) (by omega)) fun w3 b3 k3 => s_leaf ?_
    rw [if_neg (by decide)]
    exact ⟨rfl, rfl, b3, (k1.trans k2).trans k3⟩
  refine s_cut (fun x w' => x = (true, ()) ∧ w = w') ?_ ?_
  · refine s_iteD (fun h4 => s_leaf ?_) (fun h4 => by omega)
    rw [if_pos rfl]
    have e : decide ((n : Int) ≤ 1114111) = true := decide_eq_true (by omega)
    exact ⟨(decide ((n : Int) ≤ 1114111), ()), rfl, congrArg (fun b => (b, ())) e, rfl⟩
  rintro x w1 ⟨rfl, rfl⟩
  simp only [utf8_encodeRuneNonASCII.t3]
  refine sat_iteT.2 ?_
  have en : enc n = [UInt8.ofNat (240 + n / 262144), UInt8.ofNat (128 + n / 4096 % 64), UInt8.ofNat (128 + n / 64 % 64), UInt8.ofNat (128 + n % 64)] := by unfold enc; rw [if_neg (by omega), if_neg (by omega), if_neg hs, if_neg (by omega)]
  rw [en] at hm ⊢
  simp only [List.length_cons, List.length_nil] at hm
  have hq : n / 262144 < 8 := by omega
  have o := or8 (a := 240) (b := n / 262144) (by decide) (by omega) (by rw [or240 _ hq]; omega)
  rw [or240 _ hq] at o
  refine s_chk (by omega) (s_ptr ?_)
  obtain ⟨x, hx⟩ := ld (j := 3) hb rfl (by omega)
  refine s_load x hx (s_chk (by decide) (s_chk (by omega) (s_ptr ?_)))
  rw [f6, f12, f18]
  refine s_stb (UInt8.ofNat (240 + n / 262144)) hb (by omega) (byte_of o (by omega)) fun w1 b1 k1 => s_chk (by decide) (s_chk (by omega) (s_ptr ?_))
  refine s_stb (UInt8.ofNat (128 + n / 4096 % 64)) b1 (by rw [List.length_set]; omega) (byte_of (cnt (n / 4096)) (by omega)) fun w2 b2 k2 => s_chk (by decide) (s_chk (by omega) (s_ptr ?_))
  refine s_stb (UInt8.ofNat (128 + n / 64 % 64)) b2 (by rw [List.length_set, List.length_set]; omega) (byte_of (cnt (n / 64)) (by omega)) fun w3 b3 k3 => s_chk (by omega) (s_ptr ?_)
  refine s_stb (UInt8.ofNat (128 + n % 64)) b3 (by rw [List.length_set, List.length_set, List.length_set]; omega) (byte_of (cnt n) (by omega)) fun w4 b4 k4 => s_leaf ?_
  rw [if_neg (by decide)]
  exact ⟨rfl, rfl, b4, ((k1.trans k2).trans k3).trans k4⟩
end Go.Proofs.YtbmmpnjpejamaaaDoor.Je
