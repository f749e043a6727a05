/- A text of digits, signs, points, e and E is a JSON text for gjson just if it is a number of RFC 8259; so it is as an element of an array. No condition beyond the statement's own guards. -/
import Derived.Test.YtlhhmgopfilgpabVn
import Derived.Test.YtlhhmgopfilgpabNs
import Derived.Test.YtlhhmgopfilgpabSf
import Derived.OpenShut
namespace Go.Proofs.Ytlhhmgopfilgpab.LawGjValidNumber
open Go Go.Proofs Go.Proofs.Ytlhhmgopfilgpab.Rx Go.Proofs.Ytlhhmgopfilgpab.Tr Go.Proofs.Ytlhhmgopfilgpab.Pl Go.Proofs.Ytlhhmgopfilgpab.Sr Go.Proofs.Ytlhhmgopfilgpab.Vn

theorem ask {c : Int} {l : Nat} {Q : Nat → List Value → World → Prop} {P : Program} {w : World} {x : Int} {t : T} (h : c = x → Q l [.bool true] w) (h' : c ≠ x → sat P t Q w) : sat P (.ite (c == x) (.leaf l [.bool (c == x)]) t) Q w :=
  s_iteE (fun e => s_leaf (by subst e; simpa using h rfl)) h'
/-- No blank: the three tests that gjson begins with say so. -/
theorem noBlank {P : Program} {w : World} {Q : Nat → List Value → World → Prop} {c : Int} {k : (Sh.cons .bool .nil).Ty → T} {k3 k2 : (Sh.cons .bool .nil).Ty → T} (h : ¬ isB c = true) (e2 : k2 = fun z => .leaf 3 [.bool z.1]) (e3 : k3 = fun z => .leaf 2 [.bool z.1]) (hk : sat P (k (false, ())) Q w) :
    sat P (.cut 2 (.cons .bool .nil) (
      .ite (c == (32 : Int)) (
        .leaf 2 [(Value.bool (c == (32 : Int)))]) (
        .cut 3 (.cons .bool .nil) (
          .ite (c == (9 : Int)) (
            .leaf 3 [(Value.bool (c == (9 : Int)))]) (
            .cut 4 (.cons .bool .nil) (
              .ite (c == (10 : Int)) (
                .leaf 4 [(Value.bool (c == (10 : Int)))]) (
                .leaf 4 [(Value.bool (c == (13 : Int)))]))
              k2)) k3)) k) Q w := by
  subst e2 e3
  have hh : c ≠ 32 ∧ c ≠ 9 ∧ c ≠ 10 ∧ c ≠ 13 := by
    refine ⟨?_, ?_, ?_, ?_⟩ <;> (intro e; exact h (isB_iff.2 (by omega)))
  refine s_cut (fun x w' => x = (false, ()) ∧ w = w') ?_ (by rintro x w' ⟨rfl, rfl⟩; exact hk)
  refine ask (fun e => absurd e hh.1) (fun _ => ?_)
  refine s_cut (fun x w' => x = (false, ()) ∧ w = w') ?_ (by rintro x w' ⟨rfl, rfl⟩; refine s_leaf ?_; rw [if_pos rfl]; exact ⟨(false, ()), rfl, rfl, rfl⟩)
  refine ask (fun e => absurd e hh.2.1) (fun _ => ?_)
  refine s_cut (fun x w' => x = (false, ()) ∧ w = w') ?_ (by rintro x w' ⟨rfl, rfl⟩; refine s_leaf ?_; rw [if_pos rfl]; exact ⟨(false, ()), rfl, rfl, rfl⟩)
  refine ask (fun e => absurd e hh.2.2.1) (fun _ => s_leaf ?_)
  rw [if_pos rfl]
  exact ⟨(c == 13, ()), rfl, bpair (by simp [hh.2.2.2]), rfl⟩
theorem isN_noB {c : Int} (h : isN c) : ¬ isB c = true := fun g => by have := isB_iff.1 g; unfold isN at h; omega

theorem validany_num {s : ByteArray} {p : Addr} {cap i : Nat} {w : World} (hs : s.size < 4611686018427387904) (hi : i < s.size) (hB : Byts w p s) (hN : isN (bt s (i : Nat))) :
    Calls Try.prog 12 #[.slice (some p) s.size cap, .int .i64 (i : Int)] w (VnPost (numE s i) w) := by
  refine gjson_validany.calls _ _ _ _ ?_
  have hc : w.cell? (p.add (i * 1)) = some (.int .u8 (bt s (i : Nat))) := by rw [Nat.mul_one]; exact hB.at_ hi
  unfold gjson_validany.t
  refine s_loop (fun n x w' => n = 0 ∧ x = ((i : Int), ()) ∧ w = w') 0 ((i : Int), ()) rfl ⟨rfl, rfl, rfl⟩ ?_
  rintro n x w' ⟨rfl, rfl, rfl⟩
  simp only [gjson_validany.t1]
  refine s_iteD (fun _ => ?_) (fun h => by omega)
  refine s_chk (by omega) (s_ptr (s_load (bt s (i : Nat)) (by rw [Int.toNat_natCast]; exact hc) ?_))
  refine noBlank (isN_noB hN) rfl rfl ?_
  simp only [gjson_validany.t4]
  have hd45 := fun h => vn_any (cap := cap) hs hi hB (h : bt s i = 45 ∨ isDig (bt s i) = true)
  generalize hcc : bt s (i : Nat) = c at *
  have hN' : isN c := hN
  unfold isN at hN'
  refine s_cut (fun _ _ => False) ?_ (fun _ _ h => h.elim)
  refine sat_iteF.2 (s_iteE (fun e => by omega) (fun _ => s_iteE (fun e => by omega) (fun _ => s_iteE (fun e => by omega) (fun _ => ?_))))
  have n0 : c = 45 ∨ isDig c = true → numOk c = true := fun h => by rcases h with rfl | h; rfl; simp [numOk, h]
  have yes : (c = 45 ∨ isDig c = true) → (∃ x, [Value.bool true] = (Sh.cons .bool .nil).vals x ∧ x = (numOk c, ()) ∧ w = w) := fun h => ⟨(true, ()), rfl, by rw [n0 h]; rfl, rfl⟩
  have dg : ∀ {x : Int}, 48 ≤ x ∧ x ≤ 57 → c = x → isDig c = true := fun hx e => isDig_yes (by omega)
  refine s_cut (fun x w' => x = (numOk c, ()) ∧ w = w') ?_ ?_
  · refine ask (fun h => ?_) (fun h1 => ?_)
    · rw [if_pos rfl]; exact yes (.inl h)
    refine s_cut (fun x w' => x = (numOk c, ()) ∧ w = w') ?_ (by rintro x w' ⟨rfl, rfl⟩; refine s_leaf ?_; rw [if_pos rfl]; exact ⟨(_, ()), rfl, rfl, rfl⟩)
    refine ask (fun h => ?_) (fun h2 => ?_)
    · rw [if_pos rfl]; exact yes (.inr (dg (by omega) h))
    refine s_cut (fun x w' => x = (numOk c, ()) ∧ w = w') ?_ (by rintro x w' ⟨rfl, rfl⟩; refine s_leaf ?_; rw [if_pos rfl]; exact ⟨(_, ()), rfl, rfl, rfl⟩)
    refine ask (fun h => ?_) (fun h3 => ?_)
    · rw [if_pos rfl]; exact yes (.inr (dg (by omega) h))
    refine s_cut (fun x w' => x = (numOk c, ()) ∧ w = w') ?_ (by rintro x w' ⟨rfl, rfl⟩; refine s_leaf ?_; rw [if_pos rfl]; exact ⟨(_, ()), rfl, rfl, rfl⟩)
    refine ask (fun h => ?_) (fun h4 => ?_)
    · rw [if_pos rfl]; exact yes (.inr (dg (by omega) h))
    refine s_cut (fun x w' => x = (numOk c, ()) ∧ w = w') ?_ (by rintro x w' ⟨rfl, rfl⟩; refine s_leaf ?_; rw [if_pos rfl]; exact ⟨(_, ()), rfl, rfl, rfl⟩)
    refine ask (fun h => ?_) (fun h5 => ?_)
    · rw [if_pos rfl]; exact yes (.inr (dg (by omega) h))
    refine s_cut (fun x w' => x = (numOk c, ()) ∧ w = w') ?_ (by rintro x w' ⟨rfl, rfl⟩; refine s_leaf ?_; rw [if_pos rfl]; exact ⟨(_, ()), rfl, rfl, rfl⟩)
    refine ask (fun h => ?_) (fun h6 => ?_)
    · rw [if_pos rfl]; exact yes (.inr (dg (by omega) h))
    refine s_cut (fun x w' => x = (numOk c, ()) ∧ w = w') ?_ (by rintro x w' ⟨rfl, rfl⟩; refine s_leaf ?_; rw [if_pos rfl]; exact ⟨(_, ()), rfl, rfl, rfl⟩)
    refine ask (fun h => ?_) (fun h7 => ?_)
    · rw [if_pos rfl]; exact yes (.inr (dg (by omega) h))
    refine s_cut (fun x w' => x = (numOk c, ()) ∧ w = w') ?_ (by rintro x w' ⟨rfl, rfl⟩; refine s_leaf ?_; rw [if_pos rfl]; exact ⟨(_, ()), rfl, rfl, rfl⟩)
    refine ask (fun h => ?_) (fun h8 => ?_)
    · rw [if_pos rfl]; exact yes (.inr (dg (by omega) h))
    refine s_cut (fun x w' => x = (numOk c, ()) ∧ w = w') ?_ (by rintro x w' ⟨rfl, rfl⟩; refine s_leaf ?_; rw [if_pos rfl]; exact ⟨(_, ()), rfl, rfl, rfl⟩)
    refine ask (fun h => ?_) (fun h9 => ?_)
    · rw [if_pos rfl]; exact yes (.inr (dg (by omega) h))
    refine s_cut (fun x w' => x = (numOk c, ()) ∧ w = w') ?_ (by rintro x w' ⟨rfl, rfl⟩; refine s_leaf ?_; rw [if_pos rfl]; exact ⟨(_, ()), rfl, rfl, rfl⟩)
    refine ask (fun h => ?_) (fun h10 => s_leaf ?_)
    · rw [if_pos rfl]; exact yes (.inr (dg (by omega) h))
    rw [if_pos rfl]
    refine ⟨(c == 57, ()), rfl, bpair ?_, rfl⟩
    simp only [numOk, isDig, Bool.or_eq_true, Bool.and_eq_true, beq_iff_eq, decide_eq_true_eq]
    omega
  rintro x w' ⟨rfl, rfl⟩
  simp only [gjson_validany.t14]
  have e1 : IntKind.wrap .i64 ((i : Int) + 1) = (i : Int) + 1 := wrap_in (by omega) (by omega)
  rw [e1]
  refine s_cut (fun _ _ => False) ?_ (fun _ _ h => h.elim)
  cases hk : numOk c with
  | true =>
    have hd : c = 45 ∨ isDig c = true := by simpa [numOk] using hk
    refine sat_iteT.2 (s_call (hd45 hd) ?_)
    rintro e w' ⟨e2, rfl, he, rfl⟩
    refine ⟨(e2, (numE s i).isSome, ()), rfl, s_leaf ?_⟩
    rw [if_neg (by decide), if_neg (by decide), if_neg (by decide)]
    exact ⟨rfl, e2, rfl, he, rfl⟩
  | false =>
    have hd : c ≠ 45 ∧ isDig c = false := by simpa [numOk] using hk
    refine sat_iteF.2 (s_iteE (fun e => by omega) (fun _ => s_iteE (fun e => by omega) (fun _ => s_iteE (fun e => by omega) (fun _ => s_leaf ?_))))
    rw [if_neg (by decide), if_neg (by decide), if_neg (by decide)]
    refine ⟨rfl, post_no ?_⟩
    rw [numE_plain (by rw [hcc]; exact hd.1), intE_bad (by rw [hcc]; exact hd.2)]

/-- Behind the value: nothing, or a byte that is no blank. -/
theorem rest_loop {s : ByteArray} {p : Addr} {m : Nat} {w : World} {Q : Nat → List Value → World → Prop} (hm : m ≤ s.size) (hB : Byts w p s) (hN : m < s.size → ¬ isB (bt s (m : Nat)) = true) (h0 : m < s.size → Q 0 [.int .i64 (m : Int), .bool false] w) (h1 : m = s.size → Q 0 [.int .i64 (m : Int), .bool true] w) :
    sat Try.prog (.loop 3 (.cons (.int .i64) .nil) [(Value.int IntKind.i64 (m : Int))] (fun z => gjson_validpayload.t5 (some p) s.size z.1)) Q w := by
  refine s_loop (fun n x w' => n = 0 ∧ x = ((m : Int), ()) ∧ w = w') 0 ((m : Int), ()) rfl ⟨rfl, rfl, rfl⟩ ?_
  rintro n x w' ⟨rfl, rfl, rfl⟩
  simp only [gjson_validpayload.t5]
  refine s_iteD (fun h => ?_) (fun h => s_leaf (by rw [if_neg (by decide)]; exact h1 (by omega)))
  have hlt : m < s.size := by omega
  refine s_chk (by omega) (s_ptr (s_load (bt s (m : Nat)) (by rw [Int.toNat_natCast, Nat.mul_one]; exact hB.at_ hlt) ?_))
  have hh := hN hlt
  have hb : bt s (m : Nat) ≠ 32 ∧ bt s (m : Nat) ≠ 9 ∧ bt s (m : Nat) ≠ 10 ∧ bt s (m : Nat) ≠ 13 := by
    refine ⟨?_, ?_, ?_, ?_⟩ <;> (intro e; exact hh (isB_iff.2 (by omega)))
  refine s_iteE (fun e => absurd e hb.1) (fun _ => s_iteE (fun e => absurd e hb.2.1) (fun _ => s_iteE (fun e => absurd e hb.2.2.1) (fun _ => s_iteE (fun e => absurd e hb.2.2.2) (fun _ => s_leaf ?_))))
  rw [if_neg (by decide)]
  exact h0 hlt

/-- A text whose first byte is no blank. -/
theorem payload_any {s : ByteArray} {p : Addr} {cap : Nat} {w : World} {r : Option Nat} (h0 : 0 < s.size) (hB : Byts w p s) (hb : ¬ isB (bt s ((0 : Nat) : Int)) = true) (hr : ∀ m, r = some m → m ≤ s.size ∧ (m < s.size → ¬ isB (bt s (m : Nat)) = true))
    (hv : Calls Try.prog 12 #[.slice (some p) s.size cap, .int .i64 ((0 : Nat) : Int)] w (VnPost r w)) :
    Calls Try.prog 8 #[.slice (some p) s.size cap, .int .i64 0] w fun e w' => (∃ x : Int, e = .returned (.tuple #[.int .i64 x, .bool (decide (r = some s.size))])) ∧ w' = w := by
  refine gjson_validpayload.calls _ _ _ _ ?_
  unfold gjson_validpayload.t
  refine s_loop (fun n x w' => n = 0 ∧ x = (((0 : Nat) : Int), ()) ∧ w = w') 0 ((0 : Int), ()) rfl ⟨rfl, rfl, rfl⟩ ?_
  rintro n x w' ⟨rfl, rfl, rfl⟩
  simp only [gjson_validpayload.t1]
  refine s_iteD (fun _ => ?_) (fun h => by omega)
  refine s_chk (by omega) (s_ptr (s_load (bt s ((0 : Nat) : Int)) (hB.at_ h0) ?_))
  refine noBlank hb rfl rfl ?_
  simp only [gjson_validpayload.t4]
  refine s_cut (fun _ _ => False) (sat_iteF.2 (s_call hv ?_)) (fun _ _ h => h.elim)
  rintro e w' ⟨e1, rfl, he, rfl⟩
  refine ⟨(e1, r.isSome, ()), rfl, ?_⟩
  cases hr' : r with
  | none =>
    refine sat_iteT.2 (s_leaf ?_)
    rw [if_neg (by decide), if_neg (by decide)]
    exact ⟨rfl, ⟨_, rfl⟩, rfl⟩
  | some m =>
    have := he m hr'
    subst this
    obtain ⟨h1, h2⟩ := hr m hr'
    refine sat_iteF.2 (rest_loop h1 hB h2 (fun h => ?_) (fun h => ?_))
    · rw [if_neg (by decide), if_neg (by decide)]
      refine ⟨rfl, ⟨(m : Int), ?_⟩, rfl⟩
      rw [decide_eq_false (by intro e; cases e; omega)]; rfl
    · rw [if_neg (by decide), if_neg (by decide)]
      refine ⟨rfl, ⟨(m : Int), ?_⟩, rfl⟩
      rw [decide_eq_true (by rw [h])]; rfl

theorem valid_any {s : ByteArray} {w : World} {r : Option Nat} (h0 : 0 < s.size) (hb : ¬ isB (bt s ((0 : Nat) : Int)) = true) (hr : ∀ m, r = some m → m ≤ s.size ∧ (m < s.size → ¬ isB (bt s (m : Nat)) = true))
    (hv : ∀ (p : Addr) (cap : Nat) (w : World), Byts w p s → Calls Try.prog 12 #[.slice (some p) s.size cap, .int .i64 ((0 : Nat) : Int)] w (VnPost r w)) :
    Calls Try.prog 4 #[.string s] w fun e w' => e = .returned (.bool (decide (r = some s.size))) ∧ Kp Off w w' := by
  refine impl_GjValid.calls _ ?_
  unfold impl_GjValid.t
  refine s_call (R := fun e w' => e = .returned (.bool (decide (r = some s.size))) ∧ Kp Off w w') ?_ (by rintro e w' ⟨rfl, k⟩; exact ⟨_, rfl, s_leaf ⟨rfl, rfl, k⟩⟩)
  refine gjson_Valid.calls _ ?_
  unfold gjson_Valid.t
  refine s_call (R := fun e w' => ∃ c, e = .returned (.slice (some ⟨w.heap.size, 0, none⟩) s.size c) ∧ Byts w' ⟨w.heap.size, 0, none⟩ s ∧ Kp Off w w') ?_ ?_
  · refine gjson_stringBytes.calls _ ?_
    unfold gjson_stringBytes.t
    obtain ⟨c, w1, h1, h2, h3⟩ := convert_bytes (P := Try.prog) (w := w) s Try.underlying9 Try.underlying28 Try.underlying5
    exact s_eff (some ⟨w.heap.size, 0, none⟩, s.size, c) h1 (s_leaf ⟨rfl, c, rfl, h2, h3⟩)
  · rintro e w1 ⟨c, rfl, h2, h3⟩
    refine ⟨(some ⟨w.heap.size, 0, none⟩, s.size, c), rfl, ?_⟩
    refine s_call (payload_any h0 h2 hb hr (hv _ _ _ h2)) ?_
    rintro e w2 ⟨⟨x, rfl⟩, rfl⟩
    exact ⟨(x, decide (r = some s.size), ()), rfl, s_leaf ⟨rfl, rfl, h3⟩⟩

theorem isNumber_any {s : ByteArray} {w : World} (hs : s.size < 4611686018427387904) : Calls Try.prog 5 #[.string s] w fun e w' => e = .returned (.bool (decide (numE s 0 = some s.size))) ∧ Kp Off w w' := by
  refine spec_IsNumber.calls _ ?_
  unfold spec_IsNumber.t
  refine s_alloc ?_
  have hb := Blk.new w [.string (ByteArray.mk #[]), .int .i64 0] 24
  obtain ⟨w1, h1, h2, h3⟩ := storeAt_run (P := Try.prog) (t := 24) [.string s, .int .i64 (0 : Nat)] hb (info_some (by kernel_rfl)) (by kernel_rfl) rfl rfl
  refine s_effU h1 ?_
  refine s_call (number_any hs (Nat.zero_le _) (show RdAt w1 w.heap.size s 0 from h2)) ?_
  rintro e w2 ⟨j, rfl, hj, _, hR, k2⟩
  refine ⟨_, rfl, ?_⟩
  have k : Kp Off w w2 := ((((Kp.refl _ w).alloc _).trans h3).trans k2).mono fun q hq e => by have : q = w.heap.size := e; omega
  cases hn : numE s 0 with
  | none =>
    refine sat_iteF.2 (s_leaf ⟨rfl, ?_, k⟩)
    rw [decide_eq_false (by simp)]; rfl
  | some m =>
    have := hj m hn
    subst this
    refine sat_iteT.2 ?_
    simp only [addr_add, Nat.zero_add]
    refine s_load (j : Int) (hR.cell 1) (s_leaf ⟨rfl, ?_, k⟩)
    have e : (decide (some j = some s.size) : Bool) = ((j : Int) == (s.size : Int)) := by rw [Bool.eq_iff_iff]; simp; omega
    rw [e]; rfl

def arr (s : ByteArray) : ByteArray := (ByteArray.mk #[(91 : UInt8)] ++ s) ++ ByteArray.mk #[(93 : UInt8)]
theorem bt_app (x y : ByteArray) (k : Nat) : bt (x ++ y) (k : Nat) = if k < x.size then bt x (k : Nat) else bt y ((k - x.size : Nat) : Int) := by
  unfold bt
  rw [Int.toNat_natCast, Int.toNat_natCast]
  have e : (x ++ y).data.toList = x.data.toList ++ y.data.toList := by simp [ByteArray.data_append]
  rw [e]
  have hl : x.data.toList.length = x.size := by simp
  split
  · rw [List.getD_eq_getElem?_getD, List.getD_eq_getElem?_getD, List.getElem?_append_left (by omega)]
  · rw [List.getD_eq_getElem?_getD, List.getD_eq_getElem?_getD, List.getElem?_append_right (by omega), hl]
theorem sz1 (c : UInt8) : (ByteArray.mk #[c]).size = 1 := id rfl
theorem arr_size (s : ByteArray) : (arr s).size = s.size + 2 := by unfold arr; rw [ByteArray.size_append, ByteArray.size_append, sz1, sz1]; omega
theorem arr_first (s : ByteArray) : bt (arr s) ((0 : Nat) : Int) = 91 := by
  unfold arr
  rw [bt_app, if_pos (by rw [ByteArray.size_append, sz1]; omega), bt_app, if_pos (by rw [sz1]; omega)]; rfl
theorem arr_mid {s : ByteArray} {k : Nat} (h : k < s.size) : bt (arr s) ((k + 1 : Nat) : Int) = bt s (k : Nat) := by
  unfold arr
  rw [bt_app, if_pos (by rw [ByteArray.size_append, sz1]; omega), bt_app, if_neg (by rw [sz1]; omega), sz1, Nat.add_sub_cancel]
theorem arr_last (s : ByteArray) : bt (arr s) ((s.size + 1 : Nat) : Int) = 93 := by
  unfold arr
  rw [bt_app, if_neg (by rw [ByteArray.size_append, sz1]; omega), ByteArray.size_append, sz1, show s.size + 1 - (1 + s.size) = 0 from by omega]; rfl
theorem arr_alike (s : ByteArray) : Pl.Alike s (arr s) 1 := by
  intro k hk hN
  rcases Nat.lt_or_ge k s.size with h | h
  · exact arr_mid h
  · have : k = s.size := by omega
    subst this
    rw [arr_last, bt_end (Nat.le_refl _)] at hN
    unfold isN at hN; omega
def arrR (s : ByteArray) : Option Nat := if numE s 0 = some s.size then some (arr s).size else none

theorem comma_any {s : ByteArray} {p : Addr} {cap m : Nat} {w : World} (hm : m < s.size) (hB : Byts w p s) (hN : isN (bt s (m : Nat)) ∨ bt s (m : Nat) = 93) :
    Calls Try.prog 22 #[.slice (some p) s.size cap, .int .i64 (m : Int), .int .u8 93] w fun e w' => e = .returned (.tuple #[.int .i64 (m : Int), .bool (decide (bt s (m : Nat) = 93))]) ∧ w' = w := by
  refine gjson_validcomma.calls _ _ _ _ _ ?_
  unfold gjson_validcomma.t
  refine s_loop (fun n x w' => n = 0 ∧ x = ((m : Int), ()) ∧ w = w') 0 ((m : Int), ()) rfl ⟨rfl, rfl, rfl⟩ ?_
  rintro n x w' ⟨rfl, rfl, rfl⟩
  simp only [gjson_validcomma.t1]
  refine s_iteD (fun _ => ?_) (fun h => by omega)
  refine s_chk (by omega) (s_ptr (s_load (bt s (m : Nat)) (by rw [Int.toNat_natCast, Nat.mul_one]; exact hB.at_ hm) ?_))
  have hnb : ¬ isB (bt s (m : Nat)) = true := by
    rcases hN with h | h
    · exact isN_noB h
    · rw [h]; decide
  refine noBlank hnb rfl rfl ?_
  simp only [gjson_validcomma.t4]
  have h44 : bt s (m : Nat) ≠ 44 := by rcases hN with h | h; unfold isN at h; omega; omega
  refine s_cut (fun _ _ => False) (sat_iteF.2 (s_iteE (fun e => absurd e h44) (fun _ => s_iteE (fun h => s_leaf ?_) (fun h => s_leaf ?_)))) (fun _ _ h => h.elim)
  · rw [if_neg (by decide), if_neg (by decide)]
    exact ⟨rfl, by rw [decide_eq_true h]; rfl, rfl⟩
  · rw [if_neg (by decide), if_neg (by decide)]
    exact ⟨rfl, by rw [decide_eq_false h]; rfl, rfl⟩

theorem validarray_num {s : ByteArray} {p : Addr} {cap : Nat} {w : World} (hs : s.size < 1000000) (h0 : 0 < s.size) (hB : Byts w p (arr s)) (hN : ∀ k : Nat, k < s.size → isN (bt s (k : Nat))) :
    Calls Try.prog 15 #[.slice (some p) (arr s).size cap, .int .i64 1] w (VnPost (arrR s) w) := by
  have hz := arr_size s
  have hb1 : bt (arr s) ((1 : Nat) : Int) = bt s ((0 : Nat) : Int) := arr_mid (k := 0) h0
  have hN1 : isN (bt (arr s) ((1 : Nat) : Int)) := by rw [hb1]; exact hN 0 h0
  refine gjson_validarray.calls _ _ _ _ ?_
  unfold gjson_validarray.t
  refine s_loop (fun n x w' => n = 0 ∧ x = (((1 : Nat) : Int), ()) ∧ w = w') 0 ((1 : Int), ()) rfl ⟨rfl, rfl, rfl⟩ ?_
  rintro n x w' ⟨rfl, rfl, rfl⟩
  simp only [gjson_validarray.t1]
  refine s_iteD (fun _ => ?_) (fun h => by omega)
  refine s_chk (by omega) (s_ptr (s_load (bt (arr s) ((1 : Nat) : Int)) (hB.at_ (j := 1) (by omega)) ?_))
  refine noBlank (isN_noB hN1) rfl rfl ?_
  simp only [gjson_validarray.t4]
  refine s_cut (fun _ _ => False) (sat_iteF.2 (s_iteE (fun e => by unfold isN at hN1; omega) (fun _ => ?_))) (fun _ _ h => h.elim)
  refine s_loop (fun n x w' => n = 0 ∧ x = (((1 : Nat) : Int), ()) ∧ w = w') 0 ((1 : Int), ()) rfl ⟨rfl, rfl, rfl⟩ ?_
  rintro n x w' ⟨rfl, rfl, rfl⟩
  simp only [gjson_validarray.t5]
  refine s_iteD (fun _ => ?_) (fun h => by omega)
  refine s_call (validany_num (i := 1) (by omega) (by omega) hB hN1) ?_
  rintro e w' ⟨e1, rfl, he, rfl⟩
  refine ⟨(e1, (numE (arr s) 1).isSome, ()), rfl, ?_⟩
  have hal : numE (arr s) 1 = (numE s 0).map (· + 1) := numE_alike (arr_alike s) (Nat.zero_le _)
  cases hn : numE s 0 with
  | none =>
    rw [hn] at hal
    rw [hal]
    refine sat_iteT.2 (s_leaf ?_)
    rw [if_neg (by decide), if_neg (by decide), if_neg (by decide)]
    refine ⟨rfl, post_no ?_⟩
    unfold arrR; rw [hn]; rfl
  | some m =>
    rw [hn] at hal
    have hm := (numE_le (Nat.zero_le _) hn).2
    have := he (m + 1) hal
    subst this
    rw [hal]
    refine sat_iteF.2 ?_
    have hbm : isN (bt (arr s) ((m + 1 : Nat) : Int)) ∨ bt (arr s) ((m + 1 : Nat) : Int) = 93 := by
      rcases Nat.lt_or_ge m s.size with h | h
      · left; rw [arr_mid h]; exact hN m h
      · right; have : m = s.size := by omega
        subst this; exact arr_last s
    refine s_call (comma_any (m := m + 1) (by omega) hB hbm) ?_
    rintro e w' ⟨rfl, rfl⟩
    refine ⟨(((m + 1 : Nat) : Int), decide (bt (arr s) ((m + 1 : Nat) : Int) = 93), ()), rfl, ?_⟩
    by_cases hms : m = s.size
    · subst hms
      rw [decide_eq_true (arr_last s)]
      refine sat_iteF.2 (s_chk (by omega) (s_ptr (s_load (bt (arr s) ((s.size + 1 : Nat) : Int)) (by rw [Int.toNat_natCast, Nat.mul_one]; exact hB.at_ (by omega)) ?_)))
      rw [arr_last]
      refine s_iteE (fun _ => s_leaf ?_) (fun h => absurd rfl h)
      rw [if_neg (by decide), if_neg (by decide), if_neg (by decide), wrap_in (by omega) (by omega)]
      refine ⟨rfl, ?_⟩
      have : arrR s = some (s.size + 1 + 1) := by unfold arrR; rw [if_pos hn, hz]
      exact post_some this
    · have : bt (arr s) ((m + 1 : Nat) : Int) ≠ 93 := by
        rw [arr_mid (by omega)]
        have := hN m (by omega)
        unfold isN at this; omega
      rw [decide_eq_false this]
      refine sat_iteT.2 (s_leaf ?_)
      rw [if_neg (by decide), if_neg (by decide), if_neg (by decide)]
      refine ⟨rfl, post_no ?_⟩
      unfold arrR; rw [hn, if_neg (by intro e; cases e; exact hms rfl)]

theorem validany_arr {s : ByteArray} {p : Addr} {cap : Nat} {w : World} (hs : s.size < 1000000) (h0 : 0 < s.size) (hB : Byts w p (arr s)) (hN : ∀ k : Nat, k < s.size → isN (bt s (k : Nat))) :
    Calls Try.prog 12 #[.slice (some p) (arr s).size cap, .int .i64 ((0 : Nat) : Int)] w (VnPost (arrR s) w) := by
  have hz := arr_size s
  refine gjson_validany.calls _ _ _ _ ?_
  unfold gjson_validany.t
  refine s_loop (fun n x w' => n = 0 ∧ x = (((0 : Nat) : Int), ()) ∧ w = w') 0 (((0 : Nat) : Int), ()) rfl ⟨rfl, rfl, rfl⟩ ?_
  rintro n x w' ⟨rfl, rfl, rfl⟩
  simp only [gjson_validany.t1]
  refine s_iteD (fun _ => ?_) (fun h => by omega)
  refine s_chk (by omega) (s_ptr (s_load (91 : Int) (by have := hB.at_ (j := 0) (by omega); rw [arr_first] at this; exact this) ?_))
  refine noBlank (by decide) rfl rfl ?_
  simp only [gjson_validany.t4]
  refine s_cut (fun _ _ => False) (sat_iteF.2 (s_iteE (fun e => by cases e) (fun _ => s_iteE (fun _ => ?_) (fun h => absurd rfl h)))) (fun _ _ h => h.elim)
  have e1 : IntKind.wrap .i64 (((0 : Nat) : Int) + 1) = 1 := by decide
  rw [e1]
  refine s_call (validarray_num hs h0 hB hN) ?_
  rintro e w' ⟨e2, rfl, he, rfl⟩
  refine ⟨(e2, (arrR s).isSome, ()), rfl, s_leaf ?_⟩
  rw [if_neg (by decide), if_neg (by decide)]
  exact ⟨rfl, e2, rfl, he, rfl⟩

theorem walk (s : ByteArray) (w : World) (_ : s.size ≤ 140737488351232) :
    Calls Try.prog 3 #[.string s] w fun e w' => e = .returned (.bool true) ∧ RowKit.Below w.heap.size w w' := by
  refine laws_FnGjValidNumber.calls _ ?_
  unfold laws_FnGjValidNumber.t
  have done : ∀ (w1 : World), Kp Off w w1 → (Ending.returned (retVal [.bool true]) = .returned (.bool true) ∧ RowKit.Below w.heap.size w w1) := fun w1 h => ⟨rfl, h.belowOff⟩
  refine s_iteD (fun _ => s_leaf ⟨rfl, done w (Kp.refl _ _)⟩) (fun hbig => ?_)
  refine s_loop (fun n x w' => ∃ i : Nat, x = ((i : Int), ()) ∧ i ≤ s.size ∧ n = s.size - i ∧ (∀ k : Nat, k < i → isN (bt s (k : Nat))) ∧ w = w') s.size ((0 : Int), ()) rfl ⟨0, rfl, Nat.zero_le _, rfl, fun k h => absurd h (Nat.not_lt_zero k), rfl⟩ ?_
  rintro n x w' ⟨i, rfl, hi, rfl, hN, rfl⟩
  simp only [laws_FnGjValidNumber.t1]
  refine s_iteD (fun hlt => ?_) (fun hge => ?_)
  · have hlt' : i < s.size := by omega
    have next : isN (bt s (i : Nat)) → (∃ n' x', [Value.int IntKind.i64 (IntKind.wrap .i64 ((i : Int) + 1))] = (Sh.cons (.int .i64) .nil).vals x' ∧ n' < s.size - i ∧ ∃ i : Nat, x' = ((i : Int), ()) ∧ i ≤ s.size ∧ n' = s.size - i ∧ (∀ k : Nat, k < i → isN (bt s (k : Nat))) ∧ w = w) := fun h => by
      rw [wrap_in (by omega) (by omega)]
      refine ⟨s.size - (i + 1), (((i + 1 : Nat) : Int), ()), rfl, by omega, i + 1, rfl, hlt', rfl, fun k hk => ?_, rfl⟩
      rcases Nat.lt_or_ge k i with h' | h'
      · exact hN k h'
      · have : k = i := by omega
        subst this; exact h
    refine s_chk (by omega) (s_cut (fun x w' => x = (isDig (bt s (i : Nat)), ()) ∧ w = w') ?_ ?_)
    · refine s_iteD (fun h => s_leaf ?_) (fun h => s_leaf ?_)
      · rw [if_pos rfl]; exact ⟨(decide (bt s (i : Nat) ≤ 57), ()), rfl, bpair (by rw [isDig_iff, decide_eq_true_iff]; omega), rfl⟩
      · rw [if_pos rfl]; exact ⟨(false, ()), rfl, by rw [isDig_no (by omega)]; rfl, rfl⟩
    rintro x w' ⟨rfl, rfl⟩
    simp only [laws_FnGjValidNumber.t2]
    refine s_ite (fun h => s_ite (fun _ => s_leaf (by rw [if_pos rfl]; exact next (.inl (isDig_iff.1 h)))) (fun h' => absurd h (by rw [h']; decide))) (fun hd => ?_)
    have out : (if 0 = 1 then ∃ n' x', [Value.bool true] = (Sh.cons (.int .i64) .nil).vals x' ∧ n' < s.size - i ∧ ∃ i : Nat, x' = ((i : Int), ()) ∧ i ≤ s.size ∧ n' = s.size - i ∧ (∀ k : Nat, k < i → isN (bt s (k : Nat))) ∧ w = w else 0 = 0 ∧ Ending.returned (retVal [.bool true]) = .returned (.bool true) ∧ RowKit.Below w.heap.size w w) := by
      rw [if_neg (by decide)]; exact ⟨rfl, done w (Kp.refl _ _)⟩
    have one : ∀ (c : Int) (t : T), isN c → (bt s (i : Nat) ≠ c → sat Try.prog t (fun l' vs w'' => if l' = 1 then ∃ n' x', vs = (Sh.cons (.int .i64) .nil).vals x' ∧ n' < s.size - i ∧ ∃ i : Nat, x' = ((i : Int), ()) ∧ i ≤ s.size ∧ n' = s.size - i ∧ (∀ k : Nat, k < i → isN (bt s (k : Nat))) ∧ w = w'' else l' = 0 ∧ Ending.returned (retVal vs) = .returned (.bool true) ∧ RowKit.Below w.heap.size w w'') w) →
        sat Try.prog (.ite (bt s (i : Nat) == c) (.ite (bt s (i : Nat) == c) (.leaf 1 [Value.int IntKind.i64 (IntKind.wrap .i64 ((i : Int) + 1))]) (.leaf 0 [Value.bool true])) t) (fun l' vs w'' => if l' = 1 then ∃ n' x', vs = (Sh.cons (.int .i64) .nil).vals x' ∧ n' < s.size - i ∧ ∃ i : Nat, x' = ((i : Int), ()) ∧ i ≤ s.size ∧ n' = s.size - i ∧ (∀ k : Nat, k < i → isN (bt s (k : Nat))) ∧ w = w'' else l' = 0 ∧ Ending.returned (retVal vs) = .returned (.bool true) ∧ RowKit.Below w.heap.size w w'') w := fun c t hc ht =>
      s_iteE (fun e => s_iteE (fun _ => s_leaf (by rw [if_pos rfl]; exact next (by rw [e]; exact hc))) (fun h => absurd e h)) ht
    refine one 45 _ (by unfold isN; omega) (fun _ => ?_)
    refine one 43 _ (by unfold isN; omega) (fun _ => ?_)
    refine one 46 _ (by unfold isN; omega) (fun _ => ?_)
    refine one 101 _ (by unfold isN; omega) (fun _ => ?_)
    exact s_iteE (fun e => s_leaf (by rw [if_pos rfl]; exact next (by rw [e]; unfold isN; omega))) (fun _ => s_leaf out)
  · have hie : i = s.size := by omega
    subst hie
    refine s_iteD (fun _ => s_leaf (by rw [if_neg (by decide)]; exact ⟨rfl, done w (Kp.refl _ _)⟩)) (fun hs => ?_)
    refine s_ite (fun _ => s_leaf (by rw [if_neg (by decide)]; exact ⟨rfl, done w (Kp.refl _ _)⟩)) (fun hne => ?_)
    have h0 : 0 < s.size := Nat.pos_of_ne_zero fun e => by rw [strEq_iff.2 (empty_of e)] at hne; cases hne
    have hz := arr_size s
    refine s_call (valid_any (r := numE s 0) h0 (isN_noB (hN 0 h0)) (fun m hm => ⟨(numE_le (Nat.zero_le _) hm).2, fun h => isN_noB (hN m h)⟩) (fun p cap w hB => validany_num (by omega) h0 hB (hN 0 h0))) ?_
    rintro e w1 ⟨rfl, k1⟩
    refine ⟨_, rfl, ?_⟩
    refine s_call (isNumber_any (by omega)) ?_
    rintro e w2 ⟨rfl, k2⟩
    refine ⟨_, rfl, ?_⟩
    refine s_ite (fun _ => ?_) (fun h => by simp at h)
    refine s_chk (by omega) (s_chk (by rw [ByteArray.size_append, sz1]; omega) ?_)
    refine s_call (valid_any (s := arr s) (r := arrR s) (by omega) (by rw [arr_first]; decide) (fun m hm => ?_) (fun p cap w hB => validany_arr (by omega) h0 hB hN)) ?_
    · unfold arrR at hm
      split at hm
      · cases hm; exact ⟨Nat.le_refl _, fun h => absurd h (Nat.lt_irrefl _)⟩
      · cases hm
    rintro e w3 ⟨rfl, k3⟩
    refine ⟨_, rfl, ?_⟩
    refine s_call (isNumber_any (by omega)) ?_
    rintro e w4 ⟨rfl, k4⟩
    refine ⟨_, rfl, s_leaf ?_⟩
    rw [if_neg (by decide)]
    have e : (decide (arrR s = some (arr s).size) : Bool) = decide (numE s 0 = some s.size) := by
      unfold arrR
      by_cases h : numE s 0 = some s.size
      · rw [if_pos h, decide_eq_true rfl, decide_eq_true h]
      · rw [if_neg h, decide_eq_false (by simp), decide_eq_false h]
    rw [e]
    refine ⟨rfl, ?_, (((k1.trans k2).trans k3).trans k4).belowOff⟩
    exact congrArg (fun b => Ending.returned (retVal [.bool b])) (by simp)
end Go.Proofs.Ytlhhmgopfilgpab.LawGjValidNumber
