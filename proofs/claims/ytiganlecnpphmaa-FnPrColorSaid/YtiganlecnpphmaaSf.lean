/- A text from a place on. No statement of the set is proved here. -/
import Derived.Test.YtiganlecnpphmaaPd
namespace Go.Proofs.Ytiganlecnpphmaa.Pl
open Go Go.Proofs.Ytiganlecnpphmaa.Rx

def sfx (s : ByteArray) (i : Nat) : ByteArray := s.extract i s.size
theorem sfx_size (s : ByteArray) (i : Nat) : (sfx s i).size = s.size - i := size_tail s i
theorem sfx_bt (s : ByteArray) (i j : Nat) : bt (sfx s i) (j : Int) = bt s ((i + j : Nat) : Int) := by
  by_cases h : i + j < s.size
  · exact bt_extract (Nat.le_refl _) h
  · rw [bt_end (s := s) (by omega), bt_end (by rw [sfx_size]; omega)]
theorem sfx_zero (s : ByteArray) : sfx s 0 = s := ByteArray.extract_zero_size
theorem sfx_sfx (s : ByteArray) (i j : Nat) : (sfx s i).extract j (sfx s i).size = sfx s (i + j) := by
  rw [sfx_size]
  unfold sfx
  ext1
  simp only [ByteArray.data_extract, Array.extract_extract]
  congr 1
  show min (i + (s.size - i)) s.size = s.size
  omega
theorem empty_of {s : ByteArray} (h : s.size = 0) : s = ByteArray.mk #[] := by
  cases s with
  | mk d => congr 1; exact Array.eq_empty_of_size_eq_zero h
theorem sfx_end {s : ByteArray} {i : Nat} (h : s.size ≤ i) : sfx s i = ByteArray.mk #[] := empty_of (by rw [sfx_size]; omega)
/-- A loop over digits. -/
def dgT (u : ByteArray) (l : Nat) (i : Int) : T :=
  .ite (decide (i < (((ByteArray.size u) : Nat) : Int))) (
    .chk (((0 : Int) ≤ i) ∧ (i < (((ByteArray.size u) : Nat) : Int))) <|
    .ite (decide ((bt u i) < (48 : Int))) (
      .leaf l [(Value.int IntKind.i64 i)]) (
      .chk (((0 : Int) ≤ i) ∧ (i < (((ByteArray.size u) : Nat) : Int))) <|
      .ite (decide ((bt u i) > (57 : Int))) (
        .leaf l [(Value.int IntKind.i64 i)]) (
        .leaf (l + 1) [(Value.int IntKind.i64 (IntKind.wrap IntKind.i64 (i + (1 : Int))))]))) (
    .leaf l [(Value.int IntKind.i64 i)])
theorem dg_loop {P : Program} {w : World} {Q : Nat → List Value → World → Prop} {s : ByteArray} {a l : Nat} (hs : s.size < 4611686018427387904) (ha : a ≤ s.size) (h : Q l [.int .i64 ((digs s a - a : Nat) : Int)] w) :
    sat P (.loop (l + 1) (.cons (.int .i64) .nil) [.int .i64 (0 : Int)] (fun z => dgT (sfx s a) l z.1)) Q w := by
  have hz := sfx_size s a
  have hge := digs_ge s a
  refine s_loop (fun n x w' => ∃ k : Nat, x = ((k : Int), ()) ∧ a + k ≤ s.size ∧ n = s.size - (a + k) ∧ digs s (a + k) = digs s a ∧ w = w') (s.size - a) ((0 : Int), ()) rfl ⟨0, rfl, ha, rfl, rfl, rfl⟩ ?_
  rintro n x w1 ⟨k, rfl, hk, rfl, hd, rfl⟩
  have out : isDig (bt s ((a + k : Nat) : Int)) = false → (if l = l + 1 then ∃ n' x', [Value.int IntKind.i64 (k : Int)] = (Sh.cons (.int .i64) .nil).vals x' ∧ n' < s.size - (a + k) ∧ ∃ k : Nat, x' = ((k : Int), ()) ∧ a + k ≤ s.size ∧ n' = s.size - (a + k) ∧ digs s (a + k) = digs s a ∧ w = w else Q l [.int .i64 (k : Int)] w) := fun hx => by
    rw [if_neg (by omega)]
    rw [digs_no hx] at hd
    have : k = digs s a - a := by omega
    rw [this]; exact h
  unfold dgT
  refine s_iteD (fun h1 => ?_) (fun h1 => s_leaf (out (by rw [bt_end (by omega)]; rfl)))
  refine s_chk (by omega) ?_
  simp only [sfx_bt]
  refine s_iteD (fun h2 => s_leaf (out (isDig_no (by omega)))) (fun h2 => ?_)
  refine s_chk (by omega) ?_
  refine s_iteD (fun h3 => s_leaf (out (isDig_no (by omega)))) (fun h3 => s_leaf ?_)
  rw [if_pos rfl, wrap_in (by omega) (by omega)]
  exact ⟨s.size - (a + k + 1), (((k + 1 : Nat) : Int), ()), rfl, by omega, k + 1, rfl, by omega, rfl, by rw [← Nat.add_assoc, ← digs_yes (isDig_yes (by omega))]; exact hd, rfl⟩
theorem dg_loop' {P : Program} {w : World} {Q : Nat → List Value → World → Prop} {s : ByteArray} {a l : Nat} {body : (Sh.cons (.int .i64) .nil).Ty → T} (hb : ∀ z, body z = dgT (sfx s a) l z.1) (hs : s.size < 4611686018427387904) (ha : a ≤ s.size) (h : Q l [.int .i64 ((digs s a - a : Nat) : Int)] w) :
    sat P (.loop (l + 1) (.cons (.int .i64) .nil) [.int .i64 (0 : Int)] body) Q w := by
  have : body = fun z => dgT (sfx s a) l z.1 := funext hb
  subst this; exact dg_loop hs ha h
theorem bpair {x y : Bool} (h : x = true ↔ y = true) : (x, ()) = (y, ()) := by rw [Bool.eq_iff_iff.2 h]
end Go.Proofs.Ytiganlecnpphmaa.Pl
