/- gjson.AppendJSONString as a function of a text (XGq over XMd, XUp). No statement of the set is proved here. -/
import Derived.Test.YtbmmpnjpejamaaaDoorMd
import Derived.Test.YtbmmpnjpejamaaaDoorUp
import Derived.Test.YtbmmpnjpejamaaaDoorTr
import Derived.Lib.AppendZeros
namespace Go.Proofs.YtbmmpnjpejamaaaDoor.Gq
open Go Go.Proofs Go.RowKit Go.Proofs.YtbmmpnjpejamaaaDoor.Rx Go.Proofs.YtbmmpnjpejamaaaDoor.Tr Go.Proofs.YtbmmpnjpejamaaaDoor.Pl Go.Proofs.YtbmmpnjpejamaaaDoor.Ut Go.Proofs.YtbmmpnjpejamaaaDoor.Ms Go.Proofs.YtbmmpnjpejamaaaDoor.Bw Go.Proofs.YtbmmpnjpejamaaaDoor.Uq

def gH : Nat := 0
/-- A small hexadecimal digit. -/
def hexd (j : Nat) : UInt8 := if j < 10 then UInt8.ofNat (48 + j) else UInt8.ofNat (87 + j)
def Hx (w : World) : Prop := ∀ j, j < 16 → w.cell? ⟨gH, j, none⟩ = some (bv (hexd j))
theorem Hx.off {w w' : World} (h : Hx w) (k : Kp Off w w') : Hx w' := fun j hj => by
  have := h j hj
  rw [k.cell (cell_lt this) id]; exact this
theorem hex_ix (x d : Nat) (hx : x < 65536) : IntKind.wrap .u16 (((BitVec.toNat ((BitVec.ofInt 16 (Int.fdiv (x : Int) (d : Int))) &&& (BitVec.ofInt 16 (15 : Int)))) : Nat) : Int) = ((x / d % 16 : Nat) : Int) := by
  have h0 : Int.fdiv (x : Int) (d : Int) = ((x / d : Nat) : Int) := by rw [Int.ofNat_fdiv]
  have hq : x / d ≤ x := Nat.div_le_self _ _
  have h1 : BitVec.ofInt 16 ((x / d : Nat) : Int) = BitVec.ofNat 16 (x / d) := BitVec.ofInt_natCast 16 (x / d)
  have h2 : BitVec.ofInt 16 (15 : Int) = BitVec.ofNat 16 15 := by decide
  have h3 : (x / d) &&& 15 = x / d % 16 := Nat.and_two_pow_sub_one_eq_mod (x / d) 4
  rw [h0, h1, h2, BitVec.toNat_and, BitVec.toNat_ofNat, BitVec.toNat_ofNat, Nat.mod_eq_of_lt (by omega : x / d < 2 ^ 16), Nat.mod_eq_of_lt (by decide : 15 < 2 ^ 16), h3, IntKind.wrap_u16]
  omega
def hex4 (b : Nat) : List UInt8 := [hexd (b / 4096 % 16), hexd (b / 256 % 16), hexd (b / 16 % 16), hexd (b / 1 % 16)]
theorem hex16_any {w : World} {base : Nat} {x : Sr.Sl} {l : List UInt8} {n : Nat} (h : BR w base x l) (hb : base ≤ w.heap.size) (hn : n < 65536) (hl : l.length ≤ 4000000000) (hH : Hx w) :
    Calls Tryd.prog 63 #[.slice x.1 x.2.1 x.2.2, .int .u16 n] w fun e w' => ∃ x', e = .returned (Sr.slV x') ∧ BR w' base x' (l ++ hex4 n) ∧ Kp (Own x) w w' := by
  refine gjson_appendHex16.calls _ _ _ _ ?_
  unfold gjson_appendHex16.t
  have ix := fun d => hex_ix n d hn
  have i1 := ix 4096; have i2 := ix 256; have i3 := ix 16; have i4 := ix 1
  have i1 : IntKind.wrap .u16 (((BitVec.toNat ((BitVec.ofInt 16 (Int.fdiv (n : Int) (4096 : Int))) &&& (BitVec.ofInt 16 (15 : Int)))) : Nat) : Int) = ((n / 4096 % 16 : Nat) : Int) := i1
  have i2 : IntKind.wrap .u16 (((BitVec.toNat ((BitVec.ofInt 16 (Int.fdiv (n : Int) (256 : Int))) &&& (BitVec.ofInt 16 (15 : Int)))) : Nat) : Int) = ((n / 256 % 16 : Nat) : Int) := i2
  have i3 : IntKind.wrap .u16 (((BitVec.toNat ((BitVec.ofInt 16 (Int.fdiv (n : Int) (16 : Int))) &&& (BitVec.ofInt 16 (15 : Int)))) : Nat) : Int) = ((n / 16 % 16 : Nat) : Int) := i3
  have i4 : IntKind.wrap .u16 (((BitVec.toNat ((BitVec.ofInt 16 (Int.fdiv (n : Int) (1 : Int))) &&& (BitVec.ofInt 16 (15 : Int)))) : Nat) : Int) = ((n / 1 % 16 : Nat) : Int) := i4
  rw [i1, i2, i3, i4]
  have cell : ∀ j, j < 16 → w.drew.cell? ((Addr.mk gH 0 Option.none).add (Int.toNat ((j : Nat) : Int) * 1)) = some (bv (hexd j)) := fun j hj => by
    rw [Int.toNat_natCast, Nat.mul_one, addr_add, Nat.zero_add]; exact hH j hj
  have m := fun a => Nat.mod_lt a (by decide : 0 < 16)
  refine s_drew ?_
  refine s_chk (by decide) (s_chk ⟨by omega, by have := m (n / 4096); omega⟩ (s_load ((hexd (n / 4096 % 16)).toNat : Int) (cell _ (m _)) ?_))
  refine s_chk (by decide) (s_chk ⟨by omega, by have := m (n / 256); omega⟩ (s_load ((hexd (n / 256 % 16)).toNat : Int) (cell _ (m _)) ?_))
  refine s_chk (by decide) (s_chk ⟨by omega, by have := m (n / 16); omega⟩ (s_load ((hexd (n / 16 % 16)).toNat : Int) (cell _ (m _)) ?_))
  refine s_chk (by decide) (s_chk ⟨by omega, by have := m (n / 1); omega⟩ (s_load ((hexd (n / 1 % 16)).toNat : Int) (cell _ (m _)) ?_))
  have hB : BR w.drew base x l := h
  obtain ⟨w1, h1, x', w2, h2, h3, h4, h5⟩ := hB.put (hex4 n) (by simp [hex4]) (by simp [hex4]) (by simp [hex4]; omega) hb
  have hg : RowKit.Below w.drew.heap.size w.drew w1 := by
    have := make_run (w := w.drew) (hex4 n) (by simp [hex4]) (by simp [hex4])
    rw [this] at h1
    cases h1
    exact ((Kp.refl Off w.drew).alloc _).belowOff
  refine s_eff (some ⟨w.heap.size, 0, none⟩, 4, 4) h1 ⟨hg, s_eff x' h2 (s_leaf ⟨rfl, x', rfl, h3, (Kp.refl _ w).drew.trans h4⟩)⟩
/-- What is written of the character at a place, and how many bytes it has. -/
def pc (s : ByteArray) (i : Nat) : List UInt8 × Nat :=
  if bn s i < 32 then (if bn s i = 8 then ([92, 98], 1) else if bn s i = 12 then ([92, 102], 1) else if bn s i = 10 then ([92, 110], 1) else if bn s i = 13 then ([92, 114], 1) else if bn s i = 9 then ([92, 116], 1) else ([92, 117] ++ hex4 (bn s i), 1))
  else if bn s i = 62 ∨ bn s i = 60 ∨ bn s i = 38 then ([92, 117] ++ hex4 (bn s i), 1)
  else if bn s i = 92 then ([92, 92], 1)
  else if bn s i = 34 then ([92, 34], 1)
  else if 127 < bn s i then
    (if (dc s i).1 = 65533 ∧ (dc s i).2 = 1 then ([239, 191, 189], 1)
    else if (dc s i).1 = 8232 ∨ (dc s i).1 = 8233 then ([92, 117, 50, 48, 50] ++ [hexd ((dc s i).1 % 16)], (dc s i).2)
    else ((s.extract i (i + (dc s i).2)).data.toList, (dc s i).2))
  else ([gb s i], 1)
theorem pc_step {s : ByteArray} {i : Nat} (hi : i < s.size) : 1 ≤ (pc s i).2 ∧ i + (pc s i).2 ≤ s.size ∧ (pc s i).1.length ≤ 6 * (pc s i).2 := by
  have hw := dc_width hi
  have one : ∀ l : List UInt8, l.length ≤ 6 → 1 ≤ (l, 1).2 ∧ i + (l, 1).2 ≤ s.size ∧ (l, 1).1.length ≤ 6 * (l, 1).2 := fun l h => ⟨Nat.le_refl 1, hi, h⟩
  have dcs : ∀ l : List UInt8, l.length ≤ 6 * (dc s i).2 → 1 ≤ (l, (dc s i).2).2 ∧ i + (l, (dc s i).2).2 ≤ s.size ∧ (l, (dc s i).2).1.length ≤ 6 * (l, (dc s i).2).2 := fun l h => ⟨hw.1, hw.2, h⟩
  have h4 : ∀ n, ([92, 117] ++ hex4 n).length ≤ 6 := fun n => Nat.le_refl 6
  have e6 : ∀ c : UInt8, ([92, 117, 50, 48, 50] ++ [c]).length = 6 := fun c => rfl
  have ex : (s.extract i (i + (dc s i).2)).data.toList.length ≤ 6 * (dc s i).2 := by
    have : (s.extract i (i + (dc s i).2)).data.toList.length = (s.extract i (i + (dc s i).2)).size := Array.length_toList
    rw [this, ByteArray.size_extract]; omega
  have c2 : ∀ a b : UInt8, [a, b].length ≤ 6 := fun a b => Nat.le_add_left 2 4
  have c3 : ∀ a b c : UInt8, [a, b, c].length ≤ 6 := fun a b c => Nat.le_add_left 3 3
  have c1 : ∀ a : UInt8, [a].length ≤ 6 := fun a => Nat.le_add_left 1 5
  unfold pc
  split
  · split
    · exact one _ (c2 _ _)
    split
    · exact one _ (c2 _ _)
    split
    · exact one _ (c2 _ _)
    split
    · exact one _ (c2 _ _)
    split
    · exact one _ (c2 _ _)
    · exact one _ (h4 _)
  split
  · exact one _ (h4 _)
  split
  · exact one _ (c2 _ _)
  split
  · exact one _ (c2 _ _)
  split
  · split
    · exact one _ (c3 _ _ _)
    split
    · exact dcs _ (by rw [e6]; omega)
    · exact dcs _ ex
  · exact one _ (c1 _)
/-- What is written of the text from a place on. -/
def qf (s : ByteArray) (i : Nat) : List UInt8 :=
  if _h : i < s.size then (pc s i).1 ++ qf s (i + (pc s i).2) else []
termination_by s.size - i
decreasing_by have := (pc_step (by assumption)).1; omega
theorem qf_end {s : ByteArray} {i : Nat} (h : s.size ≤ i) : qf s i = [] := by rw [qf, dif_neg (by omega)]
theorem qf_on {s : ByteArray} {i : Nat} (h : i < s.size) : qf s i = (pc s i).1 ++ qf s (i + (pc s i).2) := by rw [qf, dif_pos h]
theorem ix32 (n : Nat) (hn : n < 2147483648) : IntKind.wrap .i32 (((BitVec.toNat ((BitVec.ofInt 32 (n : Int)) &&& (BitVec.ofInt 32 (15 : Int)))) : Nat) : Int) = ((n % 16 : Nat) : Int) := by
  have h1 : BitVec.ofInt 32 (n : Int) = BitVec.ofNat 32 n := BitVec.ofInt_natCast 32 n
  have h2 : BitVec.ofInt 32 (15 : Int) = BitVec.ofNat 32 15 := by decide
  have h3 : n &&& 15 = n % 16 := Nat.and_two_pow_sub_one_eq_mod n 4
  rw [h1, h2, BitVec.toNat_and, BitVec.toNat_ofNat, BitVec.toNat_ofNat, Nat.mod_eq_of_lt (by omega : n < 2 ^ 32), Nat.mod_eq_of_lt (by decide : 15 < 2 ^ 32), h3, IntKind.wrap_i32]
  omega
theorem append_any {s : ByteArray} {w : World} (hs : s.size < 100000000) (hT : Tb w) (hH : Hx w) : Calls Tryd.prog 45 #[.slice none 0 0, .string s] w fun e w' =>
    ∃ x', e = .returned (Sr.slV x') ∧ BR w' w.heap.size x' (34 :: qf s 0 ++ [34]) ∧ Kp Off w w' := by
  refine gjson_AppendJSONString.calls _ _ _ _ ?_
  unfold gjson_AppendJSONString.t
  have hi := info_some (P := Tryd.prog) (t := Sr.tB) (by kernel_rfl)
  generalize hI : (Tryd.prog.info? Sr.tB).get (by kernel_rfl) = ti at hi
  have hs1 : ti.size = 1 := by rw [← hI]; kernel_rfl
  have hb1 : ti.bytes = 1 := by rw [← hI]; kernel_rfl
  have hz0 : ti.zero = some (.int .u8 0) := by rw [← hI]; kernel_rfl
  have h0 := Lib.run_append_nil_zeros (P := Tryd.prog) w Sr.tBs 3 Sr.tBs Sr.tB ti (.int .u8 0) .i64 .i64 Tryd.underlying48 Tryd.underlying3 hi hz0 (s.size + 2) (by omega) (by rw [hs1]; decide) (by omega) (by rw [hb1]; omega)
  have hw2 : IntKind.wrap IntKind.i64 ((((ByteArray.size s) : Nat) : Int) + (2 : Int)) = ((s.size + 2 : Nat) : Int) := by rw [wrap_in (by omega) (by omega)]; omega
  rw [hw2]
  have hcap := grownCap_ge w (s.size + 2) 0 Sr.tB
  have hcm := grownCap_le_maxLen w (s.size + 2) 0 Sr.tB (by simp only [maxLen]; omega)
  generalize hC : grownCap w (s.size + 2) 0 Sr.tB = cap at h0 hcap hcm
  refine s_eff (some ⟨w.heap.size, 0, none⟩, s.size + 2, cap) h0 ?_
  have hw3 : IntKind.wrap IntKind.i64 ((IntKind.wrap IntKind.i64 ((((s.size + 2 : Nat) : Nat) : Int) - (((ByteArray.size s) : Nat) : Int))) - (2 : Int)) = 0 := by
    rw [wrap_in (n := (((s.size + 2 : Nat) : Nat) : Int) - (((ByteArray.size s) : Nat) : Int)) (by omega) (by omega), wrap_in (by omega) (by omega)]; omega
  simp only [hw3]
  refine s_chk (by omega) ?_
  rw [if_neg (by omega)]
  simp only [Option.map_some, addr_add, Int.toNat_zero, Nat.sub_zero, Nat.zero_add]
  have k0 : Kp Off w (w.drew.alloc (.cells (Builtin.zeroCells (Value.int .u8 0).cells (s.size + 2) ++ Builtin.zeroCells (Value.int .u8 0).cells (cap - (s.size + 2))) Sr.tB)) := (Kp.refl _ w).drew.alloc _
  have hB0 : BR (w.drew.alloc (.cells (Builtin.zeroCells (Value.int .u8 0).cells (s.size + 2) ++ Builtin.zeroCells (Value.int .u8 0).cells (cap - (s.size + 2))) Sr.tB)) w.heap.size (some ⟨w.heap.size, 0, none⟩, 0, cap) [] := by
    refine ⟨rfl, .inr ⟨w.heap.size, cap, _, rfl, Nat.le_refl _, heap_alloc_new w.drew _, Nat.zero_le _, hcm, ?_, by simp⟩⟩
    rw [Array.size_append, size_zeroCells, size_zeroCells]
    show (s.size + 2) * 1 + (cap - (s.size + 2)) * 1 = cap * 1
    omega
  generalize (w.drew.alloc (.cells (Builtin.zeroCells (Value.int .u8 0).cells (s.size + 2) ++ Builtin.zeroCells (Value.int .u8 0).cells (cap - (s.size + 2))) Sr.tB)) = W0 at k0 hB0 ⊢
  have small : ([] : List UInt8).length + [(34 : UInt8)].length ≤ 4294967296 := by simp only [List.length_nil, List.length_cons]; omega
  generalize hx0 : ((some ⟨w.heap.size, 0, none⟩, 0, cap) : Sr.Sl) = x0 at hB0
  have hx1 : Value.slice (some ⟨w.heap.size, 0, none⟩) 0 cap = Value.slice x0.1 x0.2.1 x0.2.2 := by rw [← hx0]
  rw [hx1]
  refine s_put hB0 [34] k0.size small rfl rfl rfl (by simp) (by simp) fun z1 w1 hB1 k1 _ => ?_
  have frame : ∀ {w2 : World} {z : Sr.Sl} {l : List UInt8} {w1 : World}, Kp Off w w1 → BR w1 w.heap.size z l → Kp (Own z) w1 w2 → Kp Off w w2 := fun k1 hB k2 => kp_then k1 k2 fun i hi ho => by have := (hB.block i ho).1; omega
  have k01 := frame k0 hB0 k1
  refine s_loop (fun n x w' => ∃ (i : Nat) (z : Sr.Sl) (l : List UInt8), n = s.size - i ∧ x = ((i : Int), z, ()) ∧ i ≤ s.size ∧ l.length ≤ 6 * i ∧ l ++ qf s i = qf s 0 ∧ BR w' w.heap.size z (34 :: l) ∧ Kp Off w w') s.size ((0 : Int), z1, ()) rfl
    ⟨0, z1, [], rfl, rfl, Nat.zero_le _, Nat.le_refl _, rfl, hB1, k01⟩ ?_
  rintro n x w2 ⟨i, z, l, rfl, rfl, hile, hl, hq, hB, k2⟩
  simp only [gjson_AppendJSONString.t1]
  refine s_iteD (fun h => ?_) (fun h => ?_)
  rotate_left
  · have e : i = s.size := by omega
    subst e
    rw [qf_end (Nat.le_refl _), List.append_nil] at hq
    subst hq
    refine s_put hB [34] k2.size (by simp; omega) rfl rfl rfl (by simp) (by simp) fun z3 w3 hB3 k3 _ => s_leaf ?_
    rw [if_neg (by decide)]
    exact ⟨rfl, z3, rfl, hB3, frame k2 hB k3⟩
  have hlt : i < s.size := by omega
  have hst := pc_step hlt
  rw [qf_on hlt] at hq
  -- a round's end
  have on : ∀ (piece : List UInt8) (m : Nat) (z' : Sr.Sl) (w' : World) (x : Int), pc s i = (piece, m) → x = ((i + m : Nat) : Int) → BR w' w.heap.size z' (34 :: l ++ piece) → Kp Off w w' →
      (fun l'' vs w'' => if l'' = 1 then ∃ n' x', vs = (Sh.cons (.int .i64) (.cons .slice .nil)).vals x' ∧ n' < s.size - i ∧ ∃ (i : Nat) (z : Sr.Sl) (l : List UInt8), n' = s.size - i ∧ x' = ((i : Int), z, ()) ∧ i ≤ s.size ∧ l.length ≤ 6 * i ∧ l ++ qf s i = qf s 0 ∧ BR w'' w.heap.size z (34 :: l) ∧ Kp Off w w''
        else l'' = 0 ∧ (∃ x', (Ending.returned (retVal vs)) = .returned (Sr.slV x') ∧ BR w'' w.heap.size x' (34 :: qf s 0 ++ [34]) ∧ Kp Off w w'')) 1 [.int .i64 x, .slice z'.1 z'.2.1 z'.2.2] w' := by
    intro piece m z' w' x hp hx h1 h2
    rw [hp] at hst hq
    subst hx
    show if (1 : Nat) = 1 then _ else _
    rw [if_pos rfl]
    refine ⟨s.size - (i + m), (((i + m : Nat) : Int), z', ()), rfl, by omega, i + m, z', l ++ piece, rfl, rfl, hst.2.1, ?_, by rw [List.append_assoc]; exact hq, h1, h2⟩
    rw [List.length_append]
    have := hst.2.2
    simp only at this
    omega
  have w1i : IntKind.wrap IntKind.i64 ((i : Int) + (1 : Int)) = ((i + 1 : Nat) : Int) := by rw [wrap_in (by omega) (by omega)]; omega
  have hbl := bn_lt s i
  have w16 : IntKind.wrap IntKind.u16 (bt s (i : Int)) = ((bn s i : Nat) : Int) := by rw [bt_bn, IntKind.wrap_u16]; omega
  have lcons : ∀ piece : List UInt8, 34 :: l ++ piece = 34 :: (l ++ piece) := fun _ => rfl
  refine s_chk (by omega) ?_
  refine s_iteD (fun h32 => ?_) (fun h32 => ?_)
  · rw [bt_bn] at h32
    have p0 : pc s i = if bn s i = 8 then ([92, 98], 1) else if bn s i = 12 then ([92, 102], 1) else if bn s i = 10 then ([92, 110], 1) else if bn s i = 13 then ([92, 114], 1) else if bn s i = 9 then ([92, 116], 1) else ([92, 117] ++ hex4 (bn s i), 1) := by
      unfold pc; rw [if_pos (by omega)]
    refine s_put hB [92] k2.size (by simp; omega) rfl rfl rfl (by simp) (by simp) fun z3 w3 hB3 k3 _ => ?_
    have k03 := frame k2 hB k3
    refine s_chk (by omega) ?_
    -- a letter
    have letter : ∀ (c : UInt8) (Q : Nat → List Value → World → Prop) (ats : Array TypeId), ats = #[Sr.tBs, Sr.tBs] → pc s i = ([92, c], 1) →
        (∀ z' w', BR w' w.heap.size z' (34 :: l ++ [92, c]) → Kp Off w w' → Q 1 [.int .i64 (IntKind.wrap IntKind.i64 ((i : Int) + (1 : Int))), .slice z'.1 z'.2.1 z'.2.2] w') →
        sat Tryd.prog (.eff (Instr.buildSlice Sr.tBs 1 #[(0, bv c)]) .slice fun z4 => .eff (Builtin.append_ ats Sr.tBs #[(Value.slice (z3).1 ((z3).2).1 ((z3).2).2), (Value.slice (z4).1 ((z4).2).1 ((z4).2).2)]) .slice fun z5 =>
          .leaf 1 [(Value.int IntKind.i64 (IntKind.wrap IntKind.i64 ((i : Int) + (1 : Int)))), (Value.slice (z5).1 ((z5).2).1 ((z5).2).2)]) Q w3 := by
      intro c Q ats ha _ hQ
      refine s_put hB3 [c] k03.size (by simp; omega) ha rfl rfl (by simp) (by simp) fun z4 w4 hB4 k4 _ => s_leaf ?_
      refine hQ z4 w4 ?_ (frame k03 hB3 k4)
      have e : 34 :: l ++ [92] ++ [c] = 34 :: l ++ [92, c] := by simp
      rw [← e]; exact hB4
    rw [bt_bn]
    refine s_iteE (fun h8 => ?_) (fun h8 => ?_)
    · exact letter 98 _ _ rfl (by rw [p0, if_pos (by omega)]) fun z' w' a b => on _ 1 z' w' _ (by rw [p0, if_pos (by omega)]) w1i a b
    rw [if_neg (by omega)] at p0
    refine s_iteE (fun h12 => ?_) (fun h12 => ?_)
    · exact letter 102 _ _ rfl (by rw [p0, if_pos (by omega)]) fun z' w' a b => on _ 1 z' w' _ (by rw [p0, if_pos (by omega)]) w1i a b
    rw [if_neg (by omega)] at p0
    refine s_iteE (fun h10 => ?_) (fun h10 => ?_)
    · exact letter 110 _ _ rfl (by rw [p0, if_pos (by omega)]) fun z' w' a b => on _ 1 z' w' _ (by rw [p0, if_pos (by omega)]) w1i a b
    rw [if_neg (by omega)] at p0
    refine s_iteE (fun h13 => ?_) (fun h13 => ?_)
    · exact letter 114 _ _ rfl (by rw [p0, if_pos (by omega)]) fun z' w' a b => on _ 1 z' w' _ (by rw [p0, if_pos (by omega)]) w1i a b
    rw [if_neg (by omega)] at p0
    refine s_iteE (fun h9 => ?_) (fun h9 => ?_)
    · exact letter 116 _ _ rfl (by rw [p0, if_pos (by omega)]) fun z' w' a b => on _ 1 z' w' _ (by rw [p0, if_pos (by omega)]) w1i a b
    rw [if_neg (by omega)] at p0
    refine s_put hB3 [117] k03.size (by simp; omega) rfl rfl rfl (by simp) (by simp) fun z4 w4 hB4 k4 _ => ?_
    have k04 := frame k03 hB3 k4
    refine s_chk (by omega) ?_
    rw [← bt_bn, w16]
    refine s_call (hex16_any hB4 k04.size (by omega) (by simp; omega) (hH.off k04)) ?_
    rintro e w5 ⟨z5, rfl, hB5, k5⟩
    refine ⟨z5, rfl, s_leaf ?_⟩
    refine on _ 1 z5 w5 _ p0 w1i ?_ (frame k04 hB4 k5)
    have e : 34 :: l ++ [92] ++ [117] ++ hex4 (bn s i) = 34 :: l ++ ([92, 117] ++ hex4 (bn s i)) := by simp
    rw [← e]; exact hB5
  rw [bt_bn] at h32
  have p0 : pc s i = pc s i := rfl
  conv at p0 => rhs; rw [pc, if_neg (by omega)]
  refine s_cut (fun x w' => x = (decide (bn s i = 62 ∨ bn s i = 60 ∨ bn s i = 38), ()) ∧ w2 = w') ?_ ?_
  · refine s_chk (by omega) ?_
    rw [bt_bn]
    refine s_iteE (fun h => s_leaf ?_) (fun h => s_chk (by omega) ?_)
    · rw [if_pos rfl]
      refine ⟨(true, ()), rfl, ?_, rfl⟩
      rw [decide_eq_true (by omega)]; rfl
    refine s_iteE (fun h1 => s_leaf ?_) (fun h1 => s_chk (by omega) (s_leaf ?_))
    · rw [if_pos rfl]
      refine ⟨(true, ()), rfl, ?_, rfl⟩
      rw [decide_eq_true (by omega)]; rfl
    · rw [if_pos rfl]
      refine ⟨(((bn s i : Nat) : Int) == 38, ()), rfl, bpair ?_, rfl⟩
      simp only [beq_iff_eq, decide_eq_true_eq]; omega
  rintro x w2' ⟨rfl, rfl⟩
  simp only [gjson_AppendJSONString.t2]
  refine s_iteD (fun hh => ?_) (fun hh => ?_)
  · rw [if_pos hh] at p0
    refine s_call (R := fun e w' => e = .returned (.bool true) ∧ w' = w2) ?_ ?_
    · refine gjson_escapeHTML.calls ?_
      unfold gjson_escapeHTML.t
      exact s_leaf ⟨rfl, rfl, rfl⟩
    rintro e w3 ⟨rfl, rfl⟩
    refine ⟨true, rfl, sat_iteT.2 ?_⟩
    refine s_put hB [92, 117] k2.size (by simp; omega) rfl rfl rfl (by simp) (by simp) fun z4 w4 hB4 k4 _ => ?_
    have k04 := frame k2 hB k4
    refine s_chk (by omega) ?_
    rw [w16]
    refine s_call (hex16_any hB4 k04.size (by omega) (by simp; omega) (hH.off k04)) ?_
    rintro e w5 ⟨z5, rfl, hB5, k5⟩
    refine ⟨z5, rfl, s_leaf ?_⟩
    refine on _ 1 z5 w5 _ p0 w1i ?_ (frame k04 hB4 k5)
    rw [← List.append_assoc]; exact hB5
  rw [if_neg hh] at p0
  refine s_chk (by omega) ?_
  have bI : bt s (i : Int) = ((bn s i : Nat) : Int) := bt_bn s i
  refine s_iteE (fun h92 => ?_) (fun h92 => ?_)
  · rw [if_pos (by omega)] at p0
    exact s_put hB [92, 92] k2.size (by simp; omega) rfl rfl rfl (by simp) (by simp) fun z4 w4 hB4 k4 _ => s_leaf (on _ 1 z4 w4 _ p0 w1i hB4 (frame k2 hB k4))
  rw [if_neg (by omega)] at p0
  refine s_chk (by omega) ?_
  refine s_iteE (fun h34 => ?_) (fun h34 => ?_)
  · rw [if_pos (by omega)] at p0
    exact s_put hB [92, 34] k2.size (by simp; omega) rfl rfl rfl (by simp) (by simp) fun z4 w4 hB4 k4 _ => s_leaf (on _ 1 z4 w4 _ p0 w1i hB4 (frame k2 hB k4))
  rw [if_neg (by omega)] at p0
  refine s_chk (by omega) ?_
  refine s_iteD (fun h127 => ?_) (fun h127 => ?_)
  rotate_left
  · rw [if_neg (by omega)] at p0
    refine s_chk (by omega) ?_
    rw [bt_bv]
    exact s_put hB [gb s i] k2.size (by simp; omega) rfl rfl rfl (by simp) (by simp) fun z4 w4 hB4 k4 _ => s_leaf (on _ 1 z4 w4 _ p0 w1i hB4 (frame k2 hB k4))
  rw [if_pos (by omega)] at p0
  refine s_chk (by omega) ?_
  have esf : ByteArray.extract s (Int.toNat (i : Int)) (Int.toNat (((ByteArray.size s) : Nat) : Int)) = sfx s i := by
    rw [Int.toNat_natCast, Int.toNat_natCast]; rfl
  rw [esf]
  have hzs := sfx_size s i
  refine s_call (decode_any (s := sfx s i) (hT.off k2) (by omega)) ?_
  rintro e w3 ⟨rfl, k3⟩
  rw [sfx_dc, Nat.add_zero]
  have hw := dc_width hlt
  have k03 := k2.trans k3
  have hB' := hB.kp k3 fun _ _ => id
  have hru := dc_rune hlt
  generalize hd : dc s i = d at p0 hw hru ⊢
  obtain ⟨r, m⟩ := d
  simp only at p0 hw hru ⊢
  refine ⟨((r : Int), (m : Int), ()), rfl, ?_⟩
  refine s_iteE (fun h => (by have h : (m : Int) = 0 := h; omega)) (fun _ => ?_)
  have wim : IntKind.wrap IntKind.i64 ((IntKind.wrap IntKind.i64 ((IntKind.wrap IntKind.i64 ((i : Int) + (m : Int))) - (1 : Int))) + (1 : Int)) = ((i + m : Nat) : Int) := by
    rw [wrap_in (n := (i : Int) + (m : Int)) (by omega) (by omega), wrap_in (n := (i : Int) + (m : Int) - 1) (by omega) (by omega), wrap_in (by omega) (by omega)]; omega
  refine s_cut (fun x w' => x = (decide (r = 65533 ∧ m = 1), ()) ∧ w3 = w') ?_ ?_
  · refine s_iteE (fun h => s_leaf ?_) (fun h => s_leaf ?_)
    · have h : (r : Int) = 65533 := h
      rw [if_pos rfl]
      refine ⟨((m : Int) == 1, ()), rfl, bpair ?_, rfl⟩
      simp only [beq_iff_eq, decide_eq_true_eq]; omega
    · have h : ¬ (r : Int) = 65533 := h
      rw [if_pos rfl]
      refine ⟨(false, ()), rfl, ?_, rfl⟩
      rw [decide_eq_false (by omega)]; rfl
  rintro x w3' ⟨rfl, rfl⟩
  simp only [gjson_AppendJSONString.t3]
  refine s_iteD (fun he => ?_) (fun he => ?_)
  · rw [if_pos he] at p0
    refine s_putS hB' k03.size (by have : (ByteArray.mk #[(239 : UInt8), (191 : UInt8), (189 : UInt8)]).size = 3 := rfl; simp; omega) rfl fun z4 w4 hB4 k4 _ => s_leaf ?_
    refine on _ 1 z4 w4 _ p0 ?_ hB4 (frame k03 hB' k4)
    rw [wim, he.2]
  rw [if_neg he] at p0
  refine s_cut (fun x w' => x = (decide (r = 8232 ∨ r = 8233), ()) ∧ w3 = w') ?_ ?_
  · refine s_iteE (fun h => s_leaf ?_) (fun h => s_leaf ?_)
    · have h : (r : Int) = 8232 := h
      rw [if_pos rfl]
      refine ⟨(true, ()), rfl, ?_, rfl⟩
      rw [decide_eq_true (by omega)]; rfl
    · have h : ¬ (r : Int) = 8232 := h
      rw [if_pos rfl]
      refine ⟨((r : Int) == 8233, ()), rfl, bpair ?_, rfl⟩
      simp only [beq_iff_eq, decide_eq_true_eq]; omega
  rintro x w3' ⟨rfl, rfl⟩
  simp only [gjson_AppendJSONString.t4]
  refine s_iteD (fun he2 => ?_) (fun he2 => ?_)
  · rw [if_pos he2] at p0
    refine s_putS hB' k03.size (by have : (ByteArray.mk #[(92 : UInt8), (117 : UInt8), (50 : UInt8), (48 : UInt8), (50 : UInt8)]).size = 5 := rfl; simp; omega) rfl fun z4 w4 hB4 k4 _ => ?_
    have k04 := frame k03 hB' k4
    rw [ix32 r (by omega)]
    have hm := Nat.mod_lt r (by decide : 0 < 16)
    refine s_chk (by omega) ?_
    refine s_load ((hexd (r % 16)).toNat : Int) ?_ ?_
    · rw [Int.toNat_natCast, Nat.mul_one, addr_add, Nat.zero_add]; exact hH.off k04 _ hm
    refine s_put hB4 [hexd (r % 16)] k04.size (by simp; omega) rfl rfl rfl (by simp) (by simp) fun z5 w5 hB5 k5 _ => s_leaf ?_
    refine on _ m z5 w5 _ p0 wim ?_ (frame k04 hB4 k5)
    rw [← List.append_assoc]; exact hB5
  · rw [if_neg he2] at p0
    rw [wrap_in (n := (i : Int) + (m : Int)) (by omega) (by omega)]
    refine s_chk (by omega) ?_
    have eex : ByteArray.extract s (Int.toNat (i : Int)) (Int.toNat ((i : Int) + (m : Int))) = s.extract i (i + m) := by
      rw [Int.toNat_natCast]; congr 1
    rw [eex]
    refine s_putS hB' k03.size (by simp [ByteArray.size_extract]; omega) rfl fun z4 w4 hB4 k4 _ => s_leaf ?_
    refine on _ m z4 w4 _ p0 ?_ hB4 (frame k03 hB' k4)
    rw [wrap_in (n := (i : Int) + (m : Int) - 1) (by omega) (by omega), wrap_in (by omega) (by omega)]; omega
end Go.Proofs.YtbmmpnjpejamaaaDoor.Gq
