/- The law's jqStream, jqPieces, jpSame; a row of bytes off a parameter. No statement of the set is proved here. -/
import Derived.Test.YtlfebfkphgelfaaDoorYl
import Derived.Test.YtlfebfkphgelfaaDoorYj
import Derived.Test.YtlfebfkphgelfaaDoorLv
namespace Go.Proofs.YtlfebfkphgelfaaDoor.Yr
open Go Go.Proofs Go.RowKit Go.Proofs.YtlfebfkphgelfaaDoor.Rx Go.Proofs.YtlfebfkphgelfaaDoor.Tr Go.Proofs.YtlfebfkphgelfaaDoor.Pl Go.Proofs.YtlfebfkphgelfaaDoor.Pw
open Go.Proofs.YtlfebfkphgelfaaDoor.Sr (Sl slV RowIn tP pc storeP loadP zp PlAt)
open Go.Proofs.YtlfebfkphgelfaaDoor.Ka (rb re jk)
open Go.ChangeShapes Go.WideShapes

variable {w w' : World} {B : Nat → Prop} {s : ByteArray} {win : Int} {ps : List ByteArray}
abbrev tBy : TypeId := 36
/-- A row of bytes. -/
structure Cu (w : World) (q : Sl) : Prop where
  cap : q.2.1 ≤ q.2.2
  cell : q.2.1 = 0 ∨ ∃ b o : Nat, q.1 = some ⟨b, o, none⟩ ∧ b < w.heap.size ∧ ∀ j, j < q.2.1 → ∃ c : Nat, c < 256 ∧ w.cell? ⟨b, o + j, none⟩ = some (.int .u8 (c : Int))
theorem Cu.kp {q : Sl} (h : Cu w q) (k : Kp Off w w') : Cu w' q := by
  refine ⟨h.cap, ?_⟩
  rcases h.cell with h0 | ⟨b, o, h1, h2, h3⟩
  · exact .inl h0
  · refine .inr ⟨b, o, h1, Nat.lt_of_lt_of_le h2 k.size, fun j hj => ?_⟩
    obtain ⟨c, hc, h4⟩ := h3 j hj
    exact ⟨c, hc, by rw [k.cell (a := ⟨b, o + j, none⟩) h2 id]; exact h4⟩
set_option maxRecDepth 100000 in
theorem cuts_open {H : Type} {enc : TypeId × Value → H} {W : World} {base : Nat} {spare : Nat → Bool} {held : Bool} {r : Reach} {b0 : Nat} {v : Value} {d : DataW H} {p : List MemPlace}
    (hv : Value.okWide Tryd.prog W r b0 tBy v) (h : DataW.Trod enc Tryd.prog W base spare held tBy v d p) : ∃ q : Sl, v = slV q ∧ Cu W q := by
  have hw := okWide_slice (P := Tryd.prog) (t := tBy) (e := 5) Tryd.underlying36 hv
  obtain ⟨a, len, cap, rfl⟩ := hw
  obtain ⟨fuel, hf⟩ := h
  rcases open_ints Tryd.underlying36 Tryd.underlying5 (by kernel_rfl) hf with ⟨h1, _⟩ | ⟨a', len', cap', zs, h1, _, h3, h4, h5, _, h7, h8⟩
  · have h1 : [Value.slice a len cap] = [.slice none 0 0] := h1
    cases h1
    exact ⟨(none, 0, 0), rfl, ⟨Nat.le_refl _, .inl rfl⟩⟩
  · have h1 : [Value.slice a len cap] = [.slice (some a') len' cap'] := h1
    cases h1
    have hlm : len ≤ zs.length := by rw [h5]; split <;> omega
    refine ⟨(some a', len, cap), rfl, ⟨h3, ?_⟩⟩
    rcases Nat.eq_zero_or_pos len with h0 | h0
    · exact .inl h0
    · right
      obtain ⟨b, off, spot⟩ := a'
      have hspot : spot = none := by simpa [Addr.add] using World.cell?_spot (h7 0 (by omega))
      subst hspot
      have hc0 := h7 0 (by omega)
      rw [addr_add] at hc0
      refine ⟨b, off, rfl, Ms.cell_lt hc0, fun j hj => ?_⟩
      have hj : j < len := hj
      have := h7 j (by omega)
      rw [addr_add] at this
      have hz := h8 (zs.getD j 0) (by
        rw [List.getD_eq_getElem?_getD, List.getElem?_eq_getElem (by omega)]
        exact List.getElem_mem _)
      obtain ⟨z1, z2⟩ : (0 : Int) ≤ zs.getD j 0 ∧ zs.getD j 0 < 256 := by
        have h9 : (IntKind.u8.min ≤ zs.getD j 0 && zs.getD j 0 ≤ IntKind.u8.max) = true := hz
        rw [Bool.and_eq_true, decide_eq_true_eq, decide_eq_true_eq] at h9
        have e1 : IntKind.u8.min = 0 := rfl
        have e2 : IntKind.u8.max = 255 := rfl
        omega
      refine ⟨(zs.getD j 0).toNat, by omega, ?_⟩
      rw [this, show (((zs.getD j 0).toNat : Nat) : Int) = zs.getD j 0 by omega]
theorem stream_any {q : Sl} : Calls Tryd.prog 11 #[.string s, slV q, .int .i64 win] w fun en w' => (∃ b : Bool, en = .returned (.bool b) ∧ (b = true → s.size ≤ 3000 ∧ q.2.1 ≤ 100 ∧ 0 ≤ win ∧ win ≤ 1048576)) ∧ w' = w := by
  refine laws_jqStream.calls _ _ _ _ _ ?_
  unfold laws_jqStream.t
  have no : ∀ {x : Bool}, x = false → (x = true → s.size ≤ 3000 ∧ q.2.1 ≤ 100 ∧ 0 ≤ win ∧ win ≤ 1048576) := fun e h => by rw [e] at h; cases h
  refine s_iteD (fun h1 => s_iteD (fun h2 => s_iteD (fun h3 => s_leaf ⟨rfl, ⟨_, rfl, fun h4 => ?_⟩, rfl⟩) (fun _ => s_leaf ⟨rfl, ⟨false, rfl, no rfl⟩, rfl⟩)) (fun _ => s_leaf ⟨rfl, ⟨false, rfl, no rfl⟩, rfl⟩)) (fun _ => s_leaf ⟨rfl, ⟨false, rfl, no rfl⟩, rfl⟩)
  have h4 := of_decide_eq_true h4
  exact ⟨by omega, by omega, h3, h4⟩
theorem min_run {P : Program} (a b : Int) (ats : Array TypeId) (t : TypeId) (w : World) : (Builtin.min_ ats t #[.int .i64 a, .int .i64 b]).run P w = .ok (.int .i64 (if b < a then b else a)) w := rfl
/-- The pieces' order: an empty one is made at even places alone. -/
theorem alt_of : ∀ (ps : List ByteArray) (c : Nat), (∀ (j : Nat) (x : ByteArray), ps[j]? = some x → x.size = 0 → (j + c) % 2 = 0) → Alt 0 ps ∧ (c % 2 = 1 → Alt 1 ps)
  | [], c, _ => ⟨trivial, fun _ => trivial⟩
  | x :: r, c, h => by
    obtain ⟨h1, h2⟩ := alt_of r (c + 1) fun j y hj hy => by
      have := h (j + 1) y hj hy
      omega
    have h0 := h 0 x rfl
    refine ⟨⟨fun hx => ⟨rfl, h2 (by have := h0 hx; omega)⟩, fun _ => h1⟩, fun hc => ⟨fun hx => ?_, fun _ => h1⟩⟩
    have := h0 hx
    omega
theorem cat_app : ∀ (a : List ByteArray) (x : ByteArray), cat (a ++ [x]) = cat a ++ x.data.toList
  | [], x => by show x.data.toList ++ [] = [] ++ x.data.toList; rw [List.append_nil, List.nil_append]
  | y :: a, x => by
    show y.data.toList ++ cat (a ++ [x]) = (y.data.toList ++ cat a) ++ x.data.toList
    rw [cat_app a x, List.append_assoc]
theorem ext_list (x : ByteArray) (a b : Nat) : (x.extract a b).data.toList = (x.data.toList.drop a).take (b - a) := by
  rw [ByteArray.data_extract, Array.toList_extract, List.extract_eq_take_drop]
/-- How many bytes a piece takes. -/
def Pn (i : Nat) (n : Int) : Prop := 0 ≤ n ∧ n ≤ 255 ∧ (n = 0 → i % 2 = 0)
theorem pieces_any {q : Sl} (hs : s.size ≤ 3000) (hq : Cu w q) (hql : q.2.1 ≤ 100) :
    Calls Tryd.prog 13 #[.string s, slV q] w fun en w' => ∃ (v : Sl) (ps : List ByteArray), en = .returned (slV v) ∧ w'.ownsRow w.heap.size tStr 1 (slV v) ps.length (ps.map strV) ∧ cat ps = s.data.toList ∧ Alt 0 ps ∧ ps.length ≤ 6001 ∧ Kp Off w w' := by
  refine laws_jqPieces.calls _ _ _ _ ?_
  unfold laws_jqPieces.t
  have hqc := hq.cap
  refine s_loop (fun n z w' => ∃ (i : Nat) (x : ByteArray) (v : Sl) (ps : List ByteArray), n = 2 * x.size + (if i % 2 = 0 then 1 else 0) ∧ z = ((i : Int), x, v, ()) ∧ w'.ownsRow w.heap.size tStr 1 (slV v) i (ps.map strV) ∧ ps.length = i ∧ cat ps ++ x.data.toList = s.data.toList ∧ (∀ (j : Nat) (y : ByteArray), ps[j]? = some y → y.size = 0 → j % 2 = 0) ∧ i + (2 * x.size + (if i % 2 = 0 then 1 else 0)) ≤ 2 * s.size + 1 ∧ Kp Off w w')
    (2 * s.size + 1) ((0 : Int), s, (none, 0, 0), ()) rfl ⟨0, s, (none, 0, 0), [], rfl, rfl, World.ownsRow_nil _ _ _ _, rfl, rfl, fun j y hj => by simp at hj, by simp, Kp.refl _ _⟩ ?_
  rintro n z w1 ⟨i, x, v, ps, rfl, rfl, ho, hpl, hct, hev, hin, k1⟩
  show sat _ (laws_jqPieces.t1 q.1 q.2.1 (i : Int) x v) _ _
  unfold laws_jqPieces.t1
  refine s_ite (fun hx => ?_) (fun hx => s_leaf ?_)
  rotate_left
  · rw [if_neg (by decide)]
    have hx0 : x = ByteArray.mk #[] := strEq_iff.1 (by simpa using hx)
    refine ⟨rfl, v, ps, rfl, by rw [hpl]; exact ho, ?_, ?_, by omega, k1⟩
    · rw [← hct, hx0]; show cat ps = cat ps ++ []; rw [List.append_nil]
    · exact (alt_of ps 0 fun j y hj hy => by have := hev j y hj hy; omega).1
  have hxpos : 0 < x.size := by
    rcases Nat.eq_zero_or_pos x.size with h0 | h0
    · have e : x = ByteArray.mk #[] := by
        apply ByteArray.ext
        apply Array.toList_inj.1
        exact List.eq_nil_of_length_eq_zero (by rw [Array.length_toList]; exact h0)
      rw [strEq_iff.2 e] at hx
      cases hx
    · exact h0
  refine s_cut (fun z w' => ∃ m : Int, z = (m, ()) ∧ Pn i m ∧ w1 = w') (s_iteD (fun hlen => ?_) (fun _ => s_leaf ?_)) ?_
  · have hq1 := hq.kp k1
    rcases hq1.cell with h0 | ⟨b, o, h1, h2, h3⟩
    · omega
    have hmod : Int.tmod (i : Int) ((q.2.1 : Nat) : Int) = ((i % q.2.1 : Nat) : Int) := rfl
    have hml : i % q.2.1 < q.2.1 := Nat.mod_lt _ (by omega)
    obtain ⟨c, hc, h4⟩ := h3 (i % q.2.1) hml
    rw [hmod]
    refine s_chk (by omega) (s_chk ⟨by omega, by omega⟩ ⟨_, h1, ?_⟩)
    refine s_load (c : Int) (by rw [addr_add, Int.toNat_natCast, Nat.mul_one]; exact h4) ?_
    have ew : IntKind.wrap IntKind.i64 (c : Int) = (c : Int) := wrap_in (by omega) (by omega)
    rw [ew]
    have h2m : Int.tmod (i : Int) (2 : Int) = ((i % 2 : Nat) : Int) := rfl
    refine s_cut (fun z w' => ∃ b : Bool, z = (b, ()) ∧ (b = false → c = 0 → i % 2 = 0) ∧ w1 = w') (s_iteE (fun h0 => ?_) (fun h0 => s_leaf ?_)) ?_
    · rw [h2m]
      refine s_chk (by decide) (s_leaf ?_)
      rw [if_pos rfl]
      refine ⟨(_, ()), rfl, _, rfl, fun hb _ => ?_, rfl⟩
      have := beq_eq_false_iff_ne.1 hb
      omega
    · rw [if_pos rfl]
      exact ⟨(false, ()), rfl, false, rfl, fun _ e => absurd (by rw [e]; rfl) h0, rfl⟩
    rintro _ w' ⟨bb, rfl, hbb, rfl⟩
    show sat _ (laws_jqPieces.t2 (c : Int) bb) _ _
    unfold laws_jqPieces.t2
    refine s_cut (fun z w' => ∃ m : Int, z = (m, ()) ∧ Pn i m ∧ w1 = w') (s_ite (fun hb => s_leaf ?_) (fun hb => s_leaf ?_)) ?_
    · rw [if_pos rfl]; exact ⟨((1 : Int), ()), rfl, 1, rfl, ⟨by decide, by decide, fun e => by cases e⟩, rfl⟩
    · rw [if_pos rfl, ew]; exact ⟨((c : Int), ()), rfl, c, rfl, ⟨by omega, by omega, fun e => hbb hb (by omega)⟩, rfl⟩
    rintro _ w' ⟨m, rfl, hm, rfl⟩
    show sat _ (laws_jqPieces.t3 m) _ _
    unfold laws_jqPieces.t3
    refine s_leaf ?_
    rw [if_pos rfl]
    exact ⟨(m, ()), rfl, m, rfl, hm, rfl⟩
  · rw [if_pos rfl]; exact ⟨((1 : Int), ()), rfl, 1, rfl, ⟨by decide, by decide, fun e => by cases e⟩, rfl⟩
  rintro _ w' ⟨m, rfl, ⟨m0, m1, m2⟩, rfl⟩
  show sat _ (laws_jqPieces.t4 (i : Int) x v m) _ _
  unfold laws_jqPieces.t4
  obtain ⟨n, hn⟩ : ∃ n : Nat, (if ((x.size : Nat) : Int) < m then ((x.size : Nat) : Int) else m) = (n : Int) := ⟨(if ((x.size : Nat) : Int) < m then ((x.size : Nat) : Int) else m).toNat, by split <;> omega⟩
  have hnx : n ≤ x.size := by split at hn <;> omega
  have hn0 : n = 0 → i % 2 = 0 := fun e => m2 (by split at hn <;> omega)
  refine s_eff (n : Int) (by rw [← hn]; exact min_run m ((x.size : Nat) : Int) _ _ _) (s_chk ⟨by omega, by omega, by omega⟩ ?_)
  rw [Int.toNat_natCast, Int.toNat_natCast]
  have htS := info_some (P := Tryd.prog) (t := tStr) (by kernel_rfl)
  have hz1 := k1.size
  obtain ⟨w2, h2, a, c', w3, h3, h4, h5, h6⟩ := push_run (P := Tryd.prog) (w := w1) (base := w.heap.size) (t := tSs) (e := tStr) (z0 := .string (ByteArray.mk #[])) (size := 1) Tryd.underlying22 htS (by kernel_rfl) (by kernel_rfl) (of_decide_eq_true (by kernel_rfl)) rfl (by decide) (by decide) ho (strV (x.extract 0 n)) [strV (x.extract 0 n)] rfl rfl (fun u hu => by
    rcases List.mem_cons.1 hu with rfl | hu
    · rfl
    · exact absurd hu List.not_mem_nil) (by split at hin <;> omega) (by omega)
  refine s_eff (some ⟨w1.heap.size, 0, none⟩, 1, 1) h2 (s_eff (a, i + 1, c') h3 (s_chk ⟨by omega, by omega, Int.le_refl _⟩ (s_leaf ?_)))
  rw [if_pos rfl]
  have w1' : IntKind.wrap IntKind.i64 ((i : Int) + 1) = ((i + 1 : Nat) : Int) := by rw [wrap_in (by omega) (by split at hin <;> omega)]; omega
  rw [w1']
  have hes : (x.extract n x.size).size = x.size - n := by rw [ByteArray.size_extract]; omega
  have hm2 : 2 * (x.size - n) + (if (i + 1) % 2 = 0 then 1 else 0) < 2 * x.size + (if i % 2 = 0 then 1 else 0) := by
    rcases Nat.eq_zero_or_pos n with e | e
    · have := hn0 e
      rw [if_pos this, if_neg (by omega)]; omega
    · split <;> split <;> omega
  refine ⟨2 * (x.size - n) + (if (i + 1) % 2 = 0 then 1 else 0), (((i + 1 : Nat) : Int), x.extract n x.size, (a, i + 1, c'), ()), rfl, hm2, i + 1, x.extract n x.size, (a, i + 1, c'), ps ++ [x.extract 0 n], by rw [hes], rfl, ?_, by rw [List.length_append, hpl]; rfl, ?_, fun j y hj hy => ?_, by rw [hes]; omega, k1.then h5 fun q hq e => ?_⟩
  · rw [List.map_append]; exact h4
  · have hxx : (x.extract 0 n).data.toList ++ (x.extract n x.size).data.toList = x.data.toList := by
      rw [ext_list x 0 n, ext_list x n x.size, List.drop_zero, Nat.sub_zero]
      have : (x.data.toList.drop n).take (x.size - n) = x.data.toList.drop n := List.take_of_length_le (by rw [List.length_drop, len_of]; exact Nat.le_refl _)
      rw [this, List.take_append_drop]
    rw [cat_app, List.append_assoc, hxx, hct]
  · rcases Nat.lt_or_ge j ps.length with g1 | g1
    · rw [List.getElem?_append_left g1] at hj
      exact hev j y hj hy
    · rw [List.getElem?_append_right g1] at hj
      have : j - ps.length = 0 := by
        have := (List.getElem?_eq_some_iff.1 hj).1
        simp at this; omega
      rw [this] at hj
      cases hj
      have h7 : (x.extract 0 n).size = n := by rw [ByteArray.size_extract]; omega
      have := hn0 (by omega)
      omega
  · have := own_ge ho e
    omega
theorem same_any {c : PT} {na ka : Sl} (hs : s.size ≤ 8000000000) (hw : WfV s c) :
    Calls Tryd.prog 14 #[.agg (fc s c).toArray, .string s, .agg (pc c.k c.b c.e na ka).toArray] w fun en w' => en = .returned (.bool true) ∧ Kp Off w w' := by
  refine laws_jpSame.calls _ _ _ _ _ _ _ _ _ _ _ _ _ _ ?_
  unfold laws_jpSame.t
  refine s_alloc ?_
  have b0 := Blk.new w (fc s c) tF
  have k0 : Kp Off w (w.alloc (.cells (fc s c).toArray tF (0, 0))) := (Kp.refl Off w).alloc _
  have z0 : (w.alloc (.cells (fc s c).toArray tF (0, 0))).heap.size = w.heap.size + 1 := by simp
  show sat _ _ _ (w.alloc (.cells (fc s c).toArray tF (0, 0)))
  generalize w.alloc (.cells (fc s c).toArray tF (0, 0)) = w1 at b0 k0 z0
  refine s_alloc ?_
  have b1 := Blk.new w1 (pc c.k c.b c.e na ka) tP
  have k1 : Kp Off w1 (w1.alloc (.cells (pc c.k c.b c.e na ka).toArray tP (0, 0))) := (Kp.refl Off w1).alloc _
  show sat _ _ _ (w1.alloc (.cells (pc c.k c.b c.e na ka).toArray tP (0, 0)))
  generalize w1.alloc (.cells (pc c.k c.b c.e na ka).toArray tP (0, 0)) = w2 at b1 k1
  refine s_drew ?_
  have kd : Kp Off w2 w2.drew := (Kp.refl Off w2).drew
  have b0 := kd.blk (k1.blk b0 id) id
  have b1 := kd.blk b1 id
  have k03 := (k0.trans k1).trans kd
  generalize w2.drew = w3 at b0 b1 k03
  refine s_load (jk c.k) (by rw [addr_add, Nat.zero_add, b0.cell]; rfl) (s_load (c.k : Int) (by rw [addr_add, Nat.zero_add, b1.cell]; rfl) ?_)
  show sat _ _ _ w3
  refine s_call (Lj.jpKind_any (Lj.wf_kind hw)) ?_
  rintro en w4 ⟨rfl, rfl⟩
  refine ⟨jk c.k, rfl, (Kp.refl Off w4).belowOff, s_iteE (fun _ => ?_) (fun n => absurd rfl n)⟩
  refine s_load (s.extract (rb c) (re c)) (by rw [addr_add, Nat.zero_add, b0.cell]; rfl) ⟨((c.k : Int), (c.b : Int), (c.e : Int), na, ka, ()), fun w'' hw'' => loadP ((Kp.of_below (S := Off) hw'').blk b1 id), ?_⟩
  show sat _ _ _ w4
  refine s_call (Lj.raw_any hs hw) ?_
  rintro en w5 ⟨rfl, k5⟩
  refine ⟨s.extract (rb c) (re c), rfl, k5.belowOff, s_leaf ⟨rfl, ?_, k03.trans k5⟩⟩
  show Ending.returned (retVal [.bool (strEq _ _)]) = _
  rw [strEq_iff.2 rfl]; rfl
end Go.Proofs.YtlfebfkphgelfaaDoor.Yr
