/- The reference's colorer: what its methods write. No statement of the set is proved here. -/
import Derived.Test.YtiganlecnpphmaaCo
import Derived.Test.YtiganlecnpphmaaPq
namespace Go.Proofs.Ytiganlecnpphmaa.Cw
open Go Go.Proofs Go.RowKit Go.Proofs.Ytiganlecnpphmaa.Rx Go.Proofs.Ytiganlecnpphmaa.Tr Go.Proofs.Ytiganlecnpphmaa.Pl Go.Proofs.Ytiganlecnpphmaa.Pw Go.Proofs.Ytiganlecnpphmaa.Bw Go.Proofs.Ytiganlecnpphmaa.Co
open Go.Proofs.Ytiganlecnpphmaa.Sr (slV tBs tB Sl tP pc PlAt AllAt RowIn spanC loadP Blank_any)

abbrev tC : TypeId := 44
abbrev tM : TypeId := 22
abbrev Sy := Nat → ByteArray
def mb (st : Sy) : Mk := fun k => (st k).data.toList
/-- The colorer's cells. -/
def cC (s : ByteArray) (st : Sy) (v : Value) : List Value :=
  [.string s, .string (st 0), .string (st 1), .string (st 2), .string (st 3), .string (st 4), .string (st 5), .string (st 6), .string (st 7), .string (st 8), .string (st 9), .string (st 10), .string (st 11), .string (st 12), .string (st 13), .string (st 14), .string (st 15), v]
structure CO (s : ByteArray) (st : Sy) (N g : Nat) (w : World) (x : Sl) (D : List UInt8) : Prop where
  blk : Blk w g (cC s st (slV x)) tC
  row : BR w N x D
  low : N ≤ g
  apart : ¬ Own x g
/-- What a step leaves. -/
structure Af (g : Nat) (w : World) (x : Sl) (w' : World) (x' : Sl) : Prop where
  kp : Kp (fun k => k = g ∨ Own x k) w w'
  own : ∀ q, Own x' q → Own x q ∨ w.heap.size ≤ q
variable {s : ByteArray} {st : Sy} {N g : Nat} {w w1 w2 : World} {x x1 x2 : Sl} {D : List UInt8}
theorem Af.refl (g : Nat) (w : World) (x : Sl) : Af g w x w x := ⟨Kp.refl _ w, fun _ h => .inl h⟩
theorem Af.trans (h : Af g w x w1 x1) (k : Af g w1 x1 w2 x2) : Af g w x w2 x2 :=
  ⟨h.kp.then k.kp fun i hi c => by
      rcases c with c | c
      · exact .inl c
      · rcases h.own i c with d | d
        · exact .inr d
        · omega, fun q hq => by
    rcases k.own q hq with d | d
    · exact h.own q d
    · exact .inr (Nat.le_trans h.kp.size d)⟩
theorem Af.blk (h : Af g w x w1 x1) {b : Nat} {cs : List Value} {t : TypeId} (hb : Blk w b cs t) (hg : b ≠ g) (hx : ¬ Own x b) : Blk w1 b cs t ∧ ¬ Own x1 b := by
  have hlt := hb.lt
  refine ⟨h.kp.blk hb fun c => ?_, fun c => ?_⟩
  · rcases c with c | c
    · exact hg c
    · exact hx c
  · rcases h.own b c with d | d
    · exact hx d
    · omega
theorem CO.drew (h : CO s st N g w x D) : CO s st N g w.drew x D := ⟨h.blk.drew, h.row.kp (Kp.refl Off w).drew fun _ _ => id, h.low, h.apart⟩
theorem Af.drew (g : Nat) (w : World) (x : Sl) : Af g w x w.drew x := ⟨(Kp.refl _ w).drew, fun _ h => .inl h⟩
/-- A world in which but new blocks came. -/
theorem CO.off (h : CO s st N g w x D) (k : Kp Off w w1) : CO s st N g w1 x D ∧ Af g w x w1 x :=
  ⟨⟨k.blk h.blk id, h.row.kp k fun _ _ => id, h.low, h.apart⟩, ⟨k.off, fun _ h => .inl h⟩⟩
theorem CO.size (h : CO s st N g w x D) : N ≤ w.heap.size := by have := h.blk.lt; have := h.low; omega
/-- The output takes the place of the old one. -/
theorem CO.put (h : CO s st N g w x D) {l : List UInt8} (hB : BR w1 N x1 (D ++ l)) (k : Kp (Own x) w w1) (ho : ∀ q, Own x1 q → Own x q ∨ w.heap.size ≤ q) :
    Blk w1 g (cC s st (slV x)) tC ∧ CO s st N g (w1.setCell ⟨g, 17, none⟩ (.slice x1.1 x1.2.1 x1.2.2)) x1 (D ++ l) ∧ Af g w x (w1.setCell ⟨g, 17, none⟩ (.slice x1.1 x1.2.1 x1.2.2)) x1 := by
  have hlt := h.blk.lt
  have b1 := k.blk h.blk h.apart
  have hng : ¬ Own x1 g := fun c => by
    rcases ho g c with d | d
    · exact h.apart d
    · omega
  have kk : Kp (On g) w1 (w1.setCell ⟨g, 17, none⟩ (.slice x1.1 x1.2.1 x1.2.2)) := (Kp.refl (On g) w1).on 17 _
  refine ⟨b1, ⟨b1.set 17 (slV x1), hB.kp kk fun b hb e => hng (by have e : b = g := e; rw [← e]; exact hb), h.low, hng⟩, ⟨?_, ho⟩⟩
  exact (k.mono fun _ _ c => .inr c).then kk fun i _ e => .inl e
theorem s_putG {Q : Nat → List Value → World → Prop} {ats : Array TypeId} {c : Int} {K : Sh.slice.Ty → T} (h : BR w N x D) (b : UInt8) (hc : c = (b.toNat : Int)) (hbase : N ≤ w.heap.size) (hn : D.length + 1 ≤ 4294967296) (ha : ats = #[tBs, tBs])
    (hK : ∀ (x' : Sl) (w' : World), BR w' N x' (D ++ [b]) → Kp (Own x) w w' → (∀ q, Own x' q → Own x q ∨ w.heap.size ≤ q) → sat Try.prog (K x') Q w') :
    sat Try.prog (.eff (Instr.buildSlice tBs 1 #[(0, .int .u8 c)]) .slice fun z3 => .grew w (.eff (Builtin.append_ ats tBs #[(Value.slice (x).1 ((x).2).1 ((x).2).2), (Value.slice (z3).1 ((z3).2).1 ((z3).2).2)]) .slice K)) Q w := by
  subst ha; subst hc
  obtain ⟨w1, h1, x', w2, h2, h3, h4, h5⟩ := h.put [b] (by simp) (by simp) hn hbase
  have hm := make_run (w := w) [b] (by simp) (by show 1 ≤ 4096; decide)
  have e1 : w1 = w.alloc (.cells ([b].map bv).toArray tB) := by
    rw [hm] at h1; cases h1; rfl
  refine s_eff (some ⟨w.heap.size, 0, none⟩, 1, 1) h1 ⟨?_, ?_⟩
  · rw [e1]; exact ((Kp.refl Off w).alloc _).belowOff
  · exact s_eff x' h2 (hK x' w2 h3 h4 h5)
/-- Two strings of a struct, or of a pair. -/
theorem pair_run {bk o : Nat} {u v : ByteArray} (h0 : w.cell? ⟨bk, o, none⟩ = some (.string u)) (h1 : w.cell? ⟨bk, o + 1, none⟩ = some (.string v)) :
    (Instr.loadAt tM (.pointer (some ⟨bk, o, none⟩))).run Try.prog w = .ok (.agg #[.string u, .string v]) w := by
  have hi := info_some (P := Try.prog) (t := tM) (by kernel_rfl)
  have hs : ((Try.prog.info? tM).get (by kernel_rfl)).size = 2 := by kernel_rfl
  have ha : aggT Try.prog tM = some true := by kernel_rfl
  simp only [Instr.loadAt, Instr.sureAddr, loadVar, Sem.run_bind, Sem.run_pure, Result.andThen_ok, run_agg ha, if_true, run_size hi, loadCells, hs]
  simp [loadCellsFrom, h0, h1]
theorem ext_sl (s : ByteArray) (a b : Nat) : (s.extract a b).data.toList = sl s a b := by
  rw [ByteArray.data_extract, Array.toList_extract, List.extract_eq_take_drop]; rfl
def nilT : Value := .tuple #[]
theorem marked_any {a b : Nat} {m0 m1 : ByteArray} (h : CO s st N g w x D) (hab : a ≤ b) (hb : b ≤ s.size) (hs : s.size ≤ 100000) (h0 : m0.size ≤ 64) (h1 : m1.size ≤ 64) (hD : D.length ≤ 100000000) :
    Calls Try.prog 19 #[.pointer (some ⟨g, 0, none⟩), .agg #[.string m0, .string m1], .int .i64 a, .int .i64 b] w fun e w' =>
      e = .returned nilT ∧ ∃ x', CO s st N g w' x' (D ++ (m0.data.toList ++ sl s a b ++ m1.data.toList)) ∧ Af g w x w' x' := by
  refine spec_colorer_marked.calls _ _ _ _ _ ?_
  unfold spec_colorer_marked.t
  obtain ⟨w1, hw1⟩ : ∃ w1, w.alloc (.cells [Value.string m0, .string m1].toArray tM (0, 0)) = w1 := ⟨_, rfl⟩
  have b1 : Blk w1 w.heap.size [Value.string m0, .string m1] tM := by rw [← hw1]; exact Blk.new w _ tM
  have k1 : Kp Off w w1 := by rw [← hw1]; exact (Kp.refl _ w).alloc _
  obtain ⟨c1, a1⟩ := h.off k1
  have hz1 : w1.heap.size = w.heap.size + 1 := by rw [← hw1]; simp
  have hg := h.blk.lt
  have nx : ¬ Own x w.heap.size := fun c => by have := (h.row.block _ c).2; omega
  refine Sr.s_allocE w.heap.size rfl w1 hw1 ?_
  have ml0 : m0.data.toList.length = m0.size := Array.length_toList
  have ml1 : m1.data.toList.length = m1.size := Array.length_toList
  have hsl := sl_len s a b
  have hxl : (s.extract a b).size ≤ b - a := by rw [ByteArray.size_extract]; omega
  -- the first mark
  have c2 := c1.drew
  have b2 := b1.drew
  have a2 := a1.trans (Af.drew g w1 x)
  refine s_drew (s_ptr ?_)
  generalize w1.drew = w2 at c2 b2 a2
  simp only [addr_add, Nat.zero_add, Nat.add_zero]
  refine s_load x (c2.blk.cell 17) (s_chk (by decide) (s_load m0 (b2.cell 0) ?_))
  refine s_putS c2.row c2.size (by omega) rfl fun x3 w3 hB3 k3 o3 => s_ptr ?_
  obtain ⟨g3, c3, a3⟩ := c2.put hB3 k3 o3
  simp only [addr_add, Nat.zero_add]
  refine s_store (g3.cell 17) (g3.free 17) (s_drew (s_ptr ?_))
  have a3' := a2.trans a3
  have b3 := (a3.blk b2 (by omega) nx)
  generalize (w3.setCell ⟨g, 17, none⟩ (.slice x3.1 x3.2.1 x3.2.2)) = w4 at c3 a3' b3
  have c4 := c3.drew
  have b4 := b3.1.drew
  have a4 := a3'.trans (Af.drew g w4 x3)
  generalize w4.drew = w5 at c4 b4 a4
  -- the text
  simp only [addr_add, Nat.zero_add]
  refine s_load x3 (c4.blk.cell 17) (s_ptr ?_)
  simp only [addr_add, Nat.add_zero]
  refine s_load s (c4.blk.cell 0) (s_chk (by omega) ?_)
  rw [Int.toNat_natCast, Int.toNat_natCast]
  refine s_putS c4.row c4.size (by simp only [List.length_append]; omega) rfl fun x6 w6 hB6 k6 o6 => s_ptr ?_
  obtain ⟨g6, c6, a6⟩ := c4.put hB6 k6 o6
  simp only [addr_add, Nat.zero_add]
  refine s_store (g6.cell 17) (g6.free 17) (s_drew (s_ptr ?_))
  have a6' := a4.trans a6
  have b6 := (a6.blk b4 (by omega) b3.2)
  generalize (w6.setCell ⟨g, 17, none⟩ (.slice x6.1 x6.2.1 x6.2.2)) = w7 at c6 a6' b6
  have c7 := c6.drew
  have b7 := b6.1.drew
  have a7 := a6'.trans (Af.drew g w7 x6)
  generalize w7.drew = w8 at c7 b7 a7
  -- the last mark
  simp only [addr_add, Nat.zero_add]
  refine s_load x6 (c7.blk.cell 17) (s_chk (by decide) (s_load m1 (b7.cell 1) ?_))
  refine s_putS c7.row c7.size (by simp only [List.length_append, ext_sl]; omega) rfl fun x9 w9 hB9 k9 o9 => s_ptr ?_
  obtain ⟨g9, c9, a9⟩ := c7.put hB9 k9 o9
  simp only [addr_add, Nat.zero_add]
  refine s_store (g9.cell 17) (g9.free 17) (s_leaf ⟨rfl, rfl, x9, ?_, a7.trans a9⟩)
  rw [ext_sl] at c9
  simpa [List.append_assoc] using c9
theorem gap_any {a b : Nat} {obj : Bool} (h : CO s st N g w x D) (hb : b ≤ s.size) (ha : a ≤ s.size) (hs : s.size ≤ 100000) (hm : ∀ k, (st k).size ≤ 64) (hD : D.length + 200 * s.size ≤ 100000000) :
    Calls Try.prog 12 #[.pointer (some ⟨g, 0, none⟩), .int .i64 a, .int .i64 b, .bool obj] w fun e w' =>
      e = .returned nilT ∧ ∃ x', CO s st N g w' x' (D ++ gp (mb st) s obj a b) ∧ Af g w x w' x' := by
  refine spec_colorer_gap.calls _ _ _ _ ?_
  unfold spec_colorer_gap.t
  refine s_loop (fun n y w' => ∃ (i : Nat) (x' : Sl) (E : List UInt8), n = s.size - i ∧ y = ((i : Int), ()) ∧ a ≤ i ∧ i ≤ s.size ∧ E ++ gp (mb st) s obj i b = gp (mb st) s obj a b ∧ E.length ≤ 130 * (i - a) ∧ CO s st N g w' x' (D ++ E) ∧ Af g w x w' x')
    (s.size - a) ((a : Int), ()) rfl ⟨a, x, [], rfl, rfl, Nat.le_refl _, ha, rfl, by simp, by simpa using h, Af.refl _ _ _⟩ ?_
  rintro n y w1 ⟨i, x1, E, rfl, rfl, h1, h2, hE, hEl, c1, a1⟩
  simp only [spec_colorer_gap.t1]
  have wi : IntKind.wrap IntKind.i64 ((i : Int) + 1) = ((i + 1 : Nat) : Int) := by rw [wrap_in (by omega) (by omega)]; omega
  have hbt : bt s (i : Int) = ((gb s i).toNat : Int) := by unfold bt gb; rw [Int.toNat_natCast]
  refine s_iteD (fun hlt => ?_) (fun hge => s_leaf ?_)
  rotate_left
  · rw [if_neg (by decide)]
    rw [gp_end (show b ≤ i by omega), List.append_nil] at hE
    subst hE
    exact ⟨rfl, rfl, x1, c1, a1⟩
  have hib : i < b := by omega
  rw [gp_on hib] at hE
  have fin : ∀ (x2 : Sl) (w2 : World) (l : List UInt8), l.length ≤ 130 → E ++ (l ++ gp (mb st) s obj (i + 1) b) = gp (mb st) s obj a b → CO s st N g w2 x2 (D ++ (E ++ l)) → Af g w1 x1 w2 x2 →
      ∃ n' y', [Value.int .i64 ((i + 1 : Nat) : Int)] = (Sh.cons (.int .i64) .nil).vals y' ∧ n' < s.size - i ∧ ∃ (i : Nat) (x' : Sl) (E : List UInt8), n' = s.size - i ∧ y' = ((i : Int), ()) ∧ a ≤ i ∧ i ≤ s.size ∧ E ++ gp (mb st) s obj i b = gp (mb st) s obj a b ∧ E.length ≤ 130 * (i - a) ∧ CO s st N g w2 x' (D ++ E) ∧ Af g w x w2 x' := by
    intro x2 w2 l hl e1 c2 a2
    exact ⟨s.size - (i + 1), (((i + 1 : Nat) : Int), ()), rfl, by omega, i + 1, x2, E ++ l, rfl, rfl, by omega, by omega, by rw [List.append_assoc]; exact e1, by rw [List.length_append]; omega, c2, a1.trans a2⟩
  have hDl : (D ++ E).length ≤ 100000000 := by rw [List.length_append]; omega
  refine s_cut (fun y w' => y = (obj && !isB (bt s (i : Int)), ()) ∧ w' = w1) ?_ ?_
  · refine s_ite (fun ho => ?_) (fun ho => s_leaf ?_)
    · refine s_ptr ?_
      simp only [addr_add, Nat.add_zero]
      refine s_load s (c1.blk.cell 0) (s_chk (by omega) ?_)
      refine s_call (Blank_any (bt s (i : Int)) w1) ?_
      rintro e w2 ⟨rfl, rfl⟩
      refine ⟨isB (bt s (i : Int)), rfl, s_leaf ?_⟩
      rw [if_pos rfl]
      exact ⟨(!isB (bt s (i : Int)), ()), rfl, by rw [ho]; rfl, rfl⟩
    · rw [if_pos rfl]
      exact ⟨(false, ()), rfl, by rw [ho]; rfl, rfl⟩
  rintro y w2 ⟨rfl, rfl⟩
  simp only [spec_colorer_gap.t2]
  refine s_ite (fun hc => ?_) (fun hc => ?_)
  · rw [hc] at hE
    simp only [if_true] at hE
    refine s_ptr ?_
    simp only [addr_add, Nat.zero_add]
    refine s_eff (st 14, st 15, ()) (pair_run (c1.blk.cell 15) (c1.blk.cell 16)) ?_
    rw [wi]
    refine s_call (marked_any c1 (Nat.le_succ i) (by omega) hs (hm 14) (hm 15) hDl) ?_
    rintro e w3 ⟨rfl, x3, c3, a3⟩
    refine ⟨(), rfl, s_leaf ?_⟩
    rw [if_pos rfl]
    have e1 : (st 14).data.toList ++ sl s i (i + 1) ++ (st 15).data.toList = mk (mb st) 7 [gb s i] := by
      rw [sl_on (Nat.lt_succ_self i) (by omega), sl_nil]; rfl
    rw [e1, List.append_assoc] at c3
    refine fin x3 w3 _ ?_ hE c3 a3
    have l1 : (st 14).data.toList.length = (st 14).size := Array.length_toList
    have l2 : (st 15).data.toList.length = (st 15).size := Array.length_toList
    have := hm 14; have := hm 15
    show ((st 14).data.toList ++ [gb s i] ++ (st 15).data.toList).length ≤ 130
    simp only [List.length_append, List.length_cons, List.length_nil]; omega
  · rw [hc] at hE
    simp only [Bool.false_eq_true, if_false] at hE
    have c2 := c1.drew
    have a2 := Af.drew g w2 x1
    refine s_drew (s_ptr ?_)
    generalize w2.drew = w3 at c2 a2
    simp only [addr_add, Nat.zero_add]
    refine s_load x1 (c2.blk.cell 17) (s_ptr ?_)
    simp only [addr_add, Nat.add_zero]
    refine s_load s (c2.blk.cell 0) (s_chk (by omega) ?_)
    show sat _ _ _ w3
    refine s_putG c2.row (gb s i) hbt c2.size (by omega) rfl fun x4 w4 hB4 k4 o4 => s_ptr ?_
    obtain ⟨g4, c4, a4⟩ := c2.put hB4 k4 o4
    simp only [addr_add, Nat.zero_add]
    rw [wi]
    refine s_store (g4.cell 17) (g4.free 17) (s_leaf ?_)
    rw [if_pos rfl]
    rw [List.append_assoc] at c4
    exact fin x4 _ _ (by simp) hE c4 (a2.trans a4)
theorem qi_end {m : Mk} {k : Nat} {s : ByteArray} {a b : Nat} (h : b ≤ a) : qi m k s a b = [] := by rw [qi, if_neg (by omega)]
theorem qi_on {m : Mk} {k : Nat} {s : ByteArray} {a b : Nat} (h : a < b) (hc : bt s (a : Int) ≠ 92) : qi m k s a b = gb s a :: qi m k s (a + 1) b := by rw [qi, if_pos h, if_neg hc]
theorem qi_es {m : Mk} {k : Nat} {s : ByteArray} {a b : Nat} (h : a < b) (hc : bt s (a : Int) = 92) : qi m k s a b = m (2 * k + 1) ++ (mk m 6 (sl s a (es s a)) ++ (m (2 * k) ++ qi m k s (es s a) b)) := by rw [qi, if_pos h, if_pos hc]
/-- An escape in a string, and where it goes on. -/
theorem esc_es {s : ByteArray} {i b : Nat} (h : strE s i = some b) (hc : bt s (i : Int) = 92) : strE s (es s i) = some b ∧ es s i < b := by
  rw [strE_esc hc] at h
  cases he : escE s (i + 1) with
  | none => rw [he] at h; cases h
  | some j =>
    rw [he] at h
    have h : strE s j = some b := h
    have hj : j = es s i := by
      unfold escE at he
      split at he
      · rename_i hx
        have := isX_iff.1 hx
        cases he
        unfold es; rw [if_neg (by omega)]
      · split at he
        · rename_i hu
          have := (hexE_le he).1
          unfold es; rw [if_pos hu]; omega
        · cases he
    subst hj
    exact ⟨h, (strE_le h).1⟩
theorem quoted_any {a b k : Nat} (h : CO s st N g w x D) (hq : bt s (a : Int) = 34) (hb : strE s (a + 1) = some b) (hs : s.size ≤ 100000) (hm : ∀ k, (st k).size ≤ 64) (hD : D.length + 500 * s.size + 200 ≤ 100000000) :
    Calls Try.prog 20 #[.pointer (some ⟨g, 0, none⟩), .agg #[.string (st (2 * k)), .string (st (2 * k + 1))], .int .i64 a, .int .i64 b] w fun e w' =>
      e = .returned nilT ∧ ∃ x', CO s st N g w' x' (D ++ qt (mb st) k s a b) ∧ Af g w x w' x' := by
  have hle := strE_le hb
  have ml : ∀ k, (mb st k).length ≤ 64 := fun k => by
    have : (st k).data.toList.length = (st k).size := Array.length_toList
    show (st k).data.toList.length ≤ 64
    rw [this]; exact hm k
  refine spec_colorer_quoted.calls _ _ _ _ _ ?_
  unfold spec_colorer_quoted.t
  obtain ⟨w1, hw1⟩ : ∃ w1, w.alloc (.cells [Value.string (st (2 * k)), .string (st (2 * k + 1))].toArray tM (0, 0)) = w1 := ⟨_, rfl⟩
  have b1 : Blk w1 w.heap.size [Value.string (st (2 * k)), .string (st (2 * k + 1))] tM := by rw [← hw1]; exact Blk.new w _ tM
  have k1 : Kp Off w w1 := by rw [← hw1]; exact (Kp.refl _ w).alloc _
  obtain ⟨c1, a1⟩ := h.off k1
  have hg := h.blk.lt
  have nx : ¬ Own x w.heap.size := fun c => by have := (h.row.block _ c).2; omega
  refine Sr.s_allocE w.heap.size rfl w1 hw1 ?_
  have c2 := c1.drew
  have b2 := b1.drew
  have a2 := a1.trans (Af.drew g w1 x)
  refine s_drew (s_ptr ?_)
  generalize w1.drew = w2 at c2 b2 a2
  simp only [addr_add, Nat.zero_add, Nat.add_zero]
  refine s_load x (c2.blk.cell 17) (s_chk (by decide) (s_load (st (2 * k)) (b2.cell 0) ?_))
  refine s_putS c2.row c2.size (by have := hm (2 * k); omega) rfl fun x3 w3 hB3 k3 o3 => s_ptr ?_
  obtain ⟨g3, c3, a3⟩ := c2.put hB3 k3 o3
  simp only [addr_add, Nat.zero_add]
  refine s_store (g3.cell 17) (g3.free 17) ?_
  have a3' := a2.trans a3
  have b3 := (a3.blk b2 (by omega) nx)
  generalize (w3.setCell ⟨g, 17, none⟩ (.slice x3.1 x3.2.1 x3.2.2)) = w4 at c3 a3' b3
  refine s_loop (fun n y w' => ∃ (i : Nat) (x' : Sl) (E : List UInt8), n = s.size - i ∧ y = ((i : Int), ()) ∧ a ≤ i ∧ i ≤ b ∧ (i = a ∨ i = b ∨ strE s i = some b) ∧ E ++ qi (mb st) k s i b = qi (mb st) k s a b ∧ E.length ≤ 400 * (i - a) ∧
      CO s st N g w' x' (D ++ (mb st (2 * k) ++ E)) ∧ Af g w x w' x' ∧ Blk w' w.heap.size [Value.string (st (2 * k)), .string (st (2 * k + 1))] tM ∧ ¬ Own x' w.heap.size)
    (s.size - a) ((a : Int), ()) rfl ⟨a, x3, [], rfl, rfl, Nat.le_refl _, by omega, .inl rfl, rfl, by simp, by rw [List.append_nil]; exact c3, a3', b3.1, b3.2⟩ ?_
  clear c3 a3' b3 g3 a3 c2 a2 b2 hB3 k3 o3 c1 a1 b1
  rintro n y w5 ⟨i, x5, E, rfl, rfl, h1, h2, h3, hE, hEl, c5, a5, b5, n5⟩
  simp only [spec_colorer_quoted.t1]
  have hml := ml (2 * k)
  have hml1 := ml (2 * k + 1)
  have hDl : (D ++ (mb st (2 * k) ++ E)).length ≤ 50000000 + D.length := by simp only [List.length_append]; omega
  have hDl2 : (D ++ (mb st (2 * k) ++ E)).length ≤ 100000000 - 100 * s.size - 100 := by simp only [List.length_append]; omega
  have wi : IntKind.wrap IntKind.i64 ((i : Int) + 1) = ((i + 1 : Nat) : Int) := by rw [wrap_in (by omega) (by omega)]; omega
  refine s_iteD (fun hlt => ?_) (fun hge => ?_)
  rotate_left
  · -- the end
    have hib : i = b := by omega
    subst hib
    rw [qi_end (Nat.le_refl i), List.append_nil] at hE
    have c6 := c5.drew
    have a6 := a5.trans (Af.drew g w5 x5)
    have b6 := b5.drew
    refine s_drew (s_ptr ?_)
    generalize w5.drew = w6 at c6 a6 b6
    simp only [addr_add, Nat.zero_add]
    refine s_load x5 (c6.blk.cell 17) (s_chk (by decide) (s_load (st (2 * k + 1)) (b6.cell 1) ?_))
    refine s_putS c6.row c6.size (by have := hm (2 * k + 1); omega) rfl fun x7 w7 hB7 k7 o7 => s_ptr ?_
    obtain ⟨g7, c7, a7⟩ := c6.put hB7 k7 o7
    simp only [addr_add, Nat.zero_add]
    refine s_store (g7.cell 17) (g7.free 17) (s_leaf ?_)
    rw [if_neg (by decide)]
    refine ⟨rfl, rfl, x7, ?_, a6.trans a7⟩
    have e1 : D ++ (mb st (2 * k) ++ E) ++ (st (2 * k + 1)).data.toList = D ++ qt (mb st) k s a i := by
      unfold qt
      rw [← hE]
      simp only [List.append_assoc]; rfl
    rw [e1] at c7
    exact c7
  have hib : i < b := by omega
  refine s_ptr ?_
  simp only [addr_add, Nat.add_zero]
  refine s_load s (c5.blk.cell 0) (s_chk (by omega) ?_)
  refine s_iteN (fun hne => ?_) (fun hesc => ?_)
  · -- a byte that stands for itself
    have hnx : i + 1 = b ∨ strE s (i + 1) = some b := by
      rcases h3 with rfl | h3 | h3
      · exact .inr hb
      · omega
      · by_cases h34 : bt s (i : Int) = 34
        · rw [strE_q h34] at h3; cases h3; exact .inl rfl
        · by_cases h32 : bt s (i : Int) < 32
          · rw [strE_ctl h32] at h3; cases h3
          · rw [strE_plain (by omega) h34 h32 hne] at h3; exact .inr h3
    rw [qi_on hib hne] at hE
    have hbt : bt s (i : Int) = ((gb s i).toNat : Int) := by unfold bt gb; rw [Int.toNat_natCast]
    have c6 := c5.drew
    have a6 := a5.trans (Af.drew g w5 x5)
    have b6 := b5.drew
    refine s_drew (s_ptr ?_)
    generalize w5.drew = w6 at c6 a6 b6
    simp only [addr_add, Nat.zero_add]
    refine s_load x5 (c6.blk.cell 17) (s_ptr ?_)
    simp only [addr_add, Nat.add_zero]
    refine s_load s (c6.blk.cell 0) (s_chk (by omega) ?_)
    show sat _ _ _ w6
    refine s_putG c6.row (gb s i) hbt c6.size (by omega) rfl fun x7 w7 hB7 k7 o7 => s_ptr ?_
    obtain ⟨g7, c7, a7⟩ := c6.put hB7 k7 o7
    simp only [addr_add, Nat.zero_add]
    rw [wi]
    refine s_store (g7.cell 17) (g7.free 17) (s_leaf ?_)
    rw [if_pos rfl]
    have b7 := a7.blk b6 (by omega) n5
    refine ⟨s.size - (i + 1), (((i + 1 : Nat) : Int), ()), rfl, by omega, i + 1, x7, E ++ [gb s i], rfl, rfl, by omega, by omega, .inr hnx, by rw [List.append_assoc]; exact hE, by rw [List.length_append, List.length_cons, List.length_nil]; omega, ?_, a6.trans a7, b7.1, b7.2⟩
    simpa [List.append_assoc] using c7
  · -- an escape
    have h3' : strE s i = some b := by
      rcases h3 with rfl | h3 | h3
      · omega
      · omega
      · exact h3
    obtain ⟨e1, e2⟩ := esc_es h3' hesc
    have e3 := es_gt s i
    rw [qi_es hib hesc] at hE
    refine s_ptr ?_
    simp only [addr_add, Nat.add_zero]
    rw [wi]
    refine s_load s (c5.blk.cell 0) (s_chk (by omega) ?_)
    refine s_cut (fun y w' => y = (((es s i : Nat) : Int), ()) ∧ w' = w5) ?_ ?_
    · refine s_iteE (fun hu => s_leaf ?_) (fun hu => s_leaf ?_)
      · have he : es s i = i + 6 := by unfold es; rw [if_pos hu]
        have hw6 : IntKind.wrap IntKind.i64 ((i : Int) + 6) = ((es s i : Nat) : Int) := by rw [he, wrap_in (by omega) (by omega)]; omega
        rw [if_pos rfl, hw6]
        exact ⟨(_, ()), rfl, rfl, rfl⟩
      · have he : es s i = i + 2 := by unfold es; rw [if_neg hu]
        have hw6 : IntKind.wrap IntKind.i64 ((i : Int) + 2) = ((es s i : Nat) : Int) := by rw [he, wrap_in (by omega) (by omega)]; omega
        rw [if_pos rfl, hw6]
        exact ⟨(_, ()), rfl, rfl, rfl⟩
    rintro y w6 ⟨rfl, rfl⟩
    simp only [spec_colorer_quoted.t2]
    have c7 := c5.drew
    have a7 := a5.trans (Af.drew g w6 x5)
    have b7 := b5.drew
    refine s_drew (s_ptr ?_)
    generalize w6.drew = w7 at c7 a7 b7
    simp only [addr_add, Nat.zero_add]
    refine s_load x5 (c7.blk.cell 17) (s_chk (by decide) (s_load (st (2 * k + 1)) (b7.cell 1) ?_))
    refine s_putS c7.row c7.size (by have := hm (2 * k + 1); omega) rfl fun x8 w8 hB8 k8 o8 => s_ptr ?_
    obtain ⟨g8, c8, a8⟩ := c7.put hB8 k8 o8
    simp only [addr_add, Nat.zero_add]
    refine s_store (g8.cell 17) (g8.free 17) (s_ptr ?_)
    have a8' := a7.trans a8
    have b8 := a8.blk b7 (by omega) n5
    generalize (w8.setCell ⟨g, 17, none⟩ (.slice x8.1 x8.2.1 x8.2.2)) = w9 at c8 a8' b8
    simp only [addr_add, Nat.zero_add]
    refine s_eff (st 12, st 13, ()) (pair_run (c8.blk.cell 13) (c8.blk.cell 14)) ?_
    have l8 : (st (2 * k + 1)).data.toList.length ≤ 64 := hml1
    refine s_call (marked_any c8 (a := i) (b := es s i) (by omega) (by omega) hs (hm 12) (hm 13) (by rw [List.length_append]; omega)) ?_
    rintro e w10 ⟨rfl, x10, c10, a10⟩
    refine ⟨(), rfl, ?_⟩
    have b10 := a10.blk b8.1 (by omega) b8.2
    have c11 := c10.drew
    have a11 := (a8'.trans a10).trans (Af.drew g w10 x10)
    have b11 := b10.1.drew
    refine s_drew (s_ptr ?_)
    generalize w10.drew = w11 at c11 a11 b11
    simp only [addr_add, Nat.zero_add]
    refine s_load x10 (c11.blk.cell 17) (s_chk (by decide) (s_load (st (2 * k)) (b11.cell 0) ?_))
    have l12 : (st 12).data.toList.length ≤ 64 := ml 12
    have l13 : (st 13).data.toList.length ≤ 64 := ml 13
    have lsl := sl_len s i (es s i)
    refine s_putS c11.row c11.size (by have := hm (2 * k); simp only [List.length_append] at hDl2 ⊢; omega) rfl fun x12 w12 hB12 k12 o12 => s_ptr ?_
    obtain ⟨g12, c12, a12⟩ := c11.put hB12 k12 o12
    simp only [addr_add, Nat.zero_add]
    refine s_store (g12.cell 17) (g12.free 17) (s_leaf ?_)
    rw [if_pos rfl]
    have b12 := a12.blk b11 (by omega) b10.2
    refine ⟨s.size - es s i, (((es s i : Nat) : Int), ()), rfl, by omega, es s i, x12, E ++ (mb st (2 * k + 1) ++ (mk (mb st) 6 (sl s i (es s i)) ++ mb st (2 * k))), rfl, rfl, by omega, by omega, .inr (.inr e1), ?_, ?_, ?_, a11.trans a12, b12.1, b12.2⟩
    · simp only [List.append_assoc] at hE ⊢; exact hE
    · have q1 : (mb st (2 * 6)).length ≤ 64 := l12
      have q2 : (mb st (2 * 6 + 1)).length ≤ 64 := l13
      simp only [mk, List.length_append]; omega
    · have e4 : D ++ (mb st (2 * k) ++ E) ++ (st (2 * k + 1)).data.toList ++ ((st 12).data.toList ++ sl s i (es s i) ++ (st 13).data.toList) ++ (st (2 * k)).data.toList = D ++ (mb st (2 * k) ++ (E ++ (mb st (2 * k + 1) ++ (mk (mb st) 6 (sl s i (es s i)) ++ mb st (2 * k))))) := by
        simp only [mk, List.append_assoc]; rfl
      rw [e4] at c12
      exact c12
end Go.Proofs.Ytiganlecnpphmaa.Cw
