/- Bytes put behind a slice's own row, one by one, several, a string's, a slice's. No statement of the set is proved here. -/
import Derived.Test.YtiganlecnpphmaaBy
import Derived.Lib.AppendStr
namespace Go.Proofs.Ytiganlecnpphmaa.Rx
open Go Go.RowKit

/-- Where the longer row lies: where it lay, or in a new block. -/
theorem append_run {P : Program} {w : World} {base : Nat} {t e : TypeId} {i : TypeInfo} {z0 : Value} {size : Nat} (ht : P.underlying t = some (.slice e)) (hi : P.info? e = some i) (hz : i.zero = some z0)
    (hsize : i.size = size) (hby : i.bytes ≤ 1024) (hzs : z0.cells.size = size) (h0 : 0 < size)
    {v : Value} {n : Nat} {xs : List Value} (hown : w.ownsRow base e size v n xs) (a : Addr) (m c : Nat) (news : List Value) (hl : news.length = m * size) (hc : ∀ j u, news[j]? = some u → w.cell? (a.add j) = some u) (h1 : ∀ u ∈ news, u.oneCell' = true)
    (hn : n + m ≤ 4294967296) (hbase : base ≤ w.heap.size) :
    ∃ a' c' w2, (Builtin.append_ #[t, t] t #[v, .slice (some a) m c]).run P w = .ok (.slice a' (n + m) c') w2 ∧ w2.ownsRow base e size (.slice a' (n + m) c') (n + m) (xs ++ news) ∧ Kp (fun k => some k = v.ownBlock) w w2 ∧
        (∀ b, some b = Value.ownBlock (.slice a' (n + m) c') → some b = v.ownBlock ∨ w.heap.size ≤ b) := by
  subst hsize
  have hbytes : (n + m) * i.bytes ≤ 140737488355328 := by
    have : (n + m) * i.bytes ≤ 4294967296 * 1024 := Nat.mul_le_mul hn hby
    omega
  obtain ⟨v', w2, h2, h3, h4, h5⟩ := run_append_own (P := P) w base t t e i z0 i.size i.bytes ht hi hz rfl rfl hzs h0 v n xs hown a m c news hl hc h1 (by simp only [maxLen]; omega) hbytes hbase
  obtain ⟨h6, ⟨rfl, h7⟩ | ⟨g, cap, cur, rfl, hb', hg, hnc, hm, hs, htk⟩⟩ := h3
  · have e0 : n + m = 0 := h7
    refine ⟨none, 0, w2, by rw [e0]; exact h2, ⟨h6, .inl ⟨by rw [e0], h7⟩⟩, Kp.of_grown h4, fun b hb => ?_⟩
    simp [Value.ownBlock] at hb
  · refine ⟨_, _, _, h2, ⟨h6, .inr ⟨g, cap, cur, rfl, hb', hg, hnc, hm, hs, htk⟩⟩, Kp.of_grown h4, fun b hb => ?_⟩
    have hbg : b = g := by simpa [Value.ownBlock] using hb
    subst hbg
    obtain ⟨q1, ⟨rfl, rfl⟩ | ⟨g0, cap0, cur0, rfl, hbg, hg0, hnc0, hm0, hs0, ht0⟩⟩ := hown
    · rcases Nat.eq_zero_or_pos m with hm0 | hm0
      · subst hm0
        have := h5.2 ⟨rfl, rfl⟩
        simp at this
      · right
        have hr := run_append_nil (P := P) w t t e i z0 ht hi hz a m c news hl hc hm0 (by omega) (by
          have : (0 + m) * i.bytes = m * i.bytes := by rw [Nat.zero_add]
          omega)
        rw [h2] at hr
        simp only [Result.ok.injEq, Value.slice.injEq, Option.some.injEq, Addr.mk.injEq] at hr
        omega
    · by_cases hroom : n + m ≤ cap0
      · left
        have hr := run_append_room (P := P) w t t e i ht hi g0 n cap0 cur0 hg0 a m c news hl hc h1 hroom (by rw [hl, hs0]; have := Nat.mul_le_mul_right i.size hroom; rw [Nat.add_mul] at this; omega)
        rw [h2] at hr
        cases hr
        rfl
      · right
        have holds : ∀ j u, xs[j]? = some u → w.cell? ((⟨g0, 0, none⟩ : Addr).add j) = some u := (show w.ownsRow base e i.size (.slice (some ⟨g0, 0, none⟩) n cap0) n xs from ⟨q1, .inr ⟨g0, cap0, cur0, rfl, hbg, hg0, hnc0, hm0, hs0, ht0⟩⟩).cells (g := g0) rfl
        have hr := run_append_grow (P := P) w t t e i z0 ht hi hz ⟨g0, 0, none⟩ n cap0 xs q1 holds a m c news hl hc (by omega) (by omega) (growslice_fits (by omega) hbytes)
        rw [h2] at hr
        cases hr
        simp
theorem append_str_run {P : Program} {w : World} {base : Nat} {t u e : TypeId} {i : TypeInfo} (ht : P.underlying t = some (.slice e)) (hu : P.underlying u = some .string) (hi : P.info? e = some i) (hz : i.zero = some (.int .u8 0))
    (hsize : i.size = 1) (hby : i.bytes = 1) {v : Value} {n : Nat} {xs : List Value} (hown : w.ownsRow base e 1 v n xs) (s : ByteArray) (hn : n + s.size ≤ 4294967296) (hbase : base ≤ w.heap.size) :
    ∃ a' c' w2, (Builtin.append_ #[t, u] t #[v, .string s]).run P w = .ok (.slice a' (n + s.size) c') w2 ∧ w2.ownsRow base e 1 (.slice a' (n + s.size) c') (n + s.size) (xs ++ Lib.strCells s) ∧ Kp (fun k => some k = v.ownBlock) w w2 ∧
        (∀ b, some b = Value.ownBlock (.slice a' (n + s.size) c') → some b = v.ownBlock ∨ w.heap.size ≤ b) := by
  obtain ⟨v', w2, h2, h3, h4, h5⟩ := Lib.run_append_own_string (P := P) w base t u t e i ht hu hi hz hsize hby v n xs hown s (by simp only [maxLen]; omega) (by omega) hbase
  obtain ⟨h6, ⟨rfl, h7⟩ | ⟨g, cap, cur, rfl, hb', hg, hnc, hm, hs, htk⟩⟩ := h3
  · refine ⟨none, 0, w2, by rw [h7]; exact h2, ⟨h6, .inl ⟨by rw [h7], h7⟩⟩, Kp.of_grown h4, fun b hb => ?_⟩
    simp [Value.ownBlock] at hb
  · refine ⟨_, _, _, h2, ⟨h6, .inr ⟨g, cap, cur, rfl, hb', hg, hnc, hm, hs, htk⟩⟩, Kp.of_grown h4, fun b hb => ?_⟩
    have hbg : b = g := by simpa [Value.ownBlock] using hb
    subst hbg
    obtain ⟨q1, ⟨rfl, rfl⟩ | ⟨g0, cap0, cur0, rfl, hbg, hg0, hnc0, hm0, hs0, ht0⟩⟩ := hown
    · rcases Nat.eq_zero_or_pos s.size with hm0 | hm0
      · have := h5.2 ⟨rfl, hm0⟩
        simp at this
      · right
        have hr := run_append_nil_string (P := P) w t u t e i (.int .u8 0) ht hu hi hz s hm0 (by omega) (by rw [hby]; omega)
        rw [h2] at hr
        simp only [Result.ok.injEq, Value.slice.injEq, Option.some.injEq, Addr.mk.injEq] at hr
        omega
    · by_cases hroom : n + s.size ≤ cap0
      · left
        have hr := Lib.run_append_room_string (P := P) w t u t e i ht hu hi hsize g0 n cap0 cur0 hg0 s hroom (by rw [hs0]; omega)
        rw [h2] at hr
        cases hr
        rfl
      · right
        have holds : ∀ j u, xs[j]? = some u → w.cell? ((⟨g0, 0, none⟩ : Addr).add j) = some u := (show w.ownsRow base e 1 (.slice (some ⟨g0, 0, none⟩) n cap0) n xs from ⟨q1, .inr ⟨g0, cap0, cur0, rfl, hbg, hg0, hnc0, hm0, hs0, ht0⟩⟩).cells (g := g0) rfl
        have hr := Lib.run_append_grow_string (P := P) w t u t e i (.int .u8 0) ht hu hi hz ⟨g0, 0, none⟩ n cap0 xs (by rw [hsize]; exact q1) holds s (by omega) (by omega) (growslice_fits (by omega) (by rw [hby]; omega))
        rw [h2] at hr
        cases hr
        simp
end Go.Proofs.Ytiganlecnpphmaa.Rx
namespace Go.Proofs.Ytiganlecnpphmaa.Bw
open Go Go.Proofs Go.RowKit Go.Proofs.Ytiganlecnpphmaa.Rx Go.Proofs.Ytiganlecnpphmaa.Pl Go.Proofs.Ytiganlecnpphmaa.Sr

def bv (b : UInt8) : Value := .int .u8 (b.toNat : Int)
def gb (s : ByteArray) (i : Nat) : UInt8 := s.data.toList.getD i 0
theorem bt_bv (s : ByteArray) (i : Nat) : Value.int .u8 (bt s (i : Int)) = bv (gb s i) := by unfold bt bv gb; rw [Int.toNat_natCast]
theorem bv_one (b : UInt8) : (bv b).oneCell' = true := rfl
/-- A row of bytes. -/
def BR (w : World) (base : Nat) (x : Sl) (l : List UInt8) : Prop := w.ownsRow base tB 1 (slV x) l.length (l.map bv)
theorem BR.nil (w : World) (base : Nat) : BR w base (none, 0, 0) [] := World.ownsRow_nil w base tB 1
theorem BR.kp {S : Nat → Prop} {w w' : World} {base : Nat} {x : Sl} {l : List UInt8} (h : BR w base x l) (k : Kp S w w') (hn : ∀ b, some b = (slV x).ownBlock → ¬ S b) : BR w' base x l := owns_kp h k hn
theorem BR.len {w : World} {base : Nat} {x : Sl} {l : List UInt8} (h : BR w base x l) : x.2.1 = l.length := by
  obtain ⟨_, ⟨h1, h2⟩ | ⟨g, cap, cur, h1, _⟩⟩ := h
  · obtain ⟨a, b, c⟩ := x
    simp only [slV, Value.slice.injEq] at h1
    rw [h2]; exact h1.2.1
  · obtain ⟨a, b, c⟩ := x
    simp only [slV, Value.slice.injEq] at h1
    exact h1.2.1
theorem BR.block {w : World} {base : Nat} {x : Sl} {l : List UInt8} (h : BR w base x l) : ∀ b, some b = (slV x).ownBlock → base ≤ b ∧ b < w.heap.size := fun b hb => World.ownsRow.lt h b hb.symm
theorem parts_length (bs : List UInt8) : (bs.zipIdx.map fun q => (q.2, bv q.1)).length = bs.length := by simp
/-- The row's blocks alone change. -/
def Own (x : Sl) : Nat → Prop := fun q => some q = (slV x).ownBlock
theorem make_run {w : World} (bs : List UInt8) (h0 : bs ≠ []) (hz : bs.length ≤ 4096) :
    (Instr.buildSlice tBs bs.length (bs.zipIdx.map fun q => (q.2, bv q.1)).toArray).run Try.prog w = .ok (.slice (some ⟨w.heap.size, 0, none⟩) bs.length bs.length) (w.alloc (.cells (bs.map bv).toArray tB)) := by
  have hpos : 0 < bs.length := List.length_pos_iff.2 h0
  have hi := info_some (P := Try.prog) (t := tB) (by kernel_rfl)
  generalize hI : (Try.prog.info? tB).get (by kernel_rfl) = i at hi
  have hs1 : i.size = 1 := by rw [← hI]; kernel_rfl
  have hz0 : i.zero = some (.int .u8 0) := by rw [← hI]; kernel_rfl
  obtain ⟨r, hr, hrs, hrk⟩ := Great.fill_dense (s := 1) (by decide) (bs.map bv) 0 ((Array.range (bs.length * i.size)).map ((Value.int .u8 0).cells[· % (Value.int .u8 0).cells.size]!)) (fun v hv => by
    simp only [List.mem_map] at hv
    obtain ⟨b, _, rfl⟩ := hv; rfl) (by simp [hs1])
  have hr2 : r = (bs.map bv).toArray := by
    apply Array.ext_getElem?
    intro k
    rw [hrk k]
    simp only [Nat.zero_le, true_and, List.length_map, Nat.zero_add, Nat.mul_one, Nat.div_one, Nat.sub_zero, Nat.mod_one]
    by_cases hk : k < bs.length
    · rw [if_pos hk]
      simp only [List.getElem?_map, List.getElem?_eq_getElem hk, Option.map_some, Option.bind_some, List.getElem?_toArray]
      rfl
    · rw [if_neg hk]
      rw [Array.getElem?_eq_none (by simp [hs1]; omega)]
      simp [List.getElem?_eq_none (by omega : bs.length ≤ k)]
  subst hr2
  refine run_buildSlice (P := Try.prog) w tBs tB bs.length _ _ i (.int .u8 0) Try.underlying37 hi hz0 (by rw [hs1]; omega) (by rw [hs1]; omega) ?_
  rw [hs1]
  have e : ((bs.map bv).zipIdx 0).map (fun x => (x.2, x.1)) = (bs.zipIdx.map fun q => (q.2, bv q.1)) := by
    rw [List.zipIdx_map, List.map_map]; rfl
  rw [e, hs1] at hr
  exact hr
variable {w : World} {base : Nat} {x : Sl} {l : List UInt8}
/-- A slice's bytes behind it. -/
theorem BR.app (h : BR w base x l) (a : Addr) (m c : Nat) (bs : List UInt8) (hm : bs.length = m) (hc : ∀ j u, bs[j]? = some u → w.cell? (a.add j) = some (bv u)) (hn : l.length + m ≤ 4294967296) (hbase : base ≤ w.heap.size) :
    ∃ (x' : Sl) (w2 : World), (Builtin.append_ #[tBs, tBs] tBs #[slV x, .slice (some a) m c]).run Try.prog w = .ok (slV x') w2 ∧ BR w2 base x' (l ++ bs) ∧ Kp (Own x) w w2 ∧ (∀ q, Own x' q → Own x q ∨ w.heap.size ≤ q) := by
  obtain ⟨a', c', w2, h1, h2, h3, h4⟩ := append_run (P := Try.prog) (t := tBs) (e := tB) (size := 1) (z0 := .int .u8 0) Try.underlying37 (info_some (by kernel_rfl)) (by kernel_rfl) (by kernel_rfl)
    (of_decide_eq_true (by kernel_rfl)) rfl (by decide) h a m c (bs.map bv) (by simp [hm]) (fun j u hj => by
      rw [List.getElem?_map] at hj
      cases hb : bs[j]? with
      | none => rw [hb] at hj; cases hj
      | some b => rw [hb] at hj; cases hj; exact hc j b hb) (fun u hu => by
      simp only [List.mem_map] at hu
      obtain ⟨b, _, rfl⟩ := hu; rfl) hn hbase
  refine ⟨(a', l.length + m, c'), w2, h1, ?_, h3, h4⟩
  show w2.ownsRow base tB 1 _ (l ++ bs).length ((l ++ bs).map bv)
  rw [List.map_append, List.length_append, hm]
  exact h2
/-- Some bytes behind it. -/
theorem BR.put (h : BR w base x l) (bs : List UInt8) (h0 : bs ≠ []) (hz : bs.length ≤ 4096) (hn : l.length + bs.length ≤ 4294967296) (hbase : base ≤ w.heap.size) :
    ∃ w1, (Instr.buildSlice tBs bs.length (bs.zipIdx.map fun q => (q.2, bv q.1)).toArray).run Try.prog w = .ok (.slice (some ⟨w.heap.size, 0, none⟩) bs.length bs.length) w1 ∧
      ∃ (x' : Sl) (w2 : World), (Builtin.append_ #[tBs, tBs] tBs #[slV x, .slice (some ⟨w.heap.size, 0, none⟩) bs.length bs.length]).run Try.prog w1 = .ok (slV x') w2 ∧ BR w2 base x' (l ++ bs) ∧ Kp (Own x) w w2 ∧ (∀ q, Own x' q → Own x q ∨ w.heap.size ≤ q) := by
  refine ⟨_, make_run bs h0 hz, ?_⟩
  have h' : BR (w.alloc (.cells (bs.map bv).toArray tB)) base x l := World.ownsRow.alloc h _
  obtain ⟨x', w2, h1, h2, h3, h4⟩ := h'.app ⟨w.heap.size, 0, none⟩ bs.length bs.length bs rfl (fun j u hj => by
    have := (Blk.new w (bs.map bv) tB).cell j
    simp only [addr_add, Nat.zero_add]
    rw [this, List.getElem?_map, hj]; rfl) hn (by simp; omega)
  refine ⟨x', w2, h1, h2, ((Kp.refl _ w).alloc _).trans h3, fun q hq => ?_⟩
  rcases h4 q hq with g | g
  · exact .inl g
  · right; simp at g; omega
/-- A string's bytes behind it. -/
theorem BR.str (h : BR w base x l) (s : ByteArray) (hn : l.length + s.size ≤ 4294967296) (hbase : base ≤ w.heap.size) :
    ∃ (x' : Sl) (w2 : World), (Builtin.append_ #[tBs, 9] tBs #[slV x, .string s]).run Try.prog w = .ok (slV x') w2 ∧ BR w2 base x' (l ++ s.data.toList) ∧ Kp (Own x) w w2 ∧ (∀ q, Own x' q → Own x q ∨ w.heap.size ≤ q) := by
  obtain ⟨a', c', w2, h1, h2, h3, h4⟩ := append_str_run (P := Try.prog) (t := tBs) (u := 9) (e := tB) Try.underlying37 Try.underlying9 (info_some (by kernel_rfl)) (by kernel_rfl) (by kernel_rfl) (by kernel_rfl) h s hn hbase
  refine ⟨(a', l.length + s.size, c'), w2, h1, ?_, h3, h4⟩
  have hz : s.data.toList.length = s.size := by simp
  show w2.ownsRow base tB 1 _ (l ++ s.data.toList).length ((l ++ s.data.toList).map bv)
  rw [List.map_append, List.length_append, hz]
  exact h2
/-- It as a string. -/
theorem BR.toStr (h : BR w base x l) : (convert tBs 9 (slV x)).run Try.prog w = .ok (.string ⟨l.toArray⟩) w := by
  obtain ⟨h1, ⟨h2, h3⟩ | ⟨g, cap, cur, h2, hb, hg, hnc, hm, hs, ht⟩⟩ := id h
  · have : l = [] := List.eq_nil_of_length_eq_zero h3
    subst this
    rw [h2, run_convert_bytes_string (P := Try.prog) w tBs 9 tB none 0 0 Try.underlying37 Try.underlying5 Try.underlying9]
    simp [Conv.bytesToString]
    rfl
  · rw [h2]
    refine run_convert_bytes_back (P := Try.prog) w tBs 9 tB ⟨g, 0, none⟩ cap l Try.underlying37 Try.underlying5 Try.underlying9 (fun j hj => ?_)
    simp only [addr_add, Nat.zero_add, World.cell?, hg]
    have hj2 : j < l.length * 1 := by omega
    have : cur.toList[j]? = some (bv l[j]) := by
      have e : (cur.toList.take (l.length * 1))[j]? = (l.map bv)[j]? := by rw [ht]
      rw [List.getElem?_take_of_lt hj2] at e
      rw [e]; simp [hj]
    rw [← Array.getElem?_toList]
    exact this
/-- As steps of a tree. -/
theorem s_put {Q : Nat → List Value → World → Prop} {ats : Array TypeId} {k : Nat} {parts : Array (Nat × Value)} {K : Sh.slice.Ty → T} (h : BR w base x l) (bs : List UInt8) (hbase : base ≤ w.heap.size) (hn : l.length + bs.length ≤ 4294967296)
    (ha : ats = #[tBs, tBs]) (hp : parts = (bs.zipIdx.map fun q => (q.2, bv q.1)).toArray) (hk : k = bs.length) (h0 : bs ≠ []) (hz : bs.length ≤ 4096)
    (hK : ∀ (x' : Sl) (w' : World), BR w' base x' (l ++ bs) → Kp (Own x) w w' → (∀ q, Own x' q → Own x q ∨ w.heap.size ≤ q) → sat Try.prog (K x') Q w') :
    sat Try.prog (.eff (Instr.buildSlice tBs k parts) .slice fun z3 => .eff (Builtin.append_ ats tBs #[(Value.slice (x).1 ((x).2).1 ((x).2).2), (Value.slice (z3).1 ((z3).2).1 ((z3).2).2)]) .slice K) Q w := by
  subst ha; subst hp; subst hk
  obtain ⟨w1, h1, x', w2, h2, h3, h4, h5⟩ := h.put bs h0 hz hn hbase
  refine s_eff (some ⟨w.heap.size, 0, none⟩, bs.length, bs.length) h1 ?_
  exact s_eff x' h2 (hK x' w2 h3 h4 h5)
theorem s_putS {Q : Nat → List Value → World → Prop} {ats : Array TypeId} {s : ByteArray} {K : Sh.slice.Ty → T} (h : BR w base x l) (hbase : base ≤ w.heap.size) (hn : l.length + s.size ≤ 4294967296)
    (ha : ats = #[tBs, 9])
    (hK : ∀ (x' : Sl) (w' : World), BR w' base x' (l ++ s.data.toList) → Kp (Own x) w w' → (∀ q, Own x' q → Own x q ∨ w.heap.size ≤ q) → sat Try.prog (K x') Q w') :
    sat Try.prog (.eff (Builtin.append_ ats tBs #[(Value.slice (x).1 ((x).2).1 ((x).2).2), (Value.string s)]) .slice K) Q w := by
  subst ha
  obtain ⟨x', w2, h2, h3, h4, h5⟩ := h.str s hn hbase
  exact s_eff x' h2 (hK x' w2 h3 h4 h5)
end Go.Proofs.Ytiganlecnpphmaa.Bw
