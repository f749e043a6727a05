/- Appends, places, bytes (the texts Ap Pm By Bw of this repo put together). No statement of the set is proved here. -/
import Derived.Test.YtkpnomdmnhhaoaaGreatDoorRk
import Derived.Laws.AppendOwn
import Derived.Great.BuildSlice
import Derived.Test.YtkpnomdmnhhaoaaGreatDoorMA
import Derived.Test.YtkpnomdmnhhaoaaGreatDoorProg
import Derived.KernelRfl
import Derived.Laws.IdiomStrings
import Derived.Laws.BytesString
import Derived.Lib.AppendStr
namespace Go.Proofs.YtkpnomdmnhhaoaaGreatDoor.Rx
open Go Go.RowKit

theorem Kp.of_grown {w w' : World} {r : Option Nat} (h : w.grownBy w' r) : Kp (fun k => some k = r) w w' := ⟨h.os, h.tape, h.output, h.size, h.block⟩
theorem Kp.toGrown {S : Nat → Prop} {w w' : World} {r : Option Nat} (h : Kp S w w') (hr : ∀ k, k < w.heap.size → S k → some k = r) : w.grownBy w' r := ⟨h.os, h.tape, h.output, h.size, fun k hk hn => h.block k hk fun c => hn (hr k hk c)⟩
theorem Kp.then {S S' : Nat → Prop} {w0 w w' : World} (h : Kp S w0 w) (k : Kp S' w w') (hs : ∀ i, i < w0.heap.size → S' i → S i) : Kp S w0 w' :=
  ⟨k.os.trans h.os, k.tape.trans h.tape, k.output.trans h.output, Nat.le_trans h.size k.size, fun i hi hn => (k.block i (Nat.lt_of_lt_of_le hi h.size) fun c => hn (hs i hi c)).trans (h.block i hi hn)⟩
theorem owns_kp {w w' : World} {base : Nat} {e : TypeId} {size : Nat} {v : Value} {n : Nat} {xs : List Value} {S : Nat → Prop} (h : w.ownsRow base e size v n xs) (k : Kp S w w') (hn : ∀ b, some b = v.ownBlock → ¬ S b) : w'.ownsRow base e size v n xs := by
  obtain ⟨h1, ⟨h2, h3⟩ | ⟨g, cap, cur, rfl, hb, hg, hnc, hm, hs, ht⟩⟩ := h
  · exact ⟨h1, .inl ⟨h2, h3⟩⟩
  · refine ⟨h1, .inr ⟨g, cap, cur, rfl, hb, ?_, hnc, hm, hs, ht⟩⟩
    have hlt : g < w.heap.size := by
      rcases Nat.lt_or_ge g w.heap.size with h' | h'
      · exact h'
      · rw [Array.getElem?_eq_none h'] at hg; cases hg
    rw [k.block g hlt (hn g rfl)]; exact hg
theorem push_run {P : Program} {w : World} {base : Nat} {t e : TypeId} {i : TypeInfo} {z0 : Value} {size : Nat} (ht : P.underlying t = some (.slice e)) (hi : P.info? e = some i) (hz : i.zero = some z0)
    (hsize : i.size = size) (hby : i.bytes ≤ 1024) (hzs : z0.cells.size = size) (h0 : 0 < size) (h24 : size ≤ 16777216)
    {v : Value} {n : Nat} {xs : List Value} (hown : w.ownsRow base e size v n xs) (part : Value) (cs : List Value) (hp : part.cells = cs.toArray) (hcs : cs.length = size) (h1 : ∀ u ∈ cs, u.oneCell' = true)
    (hn : n + 1 ≤ 4294967296) (hbase : base ≤ w.heap.size) :
    ∃ w1, (Instr.buildSlice t 1 #[(0, part)]).run P w = .ok (.slice (some ⟨w.heap.size, 0, none⟩) 1 1) w1 ∧
      ∃ a c w2, (Builtin.append_ #[t, t] t #[v, .slice (some ⟨w.heap.size, 0, none⟩) 1 1]).run P w1 = .ok (.slice a (n + 1) c) w2 ∧ w2.ownsRow base e size (.slice a (n + 1) c) (n + 1) (xs ++ cs) ∧ Kp (fun k => some k = v.ownBlock) w w2 ∧
        (∀ b, some b = Value.ownBlock (.slice a (n + 1) c) → some b = v.ownBlock ∨ w.heap.size ≤ b) := by
  subst hsize
  obtain ⟨r, hr, hrs, hrk⟩ := Great.fill_dense h0 [part] 0 ((Array.range (1 * i.size)).map (z0.cells[· % z0.cells.size]!)) (fun u hu => by simp at hu; subst hu; rw [hp]; simpa using hcs) (by simp)
  have hr2 : r = cs.toArray := by
    apply Array.ext_getElem?
    intro k
    rw [hrk k]
    simp only [Nat.zero_mul, Nat.zero_le, true_and, List.length_cons, List.length_nil, Nat.zero_add, Nat.one_mul]
    by_cases hk : k < i.size
    · rw [if_pos hk, Nat.div_eq_of_lt hk, Nat.mod_eq_of_lt hk]
      simp [hp]
    · rw [if_neg hk]
      simp
      rw [Array.getElem?_eq_none (by simp; omega), List.getElem?_eq_none (by omega)]
      rfl
  subst hr2
  have hb := run_buildSlice (P := P) w t e 1 #[(0, part)] cs.toArray i z0 ht hi hz (by omega) (by omega) (by simpa using hr)
  refine ⟨_, hb, ?_⟩
  have k1 : Kp (fun k => some k = v.ownBlock) w (w.alloc (.cells cs.toArray e)) := (Kp.refl _ w).alloc _
  have ho1 : (w.alloc (.cells cs.toArray e)).ownsRow base e i.size v n xs := hown.alloc _
  have hc : ∀ j u, cs[j]? = some u → (w.alloc (.cells cs.toArray e)).cell? ((⟨w.heap.size, 0, none⟩ : Addr).add j) = some u := by
    intro j u hj
    have := (Blk.new w cs e).cell j
    simp only [addr_add, Nat.zero_add]
    rw [this]; exact hj
  obtain ⟨v', w2, h2, h3, h4, h5⟩ := run_append_own (P := P) (w.alloc (.cells cs.toArray e)) base t t e i z0 i.size i.bytes ht hi hz rfl rfl hzs h0 v n xs ho1 ⟨w.heap.size, 0, none⟩ 1 1 cs (by omega) hc h1
    (by simp only [maxLen]; omega) (by
      have : (n + 1) * i.bytes ≤ 4294967296 * 1024 := Nat.mul_le_mul hn hby
      omega) (by simp; omega)
  obtain ⟨h6, ⟨_, h7⟩ | ⟨g, cap, cur, rfl, hb', hg, hnc, hm, hs, htk⟩⟩ := h3
  · omega
  · refine ⟨_, _, _, h2, ⟨h6, .inr ⟨g, cap, cur, rfl, hb', hg, hnc, hm, hs, htk⟩⟩, k1.trans (Kp.of_grown h4), ?_⟩
    intro b hb
    have hbg : b = g := by simpa [Value.ownBlock] using hb
    subst hbg
    have hbytes : (n + 1) * i.bytes ≤ 140737488355328 := by
      have : (n + 1) * i.bytes ≤ 4294967296 * 1024 := Nat.mul_le_mul hn hby
      omega
    obtain ⟨q1, ⟨rfl, rfl⟩ | ⟨g0, cap0, cur0, rfl, hbg, hg0, hnc0, hm0, hs0, ht0⟩⟩ := ho1
    · right
      have hx : xs = [] := List.eq_nil_of_length_eq_zero (by simpa using q1)
      subst hx
      have hr := run_append_nil (P := P) (w.alloc (.cells cs.toArray e)) t t e i z0 ht hi hz ⟨w.heap.size, 0, none⟩ 1 1 cs (by omega) hc (by omega) (by omega) (by omega)
      rw [h2] at hr
      cases hr
      simp
    · by_cases hroom : n + 1 ≤ cap0
      · left
        have hr := run_append_room (P := P) (w.alloc (.cells cs.toArray e)) t t e i ht hi g0 n cap0 cur0 hg0 ⟨w.heap.size, 0, none⟩ 1 1 cs (by omega) hc h1 hroom (by rw [hcs, hs0]; have := Nat.mul_le_mul_right i.size hroom; rw [Nat.add_mul] at this; omega)
        rw [h2] at hr
        cases hr
        rfl
      · right
        have holds : ∀ j u, xs[j]? = some u → (w.alloc (.cells cs.toArray e)).cell? ((⟨g0, 0, none⟩ : Addr).add j) = some u := (show (w.alloc (.cells cs.toArray e)).ownsRow base e i.size (.slice (some ⟨g0, 0, none⟩) n cap0) n xs from ⟨q1, .inr ⟨g0, cap0, cur0, rfl, hbg, hg0, hnc0, hm0, hs0, ht0⟩⟩).cells (g := g0) rfl
        have hr := run_append_grow (P := P) (w.alloc (.cells cs.toArray e)) t t e i z0 ht hi hz ⟨g0, 0, none⟩ n cap0 xs q1 holds ⟨w.heap.size, 0, none⟩ 1 1 cs (by omega) hc (by omega) (by omega) (growslice_fits (by omega) hbytes)
        rw [h2] at hr
        cases hr
        simp
end Go.Proofs.YtkpnomdmnhhaoaaGreatDoor.Rx
namespace Go.Proofs.YtkpnomdmnhhaoaaGreatDoor.Sr
open Go Go.Proofs.YtkpnomdmnhhaoaaGreatDoor.Rx Go.Proofs.YtkpnomdmnhhaoaaGreatDoor.Pl

abbrev Sl := Option Addr × Nat × Nat
def slV (x : Sl) : Value := .slice x.1 x.2.1 x.2.2
/-- A place's cells. -/
def pc (k b e : Int) (ns ks : Sl) : List Value := [.int .i64 k, .int .i64 b, .int .i64 e, .slice ns.1 ns.2.1 ns.2.2, .slice ks.1 ks.2.1 ks.2.2]
theorem pc_len (k b e : Int) (ns ks : Sl) : (pc k b e ns ks).length = 5 := rfl
theorem pc_one (k b e : Int) (ns ks : Sl) : (pc k b e ns ks).all one = true := rfl
theorem pc_oneC (k b e : Int) (ns ks : Sl) : ∀ u ∈ pc k b e ns ks, u.oneCell' = true := by
  intro u hu
  simp [pc] at hu
  rcases hu with rfl | rfl | rfl | rfl | rfl <;> rfl
def spanC (x : Nat × Nat) : List Value := [.int .i64 x.1, .int .i64 x.2]
/-- A slice's elements' cells, in a block of its own. -/
def RowIn (B : Nat → Prop) (w : World) (a : Sl) (n : Nat) (xs : List Value) (size : Nat) : Prop :=
  a.2.1 = n ∧ xs.length = n * size ∧ (n = 0 ∨ ∃ g, a.1 = some ⟨g, 0, none⟩ ∧ B g ∧ g < w.heap.size ∧ ∀ j u, xs[j]? = some u → w.cell? ⟨g, j, none⟩ = some u)
mutual
/-- A place's cells in memory, its rows in blocks of 'B'. -/
def PlAt (B : Nat → Prop) (w : World) : PT → List Value → Prop
  | .mk k b e ns ks, cs => ∃ (na ka : Sl) (xs : List Value), cs = pc k b e na ka ∧ RowIn B w na ns.length (ns.flatMap spanC) 2 ∧ RowIn B w ka ks.length xs 5 ∧ AllAt B w ks xs
def AllAt (B : Nat → Prop) (w : World) : List PT → List Value → Prop
  | [], xs => xs = []
  | p :: ks, xs => ∃ cs ys, xs = cs ++ ys ∧ PlAt B w p cs ∧ AllAt B w ks ys
end
variable {B B' : Nat → Prop} {w w' : World}
theorem RowIn.mv {a : Sl} {n : Nat} {xs : List Value} {size : Nat} (hz : w.heap.size ≤ w'.heap.size) (hb : ∀ b, b < w.heap.size → B b → B' b ∧ w'.heap[b]? = w.heap[b]?) (h : RowIn B w a n xs size) : RowIn B' w' a n xs size := by
  obtain ⟨h1, h2, h3 | ⟨g, h3, h4, hg, h5⟩⟩ := h
  · exact ⟨h1, h2, .inl h3⟩
  · exact ⟨h1, h2, .inr ⟨g, h3, (hb g hg h4).1, by omega, fun j u hj => (World.cell?_of_block (a := ⟨g, j, none⟩) (hb g hg h4).2).trans (h5 j u hj)⟩⟩
mutual
theorem PlAt.mv (hz : w.heap.size ≤ w'.heap.size) (hb : ∀ b, b < w.heap.size → B b → B' b ∧ w'.heap[b]? = w.heap[b]?) : ∀ (p : PT) (cs : List Value), PlAt B w p cs → PlAt B' w' p cs
  | .mk k b e ns ks, cs, h => by
    unfold PlAt at h ⊢
    obtain ⟨na, ka, xs, h1, h2, h3, h4⟩ := h
    exact ⟨na, ka, xs, h1, h2.mv hz hb, h3.mv hz hb, AllAt.mv hz hb ks xs h4⟩
theorem AllAt.mv (hz : w.heap.size ≤ w'.heap.size) (hb : ∀ b, b < w.heap.size → B b → B' b ∧ w'.heap[b]? = w.heap[b]?) : ∀ (ks : List PT) (xs : List Value), AllAt B w ks xs → AllAt B' w' ks xs
  | [], xs, h => by unfold AllAt at h ⊢; exact h
  | p :: ks, xs, h => by
    unfold AllAt at h ⊢
    obtain ⟨cs, ys, h1, h2, h3⟩ := h
    exact ⟨cs, ys, h1, PlAt.mv hz hb p cs h2, AllAt.mv hz hb ks ys h3⟩
end
theorem PlAt.kp {S : Nat → Prop} (k : Kp S w w') (hb : ∀ b, b < w.heap.size → B b → B' b ∧ ¬ S b) {p : PT} {cs : List Value} (h : PlAt B w p cs) : PlAt B' w' p cs :=
  PlAt.mv k.size (fun b hlt hB => ⟨(hb b hlt hB).1, k.block b hlt (hb b hlt hB).2⟩) p cs h
theorem AllAt.kp {S : Nat → Prop} (k : Kp S w w') (hb : ∀ b, b < w.heap.size → B b → B' b ∧ ¬ S b) {ks : List PT} {xs : List Value} (h : AllAt B w ks xs) : AllAt B' w' ks xs :=
  AllAt.mv k.size (fun b hlt hB => ⟨(hb b hlt hB).1, k.block b hlt (hb b hlt hB).2⟩) ks xs h
theorem RowIn.kp {S : Nat → Prop} (k : Kp S w w') (hb : ∀ b, b < w.heap.size → B b → B' b ∧ ¬ S b) {a : Sl} {n : Nat} {xs : List Value} {size : Nat} (h : RowIn B w a n xs size) : RowIn B' w' a n xs size :=
  h.mv k.size (fun b hlt hB => ⟨(hb b hlt hB).1, k.block b hlt (hb b hlt hB).2⟩)
theorem AllAt.snoc {p : PT} {cs : List Value} (hp : PlAt B w p cs) : ∀ (ks : List PT) (xs : List Value), AllAt B w ks xs → AllAt B w (ks ++ [p]) (xs ++ cs)
  | [], xs, h => by
    unfold AllAt at h; subst h
    show AllAt B w [p] cs
    unfold AllAt
    exact ⟨cs, [], by simp, hp, by unfold AllAt; rfl⟩
  | q :: ks, xs, h => by
    unfold AllAt at h
    obtain ⟨ds, ys, h1, h2, h3⟩ := h
    show AllAt B w (q :: (ks ++ [p])) (xs ++ cs)
    unfold AllAt
    exact ⟨ds, ys ++ cs, by rw [h1, List.append_assoc], h2, AllAt.snoc hp ks ys h3⟩
theorem AllAt.nil : AllAt B w [] [] := by unfold AllAt; rfl
theorem PlAt.mk' {k b e : Nat} {ns : List (Nat × Nat)} {ks : List PT} {na ka : Sl} {xs : List Value} (h2 : RowIn B w na ns.length (ns.flatMap spanC) 2) (h3 : RowIn B w ka ks.length xs 5) (h4 : AllAt B w ks xs) : PlAt B w (.mk k b e ns ks) (pc k b e na ka) := by
  unfold PlAt; exact ⟨na, ka, xs, rfl, h2, h3, h4⟩
theorem RowIn.nil {size : Nat} : RowIn B w (none, 0, 0) 0 [] size := ⟨rfl, by simp, .inl rfl⟩
theorem PlAt.leaf {k b e : Nat} : PlAt B w (.mk k b e [] []) (pc k b e (none, 0, 0) (none, 0, 0)) := PlAt.mk' (xs := []) RowIn.nil RowIn.nil AllAt.nil
theorem RowIn.own {base : Nat} {e : TypeId} {size : Nat} {x : Sl} {n : Nat} {xs : List Value} (h : w.ownsRow base e size (slV x) n xs) (hB : ∀ b, some b = (slV x).ownBlock → base ≤ b → B b) : RowIn B w x n xs size := by
  obtain ⟨h1, ⟨h2, h3⟩ | ⟨g, cap, cur, h2, hb, hg, hnc, hm, hs, ht⟩⟩ := h
  · obtain ⟨a, l, c⟩ := x
    simp only [slV, Value.slice.injEq] at h2
    obtain ⟨rfl, rfl, rfl⟩ := h2
    subst h3
    exact ⟨rfl, h1, .inl rfl⟩
  · obtain ⟨a, l, c⟩ := x
    simp only [slV, Value.slice.injEq] at h2
    obtain ⟨rfl, rfl, rfl⟩ := h2
    refine ⟨rfl, h1, .inr ⟨g, rfl, hB g rfl hb, ?_, fun j u hj => ?_⟩⟩
    · rcases Nat.lt_or_ge g w.heap.size with h' | h'
      · exact h'
      · rw [Array.getElem?_eq_none h'] at hg; cases hg
    · simp only [World.cell?, hg]
      have hj2 : j < l * size := by
        have := (List.getElem?_eq_some_iff.1 hj).1
        omega
      rw [← ht] at hj
      rw [List.getElem?_take_of_lt hj2] at hj
      simpa using hj
end Go.Proofs.YtkpnomdmnhhaoaaGreatDoor.Sr
namespace Go.Proofs.YtkpnomdmnhhaoaaGreatDoor.Sr
open Go Go.Proofs Go.Proofs.YtkpnomdmnhhaoaaGreatDoor.Rx Go.Proofs.YtkpnomdmnhhaoaaGreatDoor.Pl

abbrev tB : TypeId := 5
abbrev tBs : TypeId := 43
def bytesC (s : ByteArray) (i : Nat) : List Value := (List.range i).map fun k => .int .u8 (bt s (k : Nat))
theorem bytesC_succ (s : ByteArray) (i : Nat) : bytesC s (i + 1) = bytesC s i ++ [.int .u8 (bt s (i : Nat))] := by simp [bytesC, List.range_succ]
theorem bytesC_length (s : ByteArray) (i : Nat) : (bytesC s i).length = i := by simp [bytesC]
theorem bytesC_get {s : ByteArray} {i j : Nat} (h : j < i) : (bytesC s i)[j]? = some (.int .u8 (bt s (j : Nat))) := by simp [bytesC, h]
theorem push_byte {w : World} {base : Nat} {x : Sl} {n : Nat} {xs : List Value} (hown : w.ownsRow base tB 1 (slV x) n xs) (b : Int) (hn : n + 1 ≤ 4294967296) (hbase : base ≤ w.heap.size) :
    ∃ w1, (Instr.buildSlice tBs 1 #[(0, .int .u8 b)]).run Tryz.prog w = .ok (.slice (some ⟨w.heap.size, 0, none⟩) 1 1) w1 ∧
      ∃ (x' : Sl) (w2 : World), (Builtin.append_ #[tBs, tBs] tBs #[slV x, .slice (some ⟨w.heap.size, 0, none⟩) 1 1]).run Tryz.prog w1 = .ok (slV x') w2 ∧ w2.ownsRow base tB 1 (slV x') (n + 1) (xs ++ [.int .u8 b]) ∧
        Kp (fun q => some q = (slV x).ownBlock) w w2 ∧ (∀ q, some q = (slV x').ownBlock → some q = (slV x).ownBlock ∨ w.heap.size ≤ q) ∧ x'.2.1 = n + 1 := by
  obtain ⟨w1, h1, a, c, w2, h2, h3, h4, h5⟩ := push_run (P := Tryz.prog) (t := tBs) (e := tB) (z0 := .int .u8 0) Tryz.underlying43 (info_some (by kernel_rfl)) (by kernel_rfl) (by kernel_rfl)
    (of_decide_eq_true (by kernel_rfl)) rfl (by decide) (by decide) hown (.int .u8 b) [.int .u8 b] rfl rfl (by intro u hu; simp at hu; subst hu; rfl) hn hbase
  exact ⟨w1, h1, (a, n + 1, c), w2, h2, h3, h4, h5, rfl⟩
/-- A row that is there: its cells, none frozen; what a store into it leaves. -/
theorem owns_some {w : World} {base : Nat} {e : TypeId} {x : Sl} {n : Nat} {xs : List Value} (h : w.ownsRow base e 1 (slV x) n xs) (hn : 0 < n) :
    ∃ g cap, x = (some ⟨g, 0, none⟩, n, cap) ∧ base ≤ g ∧ (∀ j, j < n → w.cell? ⟨g, j, none⟩ = xs[j]?) ∧ (∀ j, w.frozen? ⟨g, j, none⟩ = false) ∧
      ∀ j u, j < n → (w.setCell ⟨g, j, none⟩ u).ownsRow base e 1 (slV x) n (xs.set j u) := by
  obtain ⟨h1, ⟨h2, h3⟩ | ⟨g, cap, cur, h2, hb, hg, hnc, hm, hs, ht⟩⟩ := h
  · omega
  · obtain ⟨a, l, c⟩ := x
    simp only [slV, Value.slice.injEq] at h2
    obtain ⟨rfl, rfl, rfl⟩ := h2
    rw [Nat.mul_one] at h1 hs ht
    refine ⟨g, c, rfl, hb, fun j hj => ?_, fun j => ?_, fun j u hj => ⟨by simpa using h1, .inr ⟨g, c, cur.setIfInBounds j u, rfl, hb, ?_, hnc, hm, by simpa using hs, ?_⟩⟩⟩
    · simp only [World.cell?, hg]
      rw [← ht, List.getElem?_take_of_lt hj]
      simp
    · simp [World.frozen?, hg]
    · simp [World.setCell, Array.getElem?_modify, hg]
    · rw [Nat.mul_one, Array.toList_setIfInBounds, List.take_set, ht]
theorem toString_run {w : World} {base : Nat} {x : Sl} {R : ByteArray} (h : w.ownsRow base tB 1 (slV x) R.size (bytesC R R.size)) (hR : 0 < R.size) :
    (convert tBs 9 (slV x)).run Tryz.prog w = .ok (.string R) w := by
  obtain ⟨g, cap, rfl, hb, hc, _, _⟩ := owns_some h hR
  have hl : R.data.toList.length = R.size := by simp
  have := run_convert_bytes_back (P := Tryz.prog) w tBs 9 tB ⟨g, 0, none⟩ cap R.data.toList Tryz.underlying43 Tryz.underlying5 Tryz.underlying9 (fun j hj => by
    simp only [addr_add, Nat.zero_add]
    rw [hc j (by omega), bytesC_get (by omega)]
    congr 2
    unfold bt
    rw [Int.toNat_natCast, List.getD_eq_getElem?_getD, List.getElem?_eq_getElem hj]
    rfl)
  rw [hl] at this
  exact this
end Go.Proofs.YtkpnomdmnhhaoaaGreatDoor.Sr
namespace Go.Proofs.YtkpnomdmnhhaoaaGreatDoor.Rx
open Go Go.RowKit

/-- Where the longer row lies: where it lay, or in a new block. -/
theorem append_run {P : Program} {w : World} {base : Nat} {t e : TypeId} {i : TypeInfo} {z0 : Value} {size : Nat} (ht : P.underlying t = some (.slice e)) (hi : P.info? e = some i) (hz : i.zero = some z0)
    (hsize : i.size = size) (hby : i.bytes ≤ 1024) (hzs : z0.cells.size = size) (h0 : 0 < size)
    {v : Value} {n : Nat} {xs : List Value} (hown : w.ownsRow base e size v n xs) (a : Addr) (m c : Nat) (news : List Value) (hl : news.length = m * size) (hc : ∀ j u, news[j]? = some u → w.cell? (a.add j) = some u) (h1 : ∀ u ∈ news, u.oneCell' = true)
    (hn : n + m ≤ 4294967296) (hbase : base ≤ w.heap.size) :
    ∃ a' c' w2, (Builtin.append_ #[t, t] t #[v, .slice (some a) m c]).run P w = .ok (.slice a' (n + m) c') w2 ∧ w2.ownsRow base e size (.slice a' (n + m) c') (n + m) (xs ++ news) ∧ Kp (fun k => some k = v.ownBlock) w w2 ∧
        (∀ b, some b = Value.ownBlock (.slice a' (n + m) c') → some b = v.ownBlock ∨ w.heap.size ≤ b) := by
  subst hsize
  have hbytes : (n + m) * i.bytes ≤ 140737488355328 := by
    have : (n + m) * i.bytes ≤ 4294967296 * 1024 := Nat.mul_le_mul hn hby
    omega
  obtain ⟨v', w2, h2, h3, h4, h5⟩ := run_append_own (P := P) w base t t e i z0 i.size i.bytes ht hi hz rfl rfl hzs h0 v n xs hown a m c news hl hc h1 (by simp only [maxLen]; omega) hbytes hbase
  obtain ⟨h6, ⟨rfl, h7⟩ | ⟨g, cap, cur, rfl, hb', hg, hnc, hm, hs, htk⟩⟩ := h3
  · have e0 : n + m = 0 := h7
    refine ⟨none, 0, w2, by rw [e0]; exact h2, ⟨h6, .inl ⟨by rw [e0], h7⟩⟩, Kp.of_grown h4, fun b hb => ?_⟩
    simp [Value.ownBlock] at hb
  · refine ⟨_, _, _, h2, ⟨h6, .inr ⟨g, cap, cur, rfl, hb', hg, hnc, hm, hs, htk⟩⟩, Kp.of_grown h4, fun b hb => ?_⟩
    have hbg : b = g := by simpa [Value.ownBlock] using hb
    subst hbg
    obtain ⟨q1, ⟨rfl, rfl⟩ | ⟨g0, cap0, cur0, rfl, hbg, hg0, hnc0, hm0, hs0, ht0⟩⟩ := hown
    · rcases Nat.eq_zero_or_pos m with hm0 | hm0
      · subst hm0
        have := h5.2 ⟨rfl, rfl⟩
        simp at this
      · right
        have hr := run_append_nil (P := P) w t t e i z0 ht hi hz a m c news hl hc hm0 (by omega) (by
          have : (0 + m) * i.bytes = m * i.bytes := by rw [Nat.zero_add]
          omega)
        rw [h2] at hr
        simp only [Result.ok.injEq, Value.slice.injEq, Option.some.injEq, Addr.mk.injEq] at hr
        omega
    · by_cases hroom : n + m ≤ cap0
      · left
        have hr := run_append_room (P := P) w t t e i ht hi g0 n cap0 cur0 hg0 a m c news hl hc h1 hroom (by rw [hl, hs0]; have := Nat.mul_le_mul_right i.size hroom; rw [Nat.add_mul] at this; omega)
        rw [h2] at hr
        cases hr
        rfl
      · right
        have holds : ∀ j u, xs[j]? = some u → w.cell? ((⟨g0, 0, none⟩ : Addr).add j) = some u := (show w.ownsRow base e i.size (.slice (some ⟨g0, 0, none⟩) n cap0) n xs from ⟨q1, .inr ⟨g0, cap0, cur0, rfl, hbg, hg0, hnc0, hm0, hs0, ht0⟩⟩).cells (g := g0) rfl
        have hr := run_append_grow (P := P) w t t e i z0 ht hi hz ⟨g0, 0, none⟩ n cap0 xs q1 holds a m c news hl hc (by omega) (by omega) (growslice_fits (by omega) hbytes)
        rw [h2] at hr
        cases hr
        simp
theorem append_str_run {P : Program} {w : World} {base : Nat} {t u e : TypeId} {i : TypeInfo} (ht : P.underlying t = some (.slice e)) (hu : P.underlying u = some .string) (hi : P.info? e = some i) (hz : i.zero = some (.int .u8 0))
    (hsize : i.size = 1) (hby : i.bytes = 1) {v : Value} {n : Nat} {xs : List Value} (hown : w.ownsRow base e 1 v n xs) (s : ByteArray) (hn : n + s.size ≤ 4294967296) (hbase : base ≤ w.heap.size) :
    ∃ a' c' w2, (Builtin.append_ #[t, u] t #[v, .string s]).run P w = .ok (.slice a' (n + s.size) c') w2 ∧ w2.ownsRow base e 1 (.slice a' (n + s.size) c') (n + s.size) (xs ++ Lib.strCells s) ∧ Kp (fun k => some k = v.ownBlock) w w2 ∧
        (∀ b, some b = Value.ownBlock (.slice a' (n + s.size) c') → some b = v.ownBlock ∨ w.heap.size ≤ b) := by
  obtain ⟨v', w2, h2, h3, h4, h5⟩ := Lib.run_append_own_string (P := P) w base t u t e i ht hu hi hz hsize hby v n xs hown s (by simp only [maxLen]; omega) (by omega) hbase
  obtain ⟨h6, ⟨rfl, h7⟩ | ⟨g, cap, cur, rfl, hb', hg, hnc, hm, hs, htk⟩⟩ := h3
  · refine ⟨none, 0, w2, by rw [h7]; exact h2, ⟨h6, .inl ⟨by rw [h7], h7⟩⟩, Kp.of_grown h4, fun b hb => ?_⟩
    simp [Value.ownBlock] at hb
  · refine ⟨_, _, _, h2, ⟨h6, .inr ⟨g, cap, cur, rfl, hb', hg, hnc, hm, hs, htk⟩⟩, Kp.of_grown h4, fun b hb => ?_⟩
    have hbg : b = g := by simpa [Value.ownBlock] using hb
    subst hbg
    obtain ⟨q1, ⟨rfl, rfl⟩ | ⟨g0, cap0, cur0, rfl, hbg, hg0, hnc0, hm0, hs0, ht0⟩⟩ := hown
    · rcases Nat.eq_zero_or_pos s.size with hm0 | hm0
      · have := h5.2 ⟨rfl, hm0⟩
        simp at this
      · right
        have hr := run_append_nil_string (P := P) w t u t e i (.int .u8 0) ht hu hi hz s hm0 (by omega) (by rw [hby]; omega)
        rw [h2] at hr
        simp only [Result.ok.injEq, Value.slice.injEq, Option.some.injEq, Addr.mk.injEq] at hr
        omega
    · by_cases hroom : n + s.size ≤ cap0
      · left
        have hr := Lib.run_append_room_string (P := P) w t u t e i ht hu hi hsize g0 n cap0 cur0 hg0 s hroom (by rw [hs0]; omega)
        rw [h2] at hr
        cases hr
        rfl
      · right
        have holds : ∀ j u, xs[j]? = some u → w.cell? ((⟨g0, 0, none⟩ : Addr).add j) = some u := (show w.ownsRow base e 1 (.slice (some ⟨g0, 0, none⟩) n cap0) n xs from ⟨q1, .inr ⟨g0, cap0, cur0, rfl, hbg, hg0, hnc0, hm0, hs0, ht0⟩⟩).cells (g := g0) rfl
        have hr := Lib.run_append_grow_string (P := P) w t u t e i (.int .u8 0) ht hu hi hz ⟨g0, 0, none⟩ n cap0 xs (by rw [hsize]; exact q1) holds s (by omega) (by omega) (growslice_fits (by omega) (by rw [hby]; omega))
        rw [h2] at hr
        cases hr
        simp
end Go.Proofs.YtkpnomdmnhhaoaaGreatDoor.Rx
namespace Go.Proofs.YtkpnomdmnhhaoaaGreatDoor.Bw
open Go Go.Proofs Go.RowKit Go.Proofs.YtkpnomdmnhhaoaaGreatDoor.Rx Go.Proofs.YtkpnomdmnhhaoaaGreatDoor.Pl Go.Proofs.YtkpnomdmnhhaoaaGreatDoor.Sr

def bv (b : UInt8) : Value := .int .u8 (b.toNat : Int)
def gb (s : ByteArray) (i : Nat) : UInt8 := s.data.toList.getD i 0
theorem bt_bv (s : ByteArray) (i : Nat) : Value.int .u8 (bt s (i : Int)) = bv (gb s i) := by unfold bt bv gb; rw [Int.toNat_natCast]
theorem bv_one (b : UInt8) : (bv b).oneCell' = true := rfl
/-- A row of bytes. -/
def BR (w : World) (base : Nat) (x : Sl) (l : List UInt8) : Prop := w.ownsRow base tB 1 (slV x) l.length (l.map bv)
theorem BR.nil (w : World) (base : Nat) : BR w base (none, 0, 0) [] := World.ownsRow_nil w base tB 1
theorem BR.kp {S : Nat → Prop} {w w' : World} {base : Nat} {x : Sl} {l : List UInt8} (h : BR w base x l) (k : Kp S w w') (hn : ∀ b, some b = (slV x).ownBlock → ¬ S b) : BR w' base x l := owns_kp h k hn
theorem BR.len {w : World} {base : Nat} {x : Sl} {l : List UInt8} (h : BR w base x l) : x.2.1 = l.length := by
  obtain ⟨_, ⟨h1, h2⟩ | ⟨g, cap, cur, h1, _⟩⟩ := h
  · obtain ⟨a, b, c⟩ := x
    simp only [slV, Value.slice.injEq] at h1
    rw [h2]; exact h1.2.1
  · obtain ⟨a, b, c⟩ := x
    simp only [slV, Value.slice.injEq] at h1
    exact h1.2.1
theorem BR.block {w : World} {base : Nat} {x : Sl} {l : List UInt8} (h : BR w base x l) : ∀ b, some b = (slV x).ownBlock → base ≤ b ∧ b < w.heap.size := fun b hb => World.ownsRow.lt h b hb.symm
theorem parts_length (bs : List UInt8) : (bs.zipIdx.map fun q => (q.2, bv q.1)).length = bs.length := by simp
/-- The row's blocks alone change. -/
def Own (x : Sl) : Nat → Prop := fun q => some q = (slV x).ownBlock
theorem make_run {w : World} (bs : List UInt8) (h0 : bs ≠ []) (hz : bs.length ≤ 4096) :
    (Instr.buildSlice tBs bs.length (bs.zipIdx.map fun q => (q.2, bv q.1)).toArray).run Tryz.prog w = .ok (.slice (some ⟨w.heap.size, 0, none⟩) bs.length bs.length) (w.alloc (.cells (bs.map bv).toArray tB)) := by
  have hpos : 0 < bs.length := List.length_pos_iff.2 h0
  have hi := info_some (P := Tryz.prog) (t := tB) (by kernel_rfl)
  generalize hI : (Tryz.prog.info? tB).get (by kernel_rfl) = i at hi
  have hs1 : i.size = 1 := by rw [← hI]; kernel_rfl
  have hz0 : i.zero = some (.int .u8 0) := by rw [← hI]; kernel_rfl
  obtain ⟨r, hr, hrs, hrk⟩ := Great.fill_dense (s := 1) (by decide) (bs.map bv) 0 ((Array.range (bs.length * i.size)).map ((Value.int .u8 0).cells[· % (Value.int .u8 0).cells.size]!)) (fun v hv => by
    simp only [List.mem_map] at hv
    obtain ⟨b, _, rfl⟩ := hv; rfl) (by simp [hs1])
  have hr2 : r = (bs.map bv).toArray := by
    apply Array.ext_getElem?
    intro k
    rw [hrk k]
    simp only [Nat.zero_le, true_and, List.length_map, Nat.zero_add, Nat.mul_one, Nat.div_one, Nat.sub_zero, Nat.mod_one]
    by_cases hk : k < bs.length
    · rw [if_pos hk]
      simp only [List.getElem?_map, List.getElem?_eq_getElem hk, Option.map_some, Option.bind_some, List.getElem?_toArray]
      rfl
    · rw [if_neg hk]
      rw [Array.getElem?_eq_none (by simp [hs1]; omega)]
      simp [List.getElem?_eq_none (by omega : bs.length ≤ k)]
  subst hr2
  refine run_buildSlice (P := Tryz.prog) w tBs tB bs.length _ _ i (.int .u8 0) Tryz.underlying43 hi hz0 (by rw [hs1]; omega) (by rw [hs1]; omega) ?_
  rw [hs1]
  have e : ((bs.map bv).zipIdx 0).map (fun x => (x.2, x.1)) = (bs.zipIdx.map fun q => (q.2, bv q.1)) := by
    rw [List.zipIdx_map, List.map_map]; rfl
  rw [e, hs1] at hr
  exact hr
variable {w : World} {base : Nat} {x : Sl} {l : List UInt8}
/-- A slice's bytes behind it. -/
theorem BR.app (h : BR w base x l) (a : Addr) (m c : Nat) (bs : List UInt8) (hm : bs.length = m) (hc : ∀ j u, bs[j]? = some u → w.cell? (a.add j) = some (bv u)) (hn : l.length + m ≤ 4294967296) (hbase : base ≤ w.heap.size) :
    ∃ (x' : Sl) (w2 : World), (Builtin.append_ #[tBs, tBs] tBs #[slV x, .slice (some a) m c]).run Tryz.prog w = .ok (slV x') w2 ∧ BR w2 base x' (l ++ bs) ∧ Kp (Own x) w w2 ∧ (∀ q, Own x' q → Own x q ∨ w.heap.size ≤ q) := by
  obtain ⟨a', c', w2, h1, h2, h3, h4⟩ := append_run (P := Tryz.prog) (t := tBs) (e := tB) (size := 1) (z0 := .int .u8 0) Tryz.underlying43 (info_some (by kernel_rfl)) (by kernel_rfl) (by kernel_rfl)
    (of_decide_eq_true (by kernel_rfl)) rfl (by decide) h a m c (bs.map bv) (by simp [hm]) (fun j u hj => by
      rw [List.getElem?_map] at hj
      cases hb : bs[j]? with
      | none => rw [hb] at hj; cases hj
      | some b => rw [hb] at hj; cases hj; exact hc j b hb) (fun u hu => by
      simp only [List.mem_map] at hu
      obtain ⟨b, _, rfl⟩ := hu; rfl) hn hbase
  refine ⟨(a', l.length + m, c'), w2, h1, ?_, h3, h4⟩
  show w2.ownsRow base tB 1 _ (l ++ bs).length ((l ++ bs).map bv)
  rw [List.map_append, List.length_append, hm]
  exact h2
/-- Some bytes behind it. -/
theorem BR.put (h : BR w base x l) (bs : List UInt8) (h0 : bs ≠ []) (hz : bs.length ≤ 4096) (hn : l.length + bs.length ≤ 4294967296) (hbase : base ≤ w.heap.size) :
    ∃ w1, (Instr.buildSlice tBs bs.length (bs.zipIdx.map fun q => (q.2, bv q.1)).toArray).run Tryz.prog w = .ok (.slice (some ⟨w.heap.size, 0, none⟩) bs.length bs.length) w1 ∧
      ∃ (x' : Sl) (w2 : World), (Builtin.append_ #[tBs, tBs] tBs #[slV x, .slice (some ⟨w.heap.size, 0, none⟩) bs.length bs.length]).run Tryz.prog w1 = .ok (slV x') w2 ∧ BR w2 base x' (l ++ bs) ∧ Kp (Own x) w w2 ∧ (∀ q, Own x' q → Own x q ∨ w.heap.size ≤ q) := by
  refine ⟨_, make_run bs h0 hz, ?_⟩
  have h' : BR (w.alloc (.cells (bs.map bv).toArray tB)) base x l := World.ownsRow.alloc h _
  obtain ⟨x', w2, h1, h2, h3, h4⟩ := h'.app ⟨w.heap.size, 0, none⟩ bs.length bs.length bs rfl (fun j u hj => by
    have := (Blk.new w (bs.map bv) tB).cell j
    simp only [addr_add, Nat.zero_add]
    rw [this, List.getElem?_map, hj]; rfl) hn (by simp; omega)
  refine ⟨x', w2, h1, h2, ((Kp.refl _ w).alloc _).trans h3, fun q hq => ?_⟩
  rcases h4 q hq with g | g
  · exact .inl g
  · right; simp at g; omega
/-- A string's bytes behind it. -/
theorem BR.str (h : BR w base x l) (s : ByteArray) (hn : l.length + s.size ≤ 4294967296) (hbase : base ≤ w.heap.size) :
    ∃ (x' : Sl) (w2 : World), (Builtin.append_ #[tBs, 9] tBs #[slV x, .string s]).run Tryz.prog w = .ok (slV x') w2 ∧ BR w2 base x' (l ++ s.data.toList) ∧ Kp (Own x) w w2 ∧ (∀ q, Own x' q → Own x q ∨ w.heap.size ≤ q) := by
  obtain ⟨a', c', w2, h1, h2, h3, h4⟩ := append_str_run (P := Tryz.prog) (t := tBs) (u := 9) (e := tB) Tryz.underlying43 Tryz.underlying9 (info_some (by kernel_rfl)) (by kernel_rfl) (by kernel_rfl) (by kernel_rfl) h s hn hbase
  refine ⟨(a', l.length + s.size, c'), w2, h1, ?_, h3, h4⟩
  have hz : s.data.toList.length = s.size := by simp
  show w2.ownsRow base tB 1 _ (l ++ s.data.toList).length ((l ++ s.data.toList).map bv)
  rw [List.map_append, List.length_append, hz]
  exact h2
/-- It as a string. -/
theorem BR.toStr (h : BR w base x l) : (convert tBs 9 (slV x)).run Tryz.prog w = .ok (.string ⟨l.toArray⟩) w := by
  obtain ⟨h1, ⟨h2, h3⟩ | ⟨g, cap, cur, h2, hb, hg, hnc, hm, hs, ht⟩⟩ := id h
  · have : l = [] := List.eq_nil_of_length_eq_zero h3
    subst this
    rw [h2, run_convert_bytes_string (P := Tryz.prog) w tBs 9 tB none 0 0 Tryz.underlying43 Tryz.underlying5 Tryz.underlying9]
    simp [Conv.bytesToString]
    rfl
  · rw [h2]
    refine run_convert_bytes_back (P := Tryz.prog) w tBs 9 tB ⟨g, 0, none⟩ cap l Tryz.underlying43 Tryz.underlying5 Tryz.underlying9 (fun j hj => ?_)
    simp only [addr_add, Nat.zero_add, World.cell?, hg]
    have hj2 : j < l.length * 1 := by omega
    have : cur.toList[j]? = some (bv l[j]) := by
      have e : (cur.toList.take (l.length * 1))[j]? = (l.map bv)[j]? := by rw [ht]
      rw [List.getElem?_take_of_lt hj2] at e
      rw [e]; simp [hj]
    rw [← Array.getElem?_toList]
    exact this
/-- As steps of a tree. -/
theorem s_put {Q : Nat → List Value → World → Prop} {ats : Array TypeId} {k : Nat} {parts : Array (Nat × Value)} {K : Sh.slice.Ty → T} (h : BR w base x l) (bs : List UInt8) (hbase : base ≤ w.heap.size) (hn : l.length + bs.length ≤ 4294967296)
    (ha : ats = #[tBs, tBs]) (hp : parts = (bs.zipIdx.map fun q => (q.2, bv q.1)).toArray) (hk : k = bs.length) (h0 : bs ≠ []) (hz : bs.length ≤ 4096)
    (hK : ∀ (x' : Sl) (w' : World), BR w' base x' (l ++ bs) → Kp (Own x) w w' → (∀ q, Own x' q → Own x q ∨ w.heap.size ≤ q) → sat Tryz.prog (K x') Q w') :
    sat Tryz.prog (.eff (Instr.buildSlice tBs k parts) .slice fun z3 => .eff (Builtin.append_ ats tBs #[(Value.slice (x).1 ((x).2).1 ((x).2).2), (Value.slice (z3).1 ((z3).2).1 ((z3).2).2)]) .slice K) Q w := by
  subst ha; subst hp; subst hk
  obtain ⟨w1, h1, x', w2, h2, h3, h4, h5⟩ := h.put bs h0 hz hn hbase
  refine s_eff (some ⟨w.heap.size, 0, none⟩, bs.length, bs.length) h1 ?_
  exact s_eff x' h2 (hK x' w2 h3 h4 h5)
theorem s_putS {Q : Nat → List Value → World → Prop} {ats : Array TypeId} {s : ByteArray} {K : Sh.slice.Ty → T} (h : BR w base x l) (hbase : base ≤ w.heap.size) (hn : l.length + s.size ≤ 4294967296)
    (ha : ats = #[tBs, 9])
    (hK : ∀ (x' : Sl) (w' : World), BR w' base x' (l ++ s.data.toList) → Kp (Own x) w w' → (∀ q, Own x' q → Own x q ∨ w.heap.size ≤ q) → sat Tryz.prog (K x') Q w') :
    sat Tryz.prog (.eff (Builtin.append_ ats tBs #[(Value.slice (x).1 ((x).2).1 ((x).2).2), (Value.string s)]) .slice K) Q w := by
  subst ha
  obtain ⟨x', w2, h2, h3, h4, h5⟩ := h.str s hn hbase
  exact s_eff x' h2 (hK x' w2 h3 h4 h5)
end Go.Proofs.YtkpnomdmnhhaoaaGreatDoor.Bw
