/- Bytes in a slice's own row. No statement of the set is proved here. -/
import Derived.Test.YtiganlecnpphmaaPm
import Derived.Test.YtiganlecnpphmaaSf
import Derived.Test.YtiganlecnpphmaaProg
import Derived.KernelRfl
import Derived.Laws.IdiomStrings
import Derived.Laws.BytesString
namespace Go.Proofs.Ytiganlecnpphmaa.Sr
open Go Go.Proofs Go.Proofs.Ytiganlecnpphmaa.Rx Go.Proofs.Ytiganlecnpphmaa.Pl

abbrev tB : TypeId := 5
abbrev tBs : TypeId := 37
def bytesC (s : ByteArray) (i : Nat) : List Value := (List.range i).map fun k => .int .u8 (bt s (k : Nat))
theorem bytesC_succ (s : ByteArray) (i : Nat) : bytesC s (i + 1) = bytesC s i ++ [.int .u8 (bt s (i : Nat))] := by simp [bytesC, List.range_succ]
theorem bytesC_length (s : ByteArray) (i : Nat) : (bytesC s i).length = i := by simp [bytesC]
theorem bytesC_get {s : ByteArray} {i j : Nat} (h : j < i) : (bytesC s i)[j]? = some (.int .u8 (bt s (j : Nat))) := by simp [bytesC, h]
theorem push_byte {w : World} {base : Nat} {x : Sl} {n : Nat} {xs : List Value} (hown : w.ownsRow base tB 1 (slV x) n xs) (b : Int) (hn : n + 1 ≤ 4294967296) (hbase : base ≤ w.heap.size) :
    ∃ w1, (Instr.buildSlice tBs 1 #[(0, .int .u8 b)]).run Try.prog w = .ok (.slice (some ⟨w.heap.size, 0, none⟩) 1 1) w1 ∧
      ∃ (x' : Sl) (w2 : World), (Builtin.append_ #[tBs, tBs] tBs #[slV x, .slice (some ⟨w.heap.size, 0, none⟩) 1 1]).run Try.prog w1 = .ok (slV x') w2 ∧ w2.ownsRow base tB 1 (slV x') (n + 1) (xs ++ [.int .u8 b]) ∧
        Kp (fun q => some q = (slV x).ownBlock) w w2 ∧ (∀ q, some q = (slV x').ownBlock → some q = (slV x).ownBlock ∨ w.heap.size ≤ q) ∧ x'.2.1 = n + 1 := by
  obtain ⟨w1, h1, a, c, w2, h2, h3, h4, h5⟩ := push_run (P := Try.prog) (t := tBs) (e := tB) (z0 := .int .u8 0) Try.underlying37 (info_some (by kernel_rfl)) (by kernel_rfl) (by kernel_rfl)
    (of_decide_eq_true (by kernel_rfl)) rfl (by decide) (by decide) hown (.int .u8 b) [.int .u8 b] rfl rfl (by intro u hu; simp at hu; subst hu; rfl) hn hbase
  exact ⟨w1, h1, (a, n + 1, c), w2, h2, h3, h4, h5, rfl⟩
/-- A row that is there: its cells, none frozen; what a store into it leaves. -/
theorem owns_some {w : World} {base : Nat} {e : TypeId} {x : Sl} {n : Nat} {xs : List Value} (h : w.ownsRow base e 1 (slV x) n xs) (hn : 0 < n) :
    ∃ g cap, x = (some ⟨g, 0, none⟩, n, cap) ∧ base ≤ g ∧ (∀ j, j < n → w.cell? ⟨g, j, none⟩ = xs[j]?) ∧ (∀ j, w.frozen? ⟨g, j, none⟩ = false) ∧
      ∀ j u, j < n → (w.setCell ⟨g, j, none⟩ u).ownsRow base e 1 (slV x) n (xs.set j u) := by
  obtain ⟨h1, ⟨h2, h3⟩ | ⟨g, cap, cur, h2, hb, hg, hnc, hm, hs, ht⟩⟩ := h
  · omega
  · obtain ⟨a, l, c⟩ := x
    simp only [slV, Value.slice.injEq] at h2
    obtain ⟨rfl, rfl, rfl⟩ := h2
    rw [Nat.mul_one] at h1 hs ht
    refine ⟨g, c, rfl, hb, fun j hj => ?_, fun j => ?_, fun j u hj => ⟨by simpa using h1, .inr ⟨g, c, cur.setIfInBounds j u, rfl, hb, ?_, hnc, hm, by simpa using hs, ?_⟩⟩⟩
    · simp only [World.cell?, hg]
      rw [← ht, List.getElem?_take_of_lt hj]
      simp
    · simp [World.frozen?, hg]
    · simp [World.setCell, Array.getElem?_modify, hg]
    · rw [Nat.mul_one, Array.toList_setIfInBounds, List.take_set, ht]
theorem toString_run {w : World} {base : Nat} {x : Sl} {R : ByteArray} (h : w.ownsRow base tB 1 (slV x) R.size (bytesC R R.size)) (hR : 0 < R.size) :
    (convert tBs 9 (slV x)).run Try.prog w = .ok (.string R) w := by
  obtain ⟨g, cap, rfl, hb, hc, _, _⟩ := owns_some h hR
  have hl : R.data.toList.length = R.size := by simp
  have := run_convert_bytes_back (P := Try.prog) w tBs 9 tB ⟨g, 0, none⟩ cap R.data.toList Try.underlying37 Try.underlying5 Try.underlying9 (fun j hj => by
    simp only [addr_add, Nat.zero_add]
    rw [hc j (by omega), bytesC_get (by omega)]
    congr 2
    unfold bt
    rw [Int.toNat_natCast, List.getD_eq_getElem?_getD, List.getElem?_eq_getElem hj]
    rfl)
  rw [hl] at this
  exact this
end Go.Proofs.Ytiganlecnpphmaa.Sr
