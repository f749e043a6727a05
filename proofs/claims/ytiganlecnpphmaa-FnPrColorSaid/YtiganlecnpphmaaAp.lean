/- One element put behind a slice's own row. No statement of the set is proved here. -/
import Derived.Test.YtiganlecnpphmaaRk
import Derived.Laws.AppendOwn
import Derived.Great.BuildSlice
namespace Go.Proofs.Ytiganlecnpphmaa.Rx
open Go Go.RowKit

theorem Kp.of_grown {w w' : World} {r : Option Nat} (h : w.grownBy w' r) : Kp (fun k => some k = r) w w' := ⟨h.os, h.tape, h.output, h.size, h.block⟩
theorem Kp.toGrown {S : Nat → Prop} {w w' : World} {r : Option Nat} (h : Kp S w w') (hr : ∀ k, k < w.heap.size → S k → some k = r) : w.grownBy w' r := ⟨h.os, h.tape, h.output, h.size, fun k hk hn => h.block k hk fun c => hn (hr k hk c)⟩
theorem Kp.then {S S' : Nat → Prop} {w0 w w' : World} (h : Kp S w0 w) (k : Kp S' w w') (hs : ∀ i, i < w0.heap.size → S' i → S i) : Kp S w0 w' :=
  ⟨k.os.trans h.os, k.tape.trans h.tape, k.output.trans h.output, Nat.le_trans h.size k.size, fun i hi hn => (k.block i (Nat.lt_of_lt_of_le hi h.size) fun c => hn (hs i hi c)).trans (h.block i hi hn)⟩
theorem owns_kp {w w' : World} {base : Nat} {e : TypeId} {size : Nat} {v : Value} {n : Nat} {xs : List Value} {S : Nat → Prop} (h : w.ownsRow base e size v n xs) (k : Kp S w w') (hn : ∀ b, some b = v.ownBlock → ¬ S b) : w'.ownsRow base e size v n xs := by
  obtain ⟨h1, ⟨h2, h3⟩ | ⟨g, cap, cur, rfl, hb, hg, hnc, hm, hs, ht⟩⟩ := h
  · exact ⟨h1, .inl ⟨h2, h3⟩⟩
  · refine ⟨h1, .inr ⟨g, cap, cur, rfl, hb, ?_, hnc, hm, hs, ht⟩⟩
    have hlt : g < w.heap.size := by
      rcases Nat.lt_or_ge g w.heap.size with h' | h'
      · exact h'
      · rw [Array.getElem?_eq_none h'] at hg; cases hg
    rw [k.block g hlt (hn g rfl)]; exact hg
theorem push_run {P : Program} {w : World} {base : Nat} {t e : TypeId} {i : TypeInfo} {z0 : Value} {size : Nat} (ht : P.underlying t = some (.slice e)) (hi : P.info? e = some i) (hz : i.zero = some z0)
    (hsize : i.size = size) (hby : i.bytes ≤ 1024) (hzs : z0.cells.size = size) (h0 : 0 < size) (h24 : size ≤ 16777216)
    {v : Value} {n : Nat} {xs : List Value} (hown : w.ownsRow base e size v n xs) (part : Value) (cs : List Value) (hp : part.cells = cs.toArray) (hcs : cs.length = size) (h1 : ∀ u ∈ cs, u.oneCell' = true)
    (hn : n + 1 ≤ 4294967296) (hbase : base ≤ w.heap.size) :
    ∃ w1, (Instr.buildSlice t 1 #[(0, part)]).run P w = .ok (.slice (some ⟨w.heap.size, 0, none⟩) 1 1) w1 ∧
      ∃ a c w2, (Builtin.append_ #[t, t] t #[v, .slice (some ⟨w.heap.size, 0, none⟩) 1 1]).run P w1 = .ok (.slice a (n + 1) c) w2 ∧ w2.ownsRow base e size (.slice a (n + 1) c) (n + 1) (xs ++ cs) ∧ Kp (fun k => some k = v.ownBlock) w w2 ∧
        (∀ b, some b = Value.ownBlock (.slice a (n + 1) c) → some b = v.ownBlock ∨ w.heap.size ≤ b) := by
  subst hsize
  obtain ⟨r, hr, hrs, hrk⟩ := Great.fill_dense h0 [part] 0 ((Array.range (1 * i.size)).map (z0.cells[· % z0.cells.size]!)) (fun u hu => by simp at hu; subst hu; rw [hp]; simpa using hcs) (by simp)
  have hr2 : r = cs.toArray := by
    apply Array.ext_getElem?
    intro k
    rw [hrk k]
    simp only [Nat.zero_mul, Nat.zero_le, true_and, List.length_cons, List.length_nil, Nat.zero_add, Nat.one_mul]
    by_cases hk : k < i.size
    · rw [if_pos hk, Nat.div_eq_of_lt hk, Nat.mod_eq_of_lt hk]
      simp [hp]
    · rw [if_neg hk]
      simp
      rw [Array.getElem?_eq_none (by simp; omega), List.getElem?_eq_none (by omega)]
      rfl
  subst hr2
  have hb := run_buildSlice (P := P) w t e 1 #[(0, part)] cs.toArray i z0 ht hi hz (by omega) (by omega) (by simpa using hr)
  refine ⟨_, hb, ?_⟩
  have k1 : Kp (fun k => some k = v.ownBlock) w (w.alloc (.cells cs.toArray e)) := (Kp.refl _ w).alloc _
  have ho1 : (w.alloc (.cells cs.toArray e)).ownsRow base e i.size v n xs := hown.alloc _
  have hc : ∀ j u, cs[j]? = some u → (w.alloc (.cells cs.toArray e)).cell? ((⟨w.heap.size, 0, none⟩ : Addr).add j) = some u := by
    intro j u hj
    have := (Blk.new w cs e).cell j
    simp only [addr_add, Nat.zero_add]
    rw [this]; exact hj
  obtain ⟨v', w2, h2, h3, h4, h5⟩ := run_append_own (P := P) (w.alloc (.cells cs.toArray e)) base t t e i z0 i.size i.bytes ht hi hz rfl rfl hzs h0 v n xs ho1 ⟨w.heap.size, 0, none⟩ 1 1 cs (by omega) hc h1
    (by simp only [maxLen]; omega) (by
      have : (n + 1) * i.bytes ≤ 4294967296 * 1024 := Nat.mul_le_mul hn hby
      omega) (by simp; omega)
  obtain ⟨h6, ⟨_, h7⟩ | ⟨g, cap, cur, rfl, hb', hg, hnc, hm, hs, htk⟩⟩ := h3
  · omega
  · refine ⟨_, _, _, h2, ⟨h6, .inr ⟨g, cap, cur, rfl, hb', hg, hnc, hm, hs, htk⟩⟩, k1.trans (Kp.of_grown h4), ?_⟩
    intro b hb
    have hbg : b = g := by simpa [Value.ownBlock] using hb
    subst hbg
    have hbytes : (n + 1) * i.bytes ≤ 140737488355328 := by
      have : (n + 1) * i.bytes ≤ 4294967296 * 1024 := Nat.mul_le_mul hn hby
      omega
    obtain ⟨q1, ⟨rfl, rfl⟩ | ⟨g0, cap0, cur0, rfl, hbg, hg0, hnc0, hm0, hs0, ht0⟩⟩ := ho1
    · right
      have hx : xs = [] := List.eq_nil_of_length_eq_zero (by simpa using q1)
      subst hx
      have hr := run_append_nil (P := P) (w.alloc (.cells cs.toArray e)) t t e i z0 ht hi hz ⟨w.heap.size, 0, none⟩ 1 1 cs (by omega) hc (by omega) (by omega) (by omega)
      rw [h2] at hr
      cases hr
      simp
    · by_cases hroom : n + 1 ≤ cap0
      · left
        have hr := run_append_room (P := P) (w.alloc (.cells cs.toArray e)) t t e i ht hi g0 n cap0 cur0 hg0 ⟨w.heap.size, 0, none⟩ 1 1 cs (by omega) hc h1 hroom (by rw [hcs, hs0]; have := Nat.mul_le_mul_right i.size hroom; rw [Nat.add_mul] at this; omega)
        rw [h2] at hr
        cases hr
        rfl
      · right
        have holds : ∀ j u, xs[j]? = some u → (w.alloc (.cells cs.toArray e)).cell? ((⟨g0, 0, none⟩ : Addr).add j) = some u := (show (w.alloc (.cells cs.toArray e)).ownsRow base e i.size (.slice (some ⟨g0, 0, none⟩) n cap0) n xs from ⟨q1, .inr ⟨g0, cap0, cur0, rfl, hbg, hg0, hnc0, hm0, hs0, ht0⟩⟩).cells (g := g0) rfl
        have hr := run_append_grow (P := P) (w.alloc (.cells cs.toArray e)) t t e i z0 ht hi hz ⟨g0, 0, none⟩ n cap0 xs q1 holds ⟨w.heap.size, 0, none⟩ 1 1 cs (by omega) hc (by omega) (by omega) (growslice_fits (by omega) hbytes)
        rw [h2] at hr
        cases hr
        simp
end Go.Proofs.Ytiganlecnpphmaa.Rx
