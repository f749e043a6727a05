/- Bytes put into a block that a string was copied into, behind those that stand there: there is room. No statement of the set is proved here. -/
import Derived.Test.YtkpnomdmnhhaoaaGreatDoorZm
import Derived.Deep.AppendSrc
import Derived.Lib.ConvBytes
namespace Go.Proofs.YtkpnomdmnhhaoaaGreatDoor.Zo
open Go Go.Proofs Go.RowKit Go.Proofs.YtkpnomdmnhhaoaaGreatDoor.Rx Go.Proofs.YtkpnomdmnhhaoaaGreatDoor.Pl Go.Proofs.YtkpnomdmnhhaoaaGreatDoor.Bw
open Go.Proofs.YtkpnomdmnhhaoaaGreatDoor.Sr (Sl slV tBs tB)
open Go.Proofs.YtkpnomdmnhhaoaaGreatDoor.Zv (set_other set_frozen set_same)

variable {P : Program} {w w' : World}
/-- Cells that are there are written one by one. -/
theorem store_run : ∀ (vs : List Value) (w : World) (g o i : Nat), (∀ v ∈ vs, v.oneCell' = true) → (∀ j, j < vs.length → (∃ u, w.cell? ⟨g, o + i + j, none⟩ = some u) ∧ w.frozen? ⟨g, o + i + j, none⟩ = false) →
    ∃ w', (storeCells ⟨g, o, none⟩ vs i).run P w = .ok () w' ∧ (∀ j u, vs[j]? = some u → w'.cell? ⟨g, o + i + j, none⟩ = some u) ∧ (∀ q, (q < o + i ∨ o + i + vs.length ≤ q) → w'.cell? ⟨g, q, none⟩ = w.cell? ⟨g, q, none⟩) ∧ (∀ q, w'.frozen? ⟨g, q, none⟩ = w.frozen? ⟨g, q, none⟩) ∧ Kp (On g) w w'
  | [], w, g, o, i, _, _ => ⟨w, rfl, fun j u h => by simp at h, fun _ _ => rfl, fun _ => rfl, Kp.refl _ _⟩
  | v :: vs, w, g, o, i, h1, hc => by
    obtain ⟨⟨u, hu⟩, hf⟩ := hc 0 (by simp)
    rw [Nat.add_zero] at hu hf
    have hv := h1 v (by simp)
    obtain ⟨w', g1, g2, g3, g4, g5⟩ := store_run vs (w.setCell ⟨g, o + i, none⟩ v) g o (i + 1) (fun x hx => h1 x (by simp [hx])) (fun j hj => by
      obtain ⟨⟨u', hu'⟩, hf'⟩ := hc (j + 1) (by simp; omega)
      rw [show o + (i + 1) + j = o + i + (j + 1) by omega]
      exact ⟨⟨u', (set_other (by omega) v).trans hu'⟩, (set_frozen v).trans hf'⟩)
    refine ⟨w', ?_, fun j u' hj => ?_, fun q hq => ?_, fun q => (g4 q).trans (set_frozen v), ((Kp.refl _ _).on _ _).trans g5⟩
    · simp only [storeCells, Sem.run_bind, addr_add, run_store, hv, hu, hf]
      simpa using g1
    · cases j with
      | zero =>
        simp only [List.getElem?_cons_zero, Option.some.injEq] at hj
        subst hj
        rw [Nat.add_zero, g3 _ (.inl (by omega))]
        exact set_same hu
      | succ j =>
        simp only [List.getElem?_cons_succ] at hj
        have := g2 j u' hj
        rwa [show o + (i + 1) + j = o + i + (j + 1) by omega] at this
    · rw [g3 q (by simp only [List.length_cons] at hq; omega)]
      exact set_other (by simp only [List.length_cons] at hq; omega) v
theorem app_room {t tx ty e : TypeId} {i : TypeInfo} (ht : P.underlying t = some (.slice e)) (hi : P.info? e = some i) (hs1 : i.size = 1) {x : Value} {m : Nat} {news : List Value} (hx : Src P 1 tx x m news w) {g n cap : Nat} (hn : n + m ≤ cap)
    (hc : ∀ j, j < m → (∃ u, w.cell? ⟨g, n + j, none⟩ = some u) ∧ w.frozen? ⟨g, n + j, none⟩ = false) :
    ∃ w', (Builtin.append_ #[t, tx] ty #[.slice (some ⟨g, 0, none⟩) n cap, x]).run P w = .ok (.slice (some ⟨g, 0, none⟩) (n + m) cap) w' ∧ (∀ j u, news[j]? = some u → w'.cell? ⟨g, n + j, none⟩ = some u) ∧ (∀ q, (q < n ∨ n + m ≤ q) → w'.cell? ⟨g, q, none⟩ = w.cell? ⟨g, q, none⟩) ∧ (∀ q, w'.frozen? ⟨g, q, none⟩ = w.frozen? ⟨g, q, none⟩) ∧ Kp (On g) w w' := by
  obtain ⟨a1, a2, a3, a4, a5, a6⟩ := hx
  rw [Nat.mul_one] at a5
  obtain ⟨w', g1, g2, g3, g4, g5⟩ := store_run (P := P) news w g n 0 a6 (fun j hj => by rw [Nat.add_zero]; exact hc j (by omega))
  refine ⟨w', ?_, fun j u hj => by have := g2 j u hj; rwa [Nat.add_zero] at this, fun q hq => g3 q (by omega), g4, g5⟩
  have hz : ∀ w0 : World, (match (TypeDesc.slice e) with | .int _ => true | _ => false) = false := fun _ => rfl
  unfold Builtin.append_
  rcases a1 with ⟨e', a1⟩ | a1
  all_goals
    simp only [List.getElem?_toArray, List.getElem?_cons_zero, List.getElem?_cons_succ, Sem.run_bind, Sem.run_pure, run_underlying ht, run_underlying a1, run_size hi, Result.andThen_ok, a2, hs1, Bool.false_eq_true, if_false, Bool.not_false, if_true, hn, a3, addr_add, Nat.zero_add, Nat.mul_one]
    rw [g1]
    rfl
end Go.Proofs.YtkpnomdmnhhaoaaGreatDoor.Zo
