/- A parameter that is a struct of one-cell fields, opened. No statement of the set is proved here. -/
import Derived.Lib.SmallJoins
import Derived.Deep.Fields
import Derived.ChangeArms
import Derived.OpenShut
namespace Go.Proofs.Ytdjilnhalpmabaa.Ag
open Go Go.ChangeShapes Go.WideShapes Go.Deep
section
variable {H : Type} {enc : TypeId × Value → H} {P : Program} {w : World} {base : Nat} {spare : Nat → Bool} {held : Bool}
theorem open_cells {r : Reach} {b0 : Nat} {t : TypeId} {fs : Array Field} {v : Value} {d : DataW H} {p : List MemPlace} (hs : P.underlying t = some (.struct fs)) (hone : oneCellFields P fs = true) (hC : P.cellsOf t = fs.size)
    (hv : Value.okWide P w r b0 t v) (h : DataW.Trod enc P w base spare held t v d p) :
    ∃ (cs : List Value) (n : Nat), v = .agg cs.toArray ∧ cs.length = fs.size ∧ ∀ (j : Nat) (f : Field) (c : Value), fs[j]? = some f → cs[j]? = some c → ∃ y, DataW.trod enc P w base spare held n f.type [c] = some y := by
  obtain ⟨cs, rfl, hsz⟩ := okWide_struct hs hv
  obtain ⟨l⟩ := cs
  have hl : l.length = fs.size := hsz.trans hC
  obtain ⟨fuel, hf⟩ := h
  obtain ⟨xs, n, _, _, _, hlen, hg⟩ := DataW.trod_struct hs hf
  refine ⟨l, n, rfl, hl, fun j f c hj hc => ?_⟩
  obtain ⟨o, k⟩ := hone_of hone j f hj
  have h1 := hg j f hj
  have hjl : j < l.length := (List.getElem?_eq_some_iff.1 hc).1
  have hx : xs[j]? = some (xs[j]'(by omega)) := List.getElem?_eq_getElem (by omega)
  have e : (l.drop j).take 1 = [c] := by
    rw [List.drop_eq_getElem_cons hjl]
    have : l[j] = c := by have := List.getElem?_eq_getElem hjl; rw [hc] at this; cases this; rfl
    rw [this]; rfl
  have h2 : DataW.trod enc P w base spare held n f.type [c] = xs[j]? := by
    rw [o, k] at h1
    rw [← e]; exact h1
  exact ⟨_, h2.trans hx⟩
theorem trod_float {t : TypeId} {k : FloatKind} {fuel : Nat} {c : Value} {x : DataW H × List MemPlace} (ht : P.underlying t = some (.float k)) (h : DataW.trod enc P w base spare held fuel t [c] = some x) : ∃ n, c = .float k n := by
  cases fuel with
  | zero => simp [DataW.trod] at h
  | succ n =>
    unfold DataW.trod at h
    simp only [ht] at h
    cases c <;> simp at h
    obtain ⟨a, _⟩ := h
    exact ⟨_, by rw [a.1]⟩
end
end Go.Proofs.Ytdjilnhalpmabaa.Ag
