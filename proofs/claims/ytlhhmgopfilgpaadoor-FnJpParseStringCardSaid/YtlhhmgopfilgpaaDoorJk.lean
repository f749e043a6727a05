/- jsonparser's errors as package variables; impl.jrKind tells which one. No statement of the set is proved here. -/
import Derived.Test.YtlhhmgopfilgpaaDoorEr
import Derived.Test.YtlhhmgopfilgpaaDoorTr
import Derived.KernelRfl
namespace Go.Proofs.YtlhhmgopfilgpaaDoor.Jk
open Go Go.Proofs Go.RowKit Go.Proofs.YtlhhmgopfilgpaaDoor.Rx Go.Proofs.YtlhhmgopfilgpaaDoor.Tr

theorem laid_of_H {P : Program} {l : List (String × DataW Unit)} {W : World} (h : laidMetH P l W) (hn : (l.filter fun x => x.2.handleName?.isSome) = []) : laidMet P l W := by
  unfold laidMetH at h; rw [hn] at h; exact h
abbrev tE : TypeId := 40
abbrev tPE : TypeId := 117
abbrev kinds : List Nat := [2, 3, 4, 5, 6, 7, 1, 0, 8, 9]
/-- The ten errors, each its own. -/
def Errs (A : Nat → Addr) (w : World) : Prop := (∀ g ∈ kinds, SentAt w tPE g (A g)) ∧ ∀ g ∈ kinds, ∀ h ∈ kinds, g ≠ h → A g ≠ A h
theorem Errs.off {A : Nat → Addr} {w w' : World} (h : Errs A w) (k : Kp Off w w') : Errs A w' := ⟨fun g hg => (h.1 g hg).off k, h.2⟩
def errV (A : Nat → Addr) (g : Nat) : Value := .iface tPE (.pointer (some (A g)))
theorem err_eq {A : Nat → Addr} {w : World} (h : Errs A w) {g g' : Nat} (hg : g ∈ kinds) (hg' : g' ∈ kinds) (x y : Operand) :
    (do eqGuard .eql tE x y (errV A g) (errV A g'); binOp .eql tE (errV A g) (errV A g') : Sem Value).run Tryd.prog w = .ok (.bool (g == g')) w := by
  have h1 := sent_eq (P := Tryd.prog) (w := w) (ti := tE) (tp := tPE) (a := A g) (b := A g') Tryd.underlying40 Tryd.underlying117 (info_some (by kernel_rfl)) (by kernel_rfl) (info_some (by kernel_rfl)) (of_decide_eq_true (by kernel_rfl)) (h.1 g hg).blk (h.1 g' hg').blk
  have h2 : decide (A g = A g') = (g == g') := by
    by_cases e : g = g'
    · subst e; simp
    · have := h.2 g hg g' hg' e
      simp [e, this]
  rw [h2] at h1
  simpa [eqGuard, errV] using h1
theorem s_err {A : Nat → Addr} {w : World} (h : Errs A w) {g g' : Nat} (hg : g ∈ kinds) (hg' : g' ∈ kinds) {x y : Operand} {Q : Nat → List Value → World → Prop} {t : T} {e : T}
    (h1 : g = g' → sat Tryd.prog t Q w) (h2 : g ≠ g' → sat Tryd.prog e Q w) :
    sat Tryd.prog (.load (Addr.mk g' 0 Option.none) .any fun (v0 : Value) =>
      .eff (Bind.bind (eqGuard BinOp.eql tE x y (errV A g) v0) (fun (_ : Unit) => (binOp BinOp.eql tE (errV A g) v0))) .bool fun (b2 : Bool) => .ite b2 t e) Q w := by
  refine s_load (errV A g') (h.1 g' hg').cell ?_
  refine s_eff (g == g') (err_eq h hg hg' x y) ?_
  by_cases e : g = g'
  · subst e
    simp only [BEq.rfl]
    exact sat_iteT.2 (h1 rfl)
  · have : (g == g') = false := by simpa using e
    rw [this]
    exact sat_iteF.2 (h2 e)
def kindOf (g : Nat) : Int := ((kinds.findIdx (· == g) : Nat) : Int) + 1
theorem jrKind_nil {w : World} : Calls Tryd.prog 21 #[.nilIface] w fun e w' => e = .returned (.int .i64 0) ∧ w' = w := by
  refine impl_jrKind.calls _ ?_
  unfold impl_jrKind.t
  refine s_chk rfl ?_
  exact sat_iteT.2 (s_leaf ⟨rfl, rfl, rfl⟩)
theorem jrKind_err {A : Nat → Addr} {w : World} (h : Errs A w) {g : Nat} (hg : g ∈ kinds) : Calls Tryd.prog 21 #[errV A g] w fun e w' => e = .returned (.int .i64 (kindOf g)) ∧ w' = w := by
  refine impl_jrKind.calls _ ?_
  unfold impl_jrKind.t
  refine s_chk rfl ?_
  refine sat_iteF.2 ?_
  refine s_err h hg (by decide) (fun e => by subst e; exact s_leaf ⟨rfl, rfl, rfl⟩) (fun n0 => ?_)
  refine s_err h hg (by decide) (fun e => by subst e; exact s_leaf ⟨rfl, rfl, rfl⟩) (fun n1 => ?_)
  refine s_err h hg (by decide) (fun e => by subst e; exact s_leaf ⟨rfl, rfl, rfl⟩) (fun n2 => ?_)
  refine s_err h hg (by decide) (fun e => by subst e; exact s_leaf ⟨rfl, rfl, rfl⟩) (fun n3 => ?_)
  refine s_err h hg (by decide) (fun e => by subst e; exact s_leaf ⟨rfl, rfl, rfl⟩) (fun n4 => ?_)
  refine s_err h hg (by decide) (fun e => by subst e; exact s_leaf ⟨rfl, rfl, rfl⟩) (fun n5 => ?_)
  refine s_err h hg (by decide) (fun e => by subst e; exact s_leaf ⟨rfl, rfl, rfl⟩) (fun n6 => ?_)
  refine s_err h hg (by decide) (fun e => by subst e; exact s_leaf ⟨rfl, rfl, rfl⟩) (fun n7 => ?_)
  refine s_err h hg (by decide) (fun e => by subst e; exact s_leaf ⟨rfl, rfl, rfl⟩) (fun n8 => ?_)
  refine s_err h hg (by decide) (fun e => by subst e; exact s_leaf ⟨rfl, rfl, rfl⟩) (fun n9 => ?_)
  exfalso
  simp [kinds] at hg
  omega
end Go.Proofs.YtlhhmgopfilgpaaDoor.Jk
