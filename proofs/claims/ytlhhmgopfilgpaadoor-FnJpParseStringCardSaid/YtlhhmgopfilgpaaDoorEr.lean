/- Package variables that hold errors, each its own pointer. No statement of the set is proved here. -/
import Derived.Test.YtlhhmgopfilgpaaDoorRk
import Derived.Stop.LaidErr
import Derived.LaidEql
namespace Go.Proofs.YtlhhmgopfilgpaaDoor.Rx
open Go Go.RowKit

/-- What a row lists for an error of errors.New. -/
def sentD (nm : String) (text : List UInt8) : DataW Unit := .iface nm (.ptr (.agg [.lit (.string text)]))
/-- The variable g holds the pointer a; its block is whole. -/
structure SentAt (w : World) (tp : TypeId) (g : Nat) (a : Addr) : Prop where
  cell : w.cell? ⟨g, 0, none⟩ = some (.iface tp (.pointer (some a)))
  blk : ∃ c t, w.heap[a.block]? = some (.cells c t (0, 0))
theorem heap_lt {w : World} {b : Nat} {o : Obj} (h : w.heap[b]? = some o) : b < w.heap.size := by
  rcases Nat.lt_or_ge b w.heap.size with h' | h'
  · exact h'
  · rw [Array.getElem?_eq_none h'] at h; cases h
theorem SentAt.kp {S : Nat → Prop} {w w' : World} {tp : TypeId} {g : Nat} {a : Addr} (h : SentAt w tp g a) (k : Kp S w w') (h1 : ¬ S g) (h2 : ¬ S a.block) : SentAt w' tp g a := by
  obtain ⟨c, t, hb⟩ := h.blk
  have hlt : g < w.heap.size := by
    have hc := h.cell
    unfold World.cell? at hc
    cases hh : w.heap[g]? with
    | none => simp only [hh] at hc; cases hc
    | some o => exact heap_lt hh
  refine ⟨?_, c, t, ?_⟩
  · rw [k.cell (a := ⟨g, 0, none⟩) hlt h1]; exact h.cell
  · rw [k.block _ (heap_lt hb) h2]; exact hb
theorem SentAt.off {w w' : World} {tp : TypeId} {g : Nat} {a : Addr} (h : SentAt w tp g a) (k : Kp Off w w') : SentAt w' tp g a := h.kp k id id
theorem sents_of_vars {P : Program} {w : World} {ti tp te ts : TypeId} {ms : Array (String × TypeId)} {nm : String} {f : Field} (hi : P.underlying ti = some (.interface ms)) (hrow : ∀ u, P.typeName? 3 u = some nm → u = tp)
    (hp : P.underlying tp = some (.pointer te)) (he : P.underlying te = some (.struct #[f])) (hft : f.type = ts) (hfo : f.offset = 0) (hs : P.underlying ts = some .string) (hc : P.cellsOf te = 1) (hcs : P.cellsOf ts = 1) (rest : List (String × DataW Unit)) :
    ∀ (l : List (String × List UInt8)) (gs : List Nat) (ps : List MemPlace), DataW.LaidVars P w (l.map (fun x => (x.1, sentD nm x.2)) ++ rest) ps → l.map (fun x => P.globalNamed x.1) = gs.map some →
      (∀ g ∈ gs, (P.globals[g]?).map (·.type) = some ti) → gs.Nodup → ps.Nodup →
      (∀ b off, MemPlace.cell b off ∈ ps → (∃ c t, w.heap[b]? = some (.cells c t (0, 0))) ∧ ∀ u v, w.cell? ⟨b, off, none⟩ = some (.iface u v) → Value.okWide P w .any 0 u v) →
      ∃ A : Nat → Addr, (∀ g ∈ gs, SentAt w tp g (A g) ∧ MemPlace.cell (A g).block (A g).off ∈ ps) ∧ (∀ g ∈ gs, ∀ h ∈ gs, g ≠ h → A g ≠ A h) ∧ ∃ q, DataW.LaidVars P w rest q ∧ ∀ x ∈ q, x ∈ ps := by
  intro l
  induction l with
  | nil =>
    intro gs ps hv hg _ _ _ _
    have : gs = [] := by cases gs with
      | nil => rfl
      | cons => simp at hg
    subst this
    exact ⟨fun _ => ⟨0, 0, none⟩, fun g h => (by cases h), fun g h => (by cases h), ps, hv, fun x h => h⟩
  | cons x l ih =>
    intro gs ps hv hg ht hn hnd hrows
    cases gs with
    | nil => simp at hg
    | cons g gs =>
      simp only [List.map_cons, List.cons.injEq] at hg
      obtain ⟨hg0, hg1⟩ := hg
      simp only [List.map_cons, List.cons_append] at hv
      obtain ⟨g0, t0, cs0, f0, p0, q0, hgn, hty, hv0, hd0, hr, rfl⟩ := hv
      obtain rfl := Option.some.inj (hg0.symm.trans hgn)
      obtain rfl := Option.some.inj ((ht g (by simp)).symm.trans hty)
      obtain ⟨l0⟩ := cs0
      have ok0 : ∀ u v, l0 = [.iface u v] → Value.okWide P w .any 0 u v := fun u v e => by
        subst e
        exact (hrows g 0 (by simp [MemPlace.row])).2 u v (by simpa using World.var?_cell hgn hv0 0)
      obtain ⟨a0, s0, rfl, hc0, hs0, hz0, rfl⟩ := errorString_of_trod hi hrow hp he hft hfo hs hc hcs hd0 ok0
      obtain ⟨A, h1, h2, q, h3, h4⟩ := ih gs q0 hr hg1 (fun g h => ht g (by simp [h])) (List.nodup_cons.1 hn).2 (List.Nodup.sublist (List.sublist_append_right _ _) hnd) (fun b off h => hrows b off (List.mem_append_right _ h))
      have ha0 : MemPlace.cell a0.block a0.off ∈ MemPlace.row a0 1 := by simp [MemPlace.row]
      have hdis := (List.nodup_append.1 hnd).2.2
      have hne : ∀ h ∈ gs, A h ≠ a0 := fun h hh e => by
        have := hdis _ (List.mem_append_right _ ha0) _ (h1 h hh).2
        rw [e] at this; exact this rfl
      refine ⟨fun h => if h = g then a0 else A h, ?_, ?_, q, h3, fun x hx => List.mem_append_right _ (h4 x hx)⟩
      · intro h hh
        dsimp only
        by_cases e : h = g
        · subst e
          rw [if_pos rfl]
          have hm : MemPlace.cell a0.block a0.off ∈ (MemPlace.row ⟨h, 0, none⟩ (List.toArray [Value.iface tp (.pointer (some a0))]).size ++ MemPlace.row a0 1) ++ q0 := List.mem_append_left _ (List.mem_append_right _ ha0)
          exact ⟨⟨by simpa using World.var?_cell hgn hv0 0, (hrows _ _ hm).1⟩, hm⟩
        · rw [if_neg e]
          have hh' : h ∈ gs := by simpa [e] using hh
          exact ⟨(h1 h hh').1, List.mem_append_right _ (h1 h hh').2⟩
      · intro x hx y hy hxy
        dsimp only
        by_cases e1 : x = g
        · subst e1
          have hy' : y ∈ gs := by
            rcases List.mem_cons.1 hy with h | h
            · exact absurd h.symm hxy
            · exact h
          rw [if_pos rfl, if_neg (fun e => hxy e.symm)]
          exact fun e => hne y hy' e.symm
        · rw [if_neg e1]
          have hx' : x ∈ gs := by simpa [e1] using hx
          by_cases e2 : y = g
          · rw [if_pos e2]; exact hne x hx'
          · rw [if_neg e2]
            have hy' : y ∈ gs := by simpa [e2] using hy
            exact h2 x hx' y hy' hxy
/-- Whether two such errors are the same. -/
theorem sent_eq {P : Program} {w : World} {ti tp te : TypeId} {ms : Array (String × TypeId)} {i j : TypeInfo} {a b : Addr}
    (hi : P.underlying ti = some (.interface ms)) (hp : P.underlying tp = some (.pointer te)) (hinfo : P.info? tp = some i) (hcomp : i.comparable = true) (hte : P.info? te = some j) (hsz : j.size ≠ 0)
    (ha : ∃ c t, w.heap[a.block]? = some (.cells c t (0, 0))) (hb : ∃ c t, w.heap[b.block]? = some (.cells c t (0, 0))) :
    (binOp .eql ti (.iface tp (.pointer (some a))) (.iface tp (.pointer (some b)))).run P w = .ok (.bool (decide (a = b))) w := by
  by_cases h : a = b
  · subst h; rw [decide_eq_true rfl]; exact run_eql_iface_ptr_same w a hi hp hinfo hcomp hte
  · rw [decide_eq_false h]
    obtain ⟨c, t, ha⟩ := ha
    obtain ⟨c', t', hb⟩ := hb
    exact run_eql_iface_ptr_other w hi hp hinfo hcomp hte hsz h ha hb
theorem sent_nil {P : Program} {w : World} {ti : TypeId} {ms : Array (String × TypeId)} (tp : TypeId) (v : Value) (hi : P.underlying ti = some (.interface ms)) :
    (binOp .eql ti .nilIface (.iface tp v)).run P w = .ok (.bool false) w := run_eql_iface_nil_left w tp v hi
end Go.Proofs.YtlhhmgopfilgpaaDoor.Rx
