/- Trees of JSON in memory; the reference's Tree and Read (this repo's texts Na Nb Nc and the first of Nd put together). No statement of the set is proved here. -/
import Derived.Test.YtkpnomdmnhhaoaaGreatDoorZa
import Derived.Test.YtkpnomdmnhhaoaaGreatDoorTg
namespace Go.Proofs.YtkpnomdmnhhaoaaGreatDoor.Nt
open Go Go.Proofs Go.RowKit Go.Proofs.YtkpnomdmnhhaoaaGreatDoor.Rx Go.Proofs.YtkpnomdmnhhaoaaGreatDoor.Pl Go.Proofs.YtkpnomdmnhhaoaaGreatDoor.Pw
open Go.Proofs.YtkpnomdmnhhaoaaGreatDoor.Sr (Sl slV RowIn)
open Go.Proofs.YtkpnomdmnhhaoaaGreatDoor.Ka (nmS)

/-- A tree: kind, text, names, members or elements. -/
inductive NT
  | mk (k : Nat) (t : ByteArray) (keys : List ByteArray) (kids : List NT)
def NT.k : NT → Nat
  | .mk k _ _ _ => k
def NT.t : NT → ByteArray
  | .mk _ t _ _ => t
def NT.keys : NT → List ByteArray
  | .mk _ _ keys _ => keys
def NT.kids : NT → List NT
  | .mk _ _ _ kids => kids
/-- A node's cells. -/
def nc (k : Int) (t : ByteArray) (ka na : Sl) : List Value := [.int .i64 k, .string t, .slice ka.1 ka.2.1 ka.2.2, .slice na.1 na.2.1 na.2.2]
theorem nc_oneC (k : Int) (t : ByteArray) (ka na : Sl) : ∀ u ∈ nc k t ka na, u.oneCell' = true := by
  intro u hu
  simp [nc] at hu
  rcases hu with rfl | rfl | rfl | rfl <;> rfl
def strV (x : ByteArray) : Value := .string x
mutual
/-- A node's cells in memory, its rows in blocks of 'B'. -/
def NdAt (B : Nat → Prop) (w : World) : NT → List Value → Prop
  | .mk k t keys kids, cs => ∃ (ka na : Sl) (xs : List Value), cs = nc k t ka na ∧ RowIn B w ka keys.length (keys.map strV) 1 ∧ RowIn B w na kids.length xs 4 ∧ AllN B w kids xs
def AllN (B : Nat → Prop) (w : World) : List NT → List Value → Prop
  | [], xs => xs = []
  | p :: ks, xs => ∃ cs ys, xs = cs ++ ys ∧ NdAt B w p cs ∧ AllN B w ks ys
end
variable {B B' : Nat → Prop} {w w' : World}
mutual
theorem NdAt.mv (hz : w.heap.size ≤ w'.heap.size) (hb : ∀ b, b < w.heap.size → B b → B' b ∧ w'.heap[b]? = w.heap[b]?) : ∀ (p : NT) (cs : List Value), NdAt B w p cs → NdAt B' w' p cs
  | .mk k t keys kids, cs, h => by
    unfold NdAt at h ⊢
    obtain ⟨na, ka, xs, h1, h2, h3, h4⟩ := h
    exact ⟨na, ka, xs, h1, h2.mv hz hb, h3.mv hz hb, AllN.mv hz hb kids xs h4⟩
theorem AllN.mv (hz : w.heap.size ≤ w'.heap.size) (hb : ∀ b, b < w.heap.size → B b → B' b ∧ w'.heap[b]? = w.heap[b]?) : ∀ (ks : List NT) (xs : List Value), AllN B w ks xs → AllN B' w' ks xs
  | [], xs, h => by unfold AllN at h ⊢; exact h
  | p :: ks, xs, h => by
    unfold AllN at h ⊢
    obtain ⟨cs, ys, h1, h2, h3⟩ := h
    exact ⟨cs, ys, h1, NdAt.mv hz hb p cs h2, AllN.mv hz hb ks ys h3⟩
end
theorem NdAt.kp {S : Nat → Prop} (k : Kp S w w') (hb : ∀ b, b < w.heap.size → B b → B' b ∧ ¬ S b) {p : NT} {cs : List Value} (h : NdAt B w p cs) : NdAt B' w' p cs :=
  NdAt.mv k.size (fun b hlt hB => ⟨(hb b hlt hB).1, k.block b hlt (hb b hlt hB).2⟩) p cs h
theorem AllN.kp {S : Nat → Prop} (k : Kp S w w') (hb : ∀ b, b < w.heap.size → B b → B' b ∧ ¬ S b) {ks : List NT} {xs : List Value} (h : AllN B w ks xs) : AllN B' w' ks xs :=
  AllN.mv k.size (fun b hlt hB => ⟨(hb b hlt hB).1, k.block b hlt (hb b hlt hB).2⟩) ks xs h
theorem AllN.nil : AllN B w [] [] := by unfold AllN; rfl
theorem AllN.snoc {p : NT} {cs : List Value} (hp : NdAt B w p cs) : ∀ (ks : List NT) (xs : List Value), AllN B w ks xs → AllN B w (ks ++ [p]) (xs ++ cs)
  | [], xs, h => by
    unfold AllN at h; subst h
    show AllN B w [p] cs
    unfold AllN
    exact ⟨cs, [], by simp, hp, AllN.nil⟩
  | q :: ks, xs, h => by
    unfold AllN at h
    obtain ⟨ds, ys, h1, h2, h3⟩ := h
    show AllN B w (q :: (ks ++ [p])) (xs ++ cs)
    unfold AllN
    exact ⟨ds, ys ++ cs, by rw [h1, List.append_assoc], h2, AllN.snoc hp ks ys h3⟩
theorem NdAt.mk' {k : Nat} {t : ByteArray} {keys : List ByteArray} {kids : List NT} {ka na : Sl} {xs : List Value} (h2 : RowIn B w ka keys.length (keys.map strV) 1) (h3 : RowIn B w na kids.length xs 4) (h4 : AllN B w kids xs) : NdAt B w (.mk k t keys kids) (nc k t ka na) := by
  unfold NdAt; exact ⟨ka, na, xs, rfl, h2, h3, h4⟩
theorem NdAt.inv {p : NT} {cs : List Value} (h : NdAt B w p cs) : ∃ (ka na : Sl) (xs : List Value), cs = nc p.k p.t ka na ∧ RowIn B w ka p.keys.length (p.keys.map strV) 1 ∧ RowIn B w na p.kids.length xs 4 ∧ AllN B w p.kids xs := by
  cases p; unfold NdAt at h; exact h
mutual
/-- The tree of a place. -/
def treeN (s : ByteArray) : PT → NT
  | .mk k b e ns ks => .mk k (if k = 3 then s.extract b e else if k = 4 then nmS s (b, e) else ByteArray.mk #[]) (ns.map (nmS s)) (treeL s ks)
def treeL (s : ByteArray) : List PT → List NT
  | [] => []
  | p :: ks => treeN s p :: treeL s ks
end
theorem treeL_snoc (s : ByteArray) (p : PT) : ∀ ks : List PT, treeL s (ks ++ [p]) = treeL s ks ++ [treeN s p]
  | [] => by
    show treeL s [p] = treeL s [] ++ [treeN s p]
    simp only [treeL, List.nil_append]
  | q :: ks => by
    show treeL s (q :: (ks ++ [p])) = _
    simp only [treeL, treeL_snoc s p ks, List.cons_append]
theorem treeL_len (s : ByteArray) : ∀ ks : List PT, (treeL s ks).length = ks.length
  | [] => by rw [show treeL s [] = [] by simp only [treeL]]; rfl
  | q :: ks => by simp only [treeL, List.length_cons, treeL_len s ks]
/-- An element's cells. -/
theorem all_getN : ∀ (ks : List NT) (xs : List Value) (i : Nat) (p : NT), AllN B w ks xs → ks[i]? = some p →
    ∃ cs, NdAt B w p cs ∧ ∀ j, j < 4 → xs[i * 4 + j]? = cs[j]?
  | [], xs, i, p, h, hi => by simp at hi
  | q :: ks, xs, i, p, h, hi => by
    unfold AllN at h
    obtain ⟨cs, ys, rfl, h2, h3⟩ := h
    have hl : cs.length = 4 := by
      obtain ⟨ka, na, _, rfl, _⟩ := h2.inv
      rfl
    cases i with
    | zero =>
      simp only [List.getElem?_cons_zero, Option.some.injEq] at hi
      subst hi
      refine ⟨cs, h2, fun j hj => ?_⟩
      rw [Nat.zero_mul, Nat.zero_add, List.getElem?_append_left (by omega)]
    | succ i =>
      simp only [List.getElem?_cons_succ] at hi
      obtain ⟨ds, d1, d2⟩ := all_getN ks ys i p h3 hi
      refine ⟨ds, d1, fun j hj => ?_⟩
      rw [List.getElem?_append_right (by omega), hl]
      have : (i + 1) * 4 + j - 4 = i * 4 + j := by omega
      rw [this]; exact d2 j hj
end Go.Proofs.YtkpnomdmnhhaoaaGreatDoor.Nt
namespace Go.Proofs.YtkpnomdmnhhaoaaGreatDoor.Nt
open Go Go.Proofs Go.RowKit Go.Proofs.YtkpnomdmnhhaoaaGreatDoor.Rx Go.Proofs.YtkpnomdmnhhaoaaGreatDoor.Tr Go.Proofs.YtkpnomdmnhhaoaaGreatDoor.Pl Go.Proofs.YtkpnomdmnhhaoaaGreatDoor.Pw
open Go.Proofs.YtkpnomdmnhhaoaaGreatDoor.Sr (Sl slV RowIn tP pc storeP loadP zp PlAt AllAt spanC places places_any PlPost p_no)
open Go.Proofs.YtkpnomdmnhhaoaaGreatDoor.Ka (nmS)
open Go.Proofs.YtkpnomdmnhhaoaaGreatDoor.Lj (name_any all_get place_run span_get wf_names wf_len)

abbrev tN : TypeId := 26
abbrev tNs : TypeId := 24
abbrev tStr : TypeId := 9
abbrev tSs : TypeId := 23
variable {w w' : World} {s : ByteArray} {B : Nat → Prop}
theorem s_hereN {P : Program} {Q : Nat → List Value → World → Prop} {K : World → T} (h : sat P (K w) Q w) : sat P (.here K) Q w := h
/-- A slice of one element, built. -/
theorem build1 {P : Program} {t e : TypeId} {i : TypeInfo} {z0 : Value} {size : Nat} (ht : P.underlying t = some (.slice e)) (hi : P.info? e = some i) (hz : i.zero = some z0)
    (hsize : i.size = size) (h0 : 0 < size) (h24 : size ≤ 16777216) (part : Value) (cs : List Value) (hp : part.cells = cs.toArray) (hcs : cs.length = size) :
    (Instr.buildSlice t 1 #[(0, part)]).run P w = .ok (.slice (some ⟨w.heap.size, 0, none⟩) 1 1) (w.alloc (.cells cs.toArray e)) := by
  subst hsize
  obtain ⟨r, hr, hrs, hrk⟩ := Great.fill_dense h0 [part] 0 ((Array.range (1 * i.size)).map (z0.cells[· % z0.cells.size]!)) (fun u hu => by simp at hu; subst hu; rw [hp]; simpa using hcs) (by simp)
  have hr2 : r = cs.toArray := by
    apply Array.ext_getElem?
    intro k
    rw [hrk k]
    simp only [Nat.zero_mul, Nat.zero_le, true_and, List.length_cons, List.length_nil, Nat.zero_add, Nat.one_mul]
    by_cases hk : k < i.size
    · rw [if_pos hk, Nat.div_eq_of_lt hk, Nat.mod_eq_of_lt hk]
      simp [hp]
    · rw [if_neg hk]
      simp
      rw [Array.getElem?_eq_none (by simp; omega), List.getElem?_eq_none (by omega)]
      rfl
  subst hr2
  exact run_buildSlice (P := P) w t e 1 #[(0, part)] cs.toArray i z0 ht hi hz (by omega) (by omega) (by simpa using hr)
/-- An element put behind a row of one's own. -/
theorem s_push {Q : Nat → List Value → World → Prop} {base : Nat} {t e : TypeId} {i : TypeInfo} {z0 : Value} {size n : Nat} {xs : List Value} {v : Sl} {K : Sh.slice.Ty → T} {o1 o2 : Operand}
    (ht : Tryz.prog.underlying t = some (.slice e)) (hi : Tryz.prog.info? e = some i) (hz : i.zero = some z0) (hsize : i.size = size) (hby : i.bytes ≤ 1024) (hzs : z0.cells.size = size) (h0 : 0 < size) (h24 : size ≤ 16777216)
    (hown : w.ownsRow base e size (slV v) n xs) (part : Value) (cs : List Value) (hp : part.cells = cs.toArray) (hcs : cs.length = size) (h1 : ∀ u ∈ cs, u.oneCell' = true) (hn : n + 1 ≤ 4294967296) (hbase : base ≤ w.heap.size)
    (hK : ∀ (v' : Sl) (w' : World), w'.ownsRow base e size (slV v') (n + 1) (xs ++ cs) → Kp (fun k => some k = (slV v).ownBlock) w w' → (∀ b, some b = (slV v').ownBlock → some b = (slV v).ownBlock ∨ w.heap.size ≤ b) → sat Tryz.prog (K v') Q w') :
    sat Tryz.prog (.here fun z32 =>
      .eff (Instr.buildSlice t 1 #[(0, part)]) .slice fun (z33 : ((Option Addr) × (Nat × Nat))) =>
      .grew z32 <|
      .eff (Builtin.append_ (Call.argTypes (Call.mk (Callee.builtin Builtin.append) #[o1, o2] #[t, t])) t #[(Value.slice (v).1 ((v).2).1 ((v).2).2), (Value.slice (z33).1 ((z33).2).1 ((z33).2).2)]) .slice K) Q w := by
  refine s_hereN ?_
  have hb := build1 (w := w) ht hi hz hsize h0 h24 part cs hp hcs
  obtain ⟨w1, h2, a, c, w2, h3, h4, h5, h6⟩ := push_run (P := Tryz.prog) ht hi hz hsize hby hzs h0 h24 hown part cs hp hcs h1 hn hbase
  have e1 := Result.ok.inj (hb.symm.trans h2)
  have e1 := e1.2
  subst e1
  refine s_eff (some ⟨w.heap.size, 0, none⟩, 1, 1) hb ⟨((Kp.refl Off w).alloc _).belowOff, ?_⟩
  exact s_eff (a, n + 1, c) h3 (hK (a, n + 1, c) w2 h4 h5 h6)
theorem loadN {g : Nat} {k : Int} {t : ByteArray} {a b : Sl} (h : Blk w g (nc k t a b) tN) : (Instr.loadAt tN (.pointer (some ⟨g, 0, none⟩))).run Tryz.prog w = .ok (.agg (nc k t a b).toArray) w :=
  loadAt_run (by kernel_rfl) (info_some (by kernel_rfl)) (by kernel_rfl) h
theorem storeN {g : Nat} {cs : List Value} (h : Blk w g cs tN) (hl : cs.length = 4) (k : Int) (t : ByteArray) (a b : Sl) :
    ∃ w', (Instr.storeAt tN (.pointer (some ⟨g, 0, none⟩)) (.agg (nc k t a b).toArray)).run Tryz.prog w = .ok () w' ∧ Blk w' g (nc k t a b) tN ∧ Kp (On g) w w' :=
  storeAt_run (P := Tryz.prog) (t := tN) (nc k t a b) h (info_some (by kernel_rfl)) (by kernel_rfl) (by rw [hl]; rfl) rfl
theorem node_run {bk o : Nat} {k : Int} {t : ByteArray} {a b : Sl} (h : ∀ j, j < 4 → w.cell? ⟨bk, o + j, none⟩ = (nc k t a b)[j]?) :
    (Instr.loadAt tN (.pointer (some ⟨bk, o, none⟩))).run Tryz.prog w = .ok (.agg (nc k t a b).toArray) w := by
  have hi := info_some (P := Tryz.prog) (t := tN) (by kernel_rfl)
  have hs : ((Tryz.prog.info? tN).get (by kernel_rfl)).size = 4 := by kernel_rfl
  have ha : aggT Tryz.prog tN = some true := by kernel_rfl
  have h0 : w.cell? ⟨bk, o, none⟩ = some (.int .i64 k) := h 0 (by decide)
  have h1 : w.cell? ⟨bk, o + 1, none⟩ = some (.string t) := h 1 (by decide)
  have h2 : w.cell? ⟨bk, o + 2, none⟩ = some (slV a) := h 2 (by decide)
  have h3 : w.cell? ⟨bk, o + 3, none⟩ = some (slV b) := h 3 (by decide)
  simp only [Instr.loadAt, Instr.sureAddr, loadVar, Sem.run_bind, Sem.run_pure, Result.andThen_ok, run_agg ha, if_true, run_size hi, loadCells, hs]
  simp [loadCellsFrom, h0, h1, h2, h3, nc, slV]
abbrev zn : List Value := nc 0 (ByteArray.mk #[]) (none, 0, 0) (none, 0, 0)
/-- What a function that gives a tree says. -/
def NdPost (w : World) (nt : NT) (e : Ending) (w' : World) : Prop :=
  ∃ (a b : Sl), e = .returned (.agg (nc nt.k nt.t a b).toArray) ∧ NdAt (fun q => w.heap.size ≤ q) w' nt (nc nt.k nt.t a b) ∧ Kp Off w w'
theorem treeN_k (s : ByteArray) (p : PT) : (treeN s p).k = p.k := by cases p; rw [treeN]; rfl
theorem treeN_keys (s : ByteArray) (p : PT) : (treeN s p).keys = p.ns.map (nmS s) := by cases p; rw [treeN]; rfl
theorem treeN_kids (s : ByteArray) (p : PT) : (treeN s p).kids = treeL s p.ks := by cases p; rw [treeN]; rfl
theorem treeN_t (s : ByteArray) (p : PT) : (treeN s p).t = if p.k = 3 then s.extract p.b p.e else if p.k = 4 then nmS s (p.b, p.e) else ByteArray.mk #[] := by cases p; rw [treeN]; rfl
theorem treeL_take (s : ByteArray) {ks : List PT} {i : Nat} {p : PT} (h : ks[i]? = some p) : treeL s (ks.take (i + 1)) = treeL s (ks.take i) ++ [treeN s p] := by
  have : ks.take (i + 1) = ks.take i ++ [p] := by rw [List.take_add_one, h]; rfl
  rw [this, treeL_snoc]
/-- A value's elements or members lie within it. -/
theorem kid_in {p c : PT} {i : Nat} (hw : WfV s p) (h : p.ks[i]? = some c) : WfV s c ∧ p.b < c.b ∧ c.e < p.e := by
  obtain ⟨k, b, e, ns, ks⟩ := p
  have hlt := hw.lt
  have hw0 := hw
  unfold WfV at hw
  obtain ⟨_, _, ⟨rfl, rfl, _⟩ | ⟨rfl, rfl, rfl, _⟩ | ⟨rfl, rfl, h1, h2⟩ | ⟨rfl, h1, h2⟩⟩ := hw
  · have h : ([] : List PT)[i]? = some c := h
    simp at h
  · have h : ([] : List PT)[i]? = some c := h
    simp at h
  · obtain ⟨a1, a2, a3, _⟩ := Gk.elt_at ks true (b + 1) e i c h2 h
    exact ⟨a1, by show b < c.b; omega, a2⟩
  · have hl := Lj.names_ok ks ns true (b + 1) e h2
    have hi := (List.getElem?_eq_some_iff.1 h).1
    have hi : i < ks.length := hi
    obtain ⟨_, _, _, _, a5, a6, a7⟩ := Gk.mem_at ks ns true (b + 1) e i ns[i] c h2 (List.getElem?_eq_getElem (by omega)) h
    exact ⟨a5, by show b < c.b; omega, a6⟩
theorem str_ok {p : PT} (hw : WfV s p) (h : p.k = 4) : strE s (p.b + 1) = some p.e := by
  obtain ⟨k, b, e, ns, ks⟩ := p
  unfold WfV at hw
  have h : k = 4 := h
  obtain ⟨_, _, ⟨rfl, rfl, _, h5⟩ | ⟨_, rfl, rfl, _, h2⟩ | ⟨rfl, _⟩ | ⟨rfl, _⟩⟩ := hw
  · exfalso
    rcases h5 with ⟨g, _⟩ | ⟨g, _⟩ | ⟨g, _⟩ | ⟨g, _⟩ <;> omega
  · exact h2
  · omega
  · omega
theorem pl_sl {p : PT} {na ka : Sl} : ∀ {cs}, cs = pc p.k p.b p.e na ka → cs[3]? = some (slV na) ∧ cs[4]? = some (slV ka) := fun h => by subst h; exact ⟨rfl, rfl⟩
end Go.Proofs.YtkpnomdmnhhaoaaGreatDoor.Nt
namespace Go.Proofs.YtkpnomdmnhhaoaaGreatDoor.Nt
open Go Go.Proofs Go.RowKit Go.Proofs.YtkpnomdmnhhaoaaGreatDoor.Rx Go.Proofs.YtkpnomdmnhhaoaaGreatDoor.Tr Go.Proofs.YtkpnomdmnhhaoaaGreatDoor.Pl Go.Proofs.YtkpnomdmnhhaoaaGreatDoor.Pw
open Go.Proofs.YtkpnomdmnhhaoaaGreatDoor.Sr (Sl slV RowIn tP pc storeP loadP zp PlAt AllAt spanC places places_any PlPost p_no)
open Go.Proofs.YtkpnomdmnhhaoaaGreatDoor.Ka (nmS)
open Go.Proofs.YtkpnomdmnhhaoaaGreatDoor.Lj (name_any all_get place_run span_get wf_names wf_len)

variable {w w' w0 : World} {s : ByteArray} {B : Nat → Prop} {p : PT} {na ka : Sl}
/-- What stands in memory while a tree is made. -/
structure TS (w0 w : World) (p : PT) (na ka : Sl) (t : ByteArray) (a b : Sl) : Prop where
  z0 : Blk w w0.heap.size (pc p.k p.b p.e na ka) tP
  z1 : Blk w (w0.heap.size + 1) zn tN
  z3 : Blk w (w0.heap.size + 2) (nc p.k t a b) tN
  keep : Kp Off w0 w
theorem TS.kp {t : ByteArray} {a b : Sl} (h : TS w0 w p na ka t a b) {S : Nat → Prop} (k : Kp S w w') (hS : ∀ q, S q → w0.heap.size + 3 ≤ q) : TS w0 w' p na ka t a b :=
  ⟨k.blk h.z0 (fun g => by have := hS _ g; omega), k.blk h.z1 (fun g => by have := hS _ g; omega), k.blk h.z3 (fun g => by have := hS _ g; omega), h.keep.then k fun q hq c => by have := hS _ c; omega⟩
theorem TS.off {t : ByteArray} {a b : Sl} (h : TS w0 w p na ka t a b) (k : Kp Off w w') : TS w0 w' p na ka t a b := h.kp k fun _ hq => hq.elim
theorem TS.setK {t : ByteArray} {a b a' : Sl} (h : TS w0 w p na ka t a b) : TS w0 (w.setCell ⟨w0.heap.size + 2, 2, none⟩ (slV a')) p na ka t a' b := by
  have k : Kp (On (w0.heap.size + 2)) w (w.setCell ⟨w0.heap.size + 2, 2, none⟩ (slV a')) := (Kp.refl _ w).on 2 _
  refine ⟨k.blk h.z0 (fun g => by have g : w0.heap.size = w0.heap.size + 2 := g; omega), k.blk h.z1 (fun g => by have g : w0.heap.size + 1 = w0.heap.size + 2 := g; omega), h.z3.set 2 (slV a'), h.keep.then k fun q hq c => by have c : q = w0.heap.size + 2 := c; omega⟩
theorem TS.setN {t : ByteArray} {a b b' : Sl} (h : TS w0 w p na ka t a b) : TS w0 (w.setCell ⟨w0.heap.size + 2, 3, none⟩ (slV b')) p na ka t a b' := by
  have k : Kp (On (w0.heap.size + 2)) w (w.setCell ⟨w0.heap.size + 2, 3, none⟩ (slV b')) := (Kp.refl _ w).on 3 _
  refine ⟨k.blk h.z0 (fun g => by have g : w0.heap.size = w0.heap.size + 2 := g; omega), k.blk h.z1 (fun g => by have g : w0.heap.size + 1 = w0.heap.size + 2 := g; omega), h.z3.set 3 (slV b'), h.keep.then k fun q hq c => by have c : q = w0.heap.size + 2 := c; omega⟩
theorem TS.setT {t t' : ByteArray} {a b : Sl} (h : TS w0 w p na ka t a b) : TS w0 (w.setCell ⟨w0.heap.size + 2, 1, none⟩ (.string t')) p na ka t' a b := by
  have k : Kp (On (w0.heap.size + 2)) w (w.setCell ⟨w0.heap.size + 2, 1, none⟩ (.string t')) := (Kp.refl _ w).on 1 _
  refine ⟨k.blk h.z0 (fun g => by have g : w0.heap.size = w0.heap.size + 2 := g; omega), k.blk h.z1 (fun g => by have g : w0.heap.size + 1 = w0.heap.size + 2 := g; omega), h.z3.set 1 (.string t'), h.keep.then k fun q hq c => by have c : q = w0.heap.size + 2 := c; omega⟩
/-- The names. -/
theorem t3_tree {Q : Nat → List Value → World → Prop} {T : ByteArray} (hs : s.size ≤ 4000000) (hw : WfV s p) (hp : PlAt B w0 p (pc p.k p.b p.e na ka)) (h : TS w0 w p na ka T (none, 0, 0) (none, 0, 0)) (hsz : w0.heap.size + 3 ≤ w.heap.size)
    (hK : ∀ (v : Sl) (w' : World), TS w0 w' p na ka T v (none, 0, 0) → w0.heap.size + 3 ≤ w'.heap.size → w'.ownsRow (w0.heap.size + 3) tStr 1 (slV v) p.ns.length (p.ns.map fun n => strV (nmS s n)) →
      ∀ {Q' : Nat → List Value → World → Prop}, (∀ vs w'', Q 0 vs w'' → Q' 0 vs w'') → sat Tryz.prog (.loop 1 (.cons (.int .i64) .nil) [(Value.int IntKind.i64 (0 : Int))] (fun z => spec_Tree.t5 s ⟨w0.heap.size, 0, none⟩ ⟨w0.heap.size + 1, 0, none⟩ ⟨w0.heap.size + 2, 0, none⟩ z.1)) Q' w') :
    sat Tryz.prog (spec_Tree.t3 s ⟨w0.heap.size, 0, none⟩ ⟨w0.heap.size + 1, 0, none⟩ ⟨w0.heap.size + 2, 0, none⟩) Q w := by
  have hlen := (wf_len hw).2
  have hr := (Lj.PlAt.inv hp).1
  unfold spec_Tree.t3
  refine s_loop (fun m z w' => ∃ (i : Nat) (v : Sl), m = p.ns.length - i ∧ z = ((i : Int), ()) ∧ i ≤ p.ns.length ∧ TS w0 w' p na ka T v (none, 0, 0) ∧ w0.heap.size + 3 ≤ w'.heap.size ∧ w'.ownsRow (w0.heap.size + 3) tStr 1 (slV v) i ((p.ns.take i).map fun n => strV (nmS s n))) p.ns.length ((0 : Int), ()) rfl
    ⟨0, (none, 0, 0), rfl, rfl, Nat.zero_le _, h, hsz, World.ownsRow_nil _ _ _ _⟩ ?_
  rintro m z w1 ⟨i, v, rfl, rfl, hi, hS, hz1, hO⟩
  show sat _ (spec_Tree.t4 s ⟨w0.heap.size, 0, none⟩ ⟨w0.heap.size + 1, 0, none⟩ ⟨w0.heap.size + 2, 0, none⟩ (i : Int)) _ _
  unfold spec_Tree.t4
  have hl0 := hr.1
  refine s_load na (by rw [addr_add, Nat.zero_add, hS.z0.cell]; rfl) (s_iteD (fun hlt => s_drew ?_) (fun hge => ?_))
  · have hin : i < p.ns.length := by omega
    have hn : p.ns[i]? = some p.ns[i] := List.getElem?_eq_getElem hin
    have hok := wf_names hw _ (List.getElem_mem hin)
    have hsl := strE_le hok
    generalize hni : p.ns[i] = n at hn hok hsl
    have kd : Kp Off w1 w1.drew := (Kp.refl Off w1).drew
    have hS2 := hS.off kd
    have hO2 := owns_kp hO kd fun q _ c => c
    have hz2 := kd.size
    generalize w1.drew = w2 at kd hS2 hO2 hz2
    obtain ⟨l1, l2, l3⟩ := Lj.RowIn.any hr hS2.keep
    rcases l3 with l3 | ⟨gr, a1, _, _, a4⟩
    · omega
    obtain ⟨c1, c2⟩ := span_get p.ns i n hn
    refine s_load v (by rw [addr_add, Nat.zero_add, hS2.z3.cell]; rfl) ?_
    refine s_load na (by rw [addr_add, Nat.zero_add, hS2.z0.cell]; rfl) (s_chk ⟨by omega, by omega⟩ ⟨_, a1, ?_⟩)
    refine s_load (n.1 : Int) (by rw [addr_add, addr_add, Int.toNat_natCast, Nat.zero_add, Nat.add_zero]; exact a4 _ _ c1) ?_
    refine s_load na (by rw [addr_add, Nat.zero_add, hS2.z0.cell]; rfl) (s_chk ⟨by omega, by omega⟩ ⟨_, a1, ?_⟩)
    refine s_load (n.2 : Int) (by rw [addr_add, addr_add, Int.toNat_natCast, Nat.zero_add]; exact a4 _ _ c2) ?_
    refine s_chk ⟨by omega, by omega, by omega⟩ (s_hereN ?_)
    rw [Int.toNat_natCast, Int.toNat_natCast]
    refine s_call (name_any hs hok) ?_
    rintro e w3 ⟨rfl, k3⟩
    refine ⟨nmS s n, rfl, k3.belowOff, ?_⟩
    have hS3 := hS2.off k3
    have hO3 := owns_kp hO2 k3 fun q _ c => c
    have hz3 := k3.size
    refine s_push (z0 := .string (ByteArray.mk #[])) (size := 1) Tryz.underlying23 (info_some (by kernel_rfl)) (by kernel_rfl) (by kernel_rfl) (of_decide_eq_true (by kernel_rfl)) rfl (by decide) (by decide) hO3 (.string (nmS s n)) [strV (nmS s n)] rfl rfl
      (by intro u hu; simp [strV] at hu; subst hu; rfl) (by omega) (by omega) fun v' w4 hO4 k4 hnew => ?_
    have own_ge : ∀ q, some q = (slV v).ownBlock → w0.heap.size + 3 ≤ q := fun q hq => (hO3.lt q hq.symm).1
    have hS4 := hS3.kp k4 own_ge
    have hz4 := k4.size
    refine s_store (u := slV v) (by rw [addr_add, Nat.zero_add, hS4.z3.cell]; rfl) (by rw [addr_add]; exact hS4.z3.free _) (s_leaf ?_)
    rw [if_pos rfl]
    have w1' : IntKind.wrap IntKind.i64 ((i : Int) + 1) = ((i + 1 : Nat) : Int) := by rw [wrap_in (by omega) (by omega)]; omega
    rw [w1']
    have ea : (Addr.add ⟨w0.heap.size + 2, 0, none⟩ 2 : Addr) = ⟨w0.heap.size + 2, 2, none⟩ := by rw [addr_add, Nat.zero_add]
    rw [ea]
    have kz : Kp (On (w0.heap.size + 2)) w4 (w4.setCell ⟨w0.heap.size + 2, 2, none⟩ (slV v')) := (Kp.refl _ w4).on 2 _
    refine ⟨p.ns.length - (i + 1), (((i + 1 : Nat) : Int), ()), rfl, by omega, i + 1, v', rfl, rfl, hin, hS4.setK, Nat.le_trans (by omega : w0.heap.size + 3 ≤ w4.heap.size) kz.size, ?_⟩
    have e1 : (p.ns.take (i + 1)).map (fun n => strV (nmS s n)) = (p.ns.take i).map (fun n => strV (nmS s n)) ++ [strV (nmS s n)] := by
      rw [List.take_add_one, hn]; simp
    rw [e1]
    refine owns_kp hO4 kz fun q hq c => ?_
    have c : q = w0.heap.size + 2 := c
    rcases hnew q hq with g | g
    · have := own_ge q g; omega
    · omega
  · have ei : i = p.ns.length := by omega
    subst ei
    rw [List.take_length] at hO
    exact hK v w1 hS hz1 hO fun vs w'' g => by rw [if_neg (by decide)]; exact g
/-- The members or elements. -/
theorem t5_tree {Q : Nat → List Value → World → Prop} {T : ByteArray} {v : Sl} {ys : List Value} (hw : WfV s p) (hp : PlAt B w0 p (pc p.k p.b p.e na ka)) (h : TS w0 w p na ka T v (none, 0, 0)) (hsz : w0.heap.size + 3 ≤ w.heap.size) (hs : s.size ≤ 4000000)
    (hO : w.ownsRow (w0.heap.size + 3) tStr 1 (slV v) p.ns.length ys)
    (hkid : ∀ (i : Nat) (c : PT), p.ks[i]? = some c → ∀ (w : World) (B : Nat → Prop) (na ka : Sl), PlAt B w c (pc c.k c.b c.e na ka) → Calls Tryz.prog 26 #[.string s, .agg (pc c.k c.b c.e na ka).toArray] w (NdPost w (treeN s c)))
    (hQ : ∀ (u : Sl) (xs : List Value) (w' : World), Kp Off w0 w' → RowIn (fun q => w0.heap.size ≤ q) w' v p.ns.length ys 1 → RowIn (fun q => w0.heap.size ≤ q) w' u p.ks.length xs 4 → AllN (fun q => w0.heap.size ≤ q) w' (treeL s p.ks) xs → Q 0 [.agg (nc p.k T v u).toArray] w') :
    sat Tryz.prog (.loop 1 (.cons (.int .i64) .nil) [(Value.int IntKind.i64 (0 : Int))] (fun z => spec_Tree.t5 s ⟨w0.heap.size, 0, none⟩ ⟨w0.heap.size + 1, 0, none⟩ ⟨w0.heap.size + 2, 0, none⟩ z.1)) Q w := by
  have hlen := (wf_len hw).1
  obtain ⟨_, xs0, hr, hall⟩ := Lj.PlAt.inv hp
  have hRv : RowIn (fun q => w0.heap.size + 3 ≤ q ∧ some q ≠ (slV (none, 0, 0)).ownBlock) w v p.ns.length ys 1 := RowIn.own hO fun q _ hq => ⟨hq, by intro c; cases c⟩
  clear hO
  refine s_loop (fun m z w' => ∃ (i : Nat) (u : Sl) (xs : List Value), m = p.ks.length - i ∧ z = ((i : Int), ()) ∧ i ≤ p.ks.length ∧ TS w0 w' p na ka T v u ∧ w0.heap.size + 3 ≤ w'.heap.size ∧ w'.ownsRow (w0.heap.size + 3) tN 4 (slV u) i xs ∧ AllN (fun q => w0.heap.size + 3 ≤ q ∧ some q ≠ (slV u).ownBlock) w' (treeL s (p.ks.take i)) xs ∧ RowIn (fun q => w0.heap.size + 3 ≤ q ∧ some q ≠ (slV u).ownBlock) w' v p.ns.length ys 1) p.ks.length ((0 : Int), ()) rfl
    ⟨0, (none, 0, 0), [], rfl, rfl, Nat.zero_le _, h, hsz, World.ownsRow_nil _ _ _ _, by rw [List.take_zero, show treeL s [] = [] by simp only [treeL]]; exact AllN.nil, hRv⟩ ?_
  clear hRv h hsz
  rintro m z w1 ⟨i, u, xs, rfl, rfl, hi, hS, hz1, hO, hA, hRv⟩
  show sat _ (spec_Tree.t5 s ⟨w0.heap.size, 0, none⟩ ⟨w0.heap.size + 1, 0, none⟩ ⟨w0.heap.size + 2, 0, none⟩ (i : Int)) _ _
  unfold spec_Tree.t5
  have hl0 := hr.1
  refine s_load ka (by rw [addr_add, Nat.zero_add, hS.z0.cell]; rfl) (s_iteD (fun hlt => s_drew ?_) (fun hge => ?_))
  · have hin : i < p.ks.length := by omega
    have hc : p.ks[i]? = some p.ks[i] := List.getElem?_eq_getElem hin
    generalize hci : p.ks[i] = c at hc
    have kd : Kp Off w1 w1.drew := (Kp.refl Off w1).drew
    have hS2 := hS.off kd
    have hO2 := owns_kp hO kd fun q _ c => c
    have hA2 := hA.kp (B' := fun q => w0.heap.size + 3 ≤ q ∧ some q ≠ (slV u).ownBlock) kd fun q _ h => ⟨h, id⟩
    have hRv2 := hRv.kp (B' := fun q => w0.heap.size + 3 ≤ q ∧ some q ≠ (slV u).ownBlock) kd fun q _ h => ⟨h, id⟩
    have hz2 := kd.size
    clear hS hO hA hRv
    generalize w1.drew = w2 at kd hS2 hO2 hA2 hRv2 hz2
    obtain ⟨l1, l2, l3⟩ := Lj.RowIn.any hr hS2.keep
    rcases l3 with l3 | ⟨gr, a1, _, a3, a4⟩
    · omega
    obtain ⟨na', ka', hpc, hcs⟩ := all_get p.ks xs0 i c hall hc
    refine s_load u (by rw [addr_add, Nat.zero_add, hS2.z3.cell]; rfl) ?_
    refine s_load ka (by rw [addr_add, Nat.zero_add, hS2.z0.cell]; rfl) (s_chk ⟨by omega, by omega⟩ ⟨_, a1, ?_⟩)
    have hcell : ∀ (w'' : World), RowKit.Below w2.heap.size w2 w'' → ∀ j, j < 5 → w''.cell? ⟨gr, 0 + i * 5 + j, none⟩ = (pc c.k c.b c.e na' ka')[j]? := by
      intro w'' hw'' j hj
      have h1 := hcs j hj
      have h2 : ∃ x, (pc c.k c.b c.e na' ka')[j]? = some x := ⟨_, List.getElem?_eq_getElem (by rw [Sr.pc_len]; exact hj)⟩
      obtain ⟨x, hx⟩ := h2
      rw [hx] at h1 ⊢
      have h3 := a4 _ _ h1
      rw [Nat.zero_add, (Kp.of_below (S := Off) hw'').cell (a := ⟨gr, i * 5 + j, none⟩) a3 id]
      exact h3
    refine ⟨((c.k : Int), (c.b : Int), (c.e : Int), na', ka', ()), fun w'' hw'' => ?_, ?_⟩
    · rw [addr_add, Int.toNat_natCast]
      exact place_run (hcell w'' hw'')
    refine s_hereN ?_
    have hcall := hkid i c hc w2 (fun _ => True) na' ka' (Lj.PlAt.any hpc hS2.keep)
    refine s_call hcall ?_
    rintro e w3 ⟨a', b', rfl, hN, k3⟩
    refine ⟨(((treeN s c).k : Int), (treeN s c).t, a', b', ()), rfl, k3.belowOff, ?_⟩
    have hS3 := hS2.off k3
    have hO3 := owns_kp hO2 k3 fun q _ c => c
    have hA3 := hA2.kp (B' := fun q => w0.heap.size + 3 ≤ q ∧ some q ≠ (slV u).ownBlock) k3 fun q _ h => ⟨h, id⟩
    have hRv3 := hRv2.kp (B' := fun q => w0.heap.size + 3 ≤ q ∧ some q ≠ (slV u).ownBlock) k3 fun q _ h => ⟨h, id⟩
    have hz3 := k3.size
    have own_ge : ∀ q, some q = (slV u).ownBlock → w0.heap.size + 3 ≤ q ∧ q < w2.heap.size := fun q hq => hO2.lt q hq.symm
    have hN3 : NdAt (fun q => w0.heap.size + 3 ≤ q ∧ some q ≠ (slV u).ownBlock) w3 (treeN s c) (nc (treeN s c).k (treeN s c).t a' b') :=
      hN.kp (Kp.refl Off w3) fun q _ h => ⟨⟨by omega, fun e => by have := (own_ge q e).2; omega⟩, id⟩
    refine s_push (z0 := .agg zn.toArray) (size := 4) Tryz.underlying24 (info_some (by kernel_rfl)) (by kernel_rfl) (by kernel_rfl) (of_decide_eq_true (by kernel_rfl)) rfl (by decide) (by decide) hO3 (.agg (nc (treeN s c).k (treeN s c).t a' b').toArray) (nc (treeN s c).k (treeN s c).t a' b') rfl rfl
      (nc_oneC _ _ _ _) (by omega) (by omega) fun u' w4 hO4 k4 hnew => ?_
    have hS4 := hS3.kp k4 fun q hq => (own_ge q hq).1
    have hz4 := k4.size
    have mv : ∀ q, q < w3.heap.size → (w0.heap.size + 3 ≤ q ∧ some q ≠ (slV u).ownBlock) → (w0.heap.size + 3 ≤ q ∧ some q ≠ (slV u').ownBlock) ∧ ¬ (some q = (slV u).ownBlock) := fun q hq h =>
      ⟨⟨h.1, fun e => by
        rcases hnew q e with h' | h'
        · exact h.2 h'
        · omega⟩, h.2⟩
    have hA4 := (AllN.snoc hN3 _ _ hA3).kp k4 mv
    have hRv4 := hRv3.kp k4 mv
    refine s_store (u := slV u) (by rw [addr_add, Nat.zero_add, hS4.z3.cell]; rfl) (by rw [addr_add]; exact hS4.z3.free _) (s_leaf ?_)
    rw [if_pos rfl]
    have w1' : IntKind.wrap IntKind.i64 ((i : Int) + 1) = ((i + 1 : Nat) : Int) := by rw [wrap_in (by omega) (by omega)]; omega
    rw [w1']
    have ea : (Addr.add ⟨w0.heap.size + 2, 0, none⟩ 3 : Addr) = ⟨w0.heap.size + 2, 3, none⟩ := by rw [addr_add, Nat.zero_add]
    rw [ea]
    have kz : Kp (On (w0.heap.size + 2)) w4 (w4.setCell ⟨w0.heap.size + 2, 3, none⟩ (slV u')) := (Kp.refl _ w4).on 3 _
    refine ⟨p.ks.length - (i + 1), (((i + 1 : Nat) : Int), ()), rfl, by omega, i + 1, u', _, rfl, rfl, hin, hS4.setN, Nat.le_trans (by omega : w0.heap.size + 3 ≤ w4.heap.size) kz.size, owns_kp hO4 kz fun q hq c => ?_, ?_, ?_⟩
    · have c : q = w0.heap.size + 2 := c
      rcases hnew q hq with g | g
      · have := (own_ge q g).1; omega
      · omega
    · rw [treeL_take s hc]
      exact hA4.kp kz fun q _ h => ⟨h, fun c => by have c : q = w0.heap.size + 2 := c; omega⟩
    · exact hRv4.kp kz fun q _ h => ⟨h, fun c => by have c : q = w0.heap.size + 2 := c; omega⟩
  · have ei : i = p.ks.length := by omega
    subst ei
    rw [List.take_length] at hA
    refine s_eff (w' := w1) ((p.k : Int), T, v, u, ()) (loadN hS.z3) ?_
    obtain ⟨w2, h2, c2, k2⟩ := storeN hS.z1 rfl p.k T v u
    refine s_effU h2 (s_effS ((p.k : Int), T, v, u, ()) (loadN c2) (s_leaf ?_))
    rw [if_neg (by decide)]
    have hge : ∀ q, q < w1.heap.size → (w0.heap.size + 3 ≤ q ∧ some q ≠ (slV u).ownBlock) → (w0.heap.size ≤ q) ∧ ¬ On (w0.heap.size + 1) q := fun q _ h => ⟨by omega, fun c => by have c : q = w0.heap.size + 1 := c; omega⟩
    have hRu : RowIn (fun q => w0.heap.size + 3 ≤ q) w1 u p.ks.length xs 4 := RowIn.own hO fun q _ hq => hq
    refine hQ u xs w2 (hS.keep.then k2 fun q hq c => by have c : q = w0.heap.size + 1 := c; omega) (hRv.kp k2 hge) (hRu.kp k2 fun q _ h => ⟨by omega, fun c => by have c : q = w0.heap.size + 1 := c; omega⟩) (hA.kp k2 hge)
theorem tree_any (hs : s.size ≤ 4000000) : ∀ (N : Nat) (p : PT) (w : World) (B : Nat → Prop) (na ka : Sl), p.e - p.b < N → WfV s p → PlAt B w p (pc p.k p.b p.e na ka) → Calls Tryz.prog 26 #[.string s, .agg (pc p.k p.b p.e na ka).toArray] w (NdPost w (treeN s p))
  | 0, p, w, B, na, ka, hN, _, _ => absurd hN (Nat.not_lt_zero _)
  | N + 1, p, w, B, na, ka, hN, hw, hp => by
    have hpl := hw.lt
    refine spec_Tree.calls _ _ _ _ _ _ _ _ _ _ ?_
    unfold spec_Tree.t
    refine s_alloc ?_
    have b0 := Blk.new w (pc p.k p.b p.e na ka) tP
    have k0 : Kp Off w (w.alloc (.cells (pc p.k p.b p.e na ka).toArray tP (0, 0))) := (Kp.refl Off w).alloc _
    have z0 : (w.alloc (.cells (pc p.k p.b p.e na ka).toArray tP (0, 0))).heap.size = w.heap.size + 1 := by simp
    show sat _ _ _ (w.alloc (.cells (pc p.k p.b p.e na ka).toArray tP (0, 0)))
    generalize w.alloc (.cells (pc p.k p.b p.e na ka).toArray tP (0, 0)) = w1 at k0 b0 z0
    refine s_alloc ?_
    have b1 := Blk.new w1 zn tN
    have k1 : Kp Off w1 (w1.alloc (.cells zn.toArray tN (0, 0))) := (Kp.refl Off w1).alloc _
    have z1 : (w1.alloc (.cells zn.toArray tN (0, 0))).heap.size = w.heap.size + 2 := by simp [z0]
    show sat _ _ _ (w1.alloc (.cells zn.toArray tN (0, 0)))
    generalize w1.alloc (.cells zn.toArray tN (0, 0)) = w2 at k1 b1 z1
    rw [z0] at b1 ⊢
    have b02 := k1.blk b0 id
    refine s_load (p.k : Int) (by rw [addr_add, Nat.zero_add, b02.cell]; rfl) (s_alloc ?_)
    have b3 := Blk.new w2 zn tN
    have k3 : Kp Off w2 (w2.alloc (.cells zn.toArray tN (0, 0))) := (Kp.refl Off w2).alloc _
    have z3 : (w2.alloc (.cells zn.toArray tN (0, 0))).heap.size = w.heap.size + 3 := by simp [z1]
    show sat _ _ _ (w2.alloc (.cells zn.toArray tN (0, 0)))
    generalize w2.alloc (.cells zn.toArray tN (0, 0)) = w3 at k3 b3 z3
    rw [z1] at b3 ⊢
    obtain ⟨w4, h4, c4, k4⟩ := storeN b3 rfl p.k (ByteArray.mk #[]) (none, 0, 0) (none, 0, 0)
    refine s_effU h4 ?_
    have hS : TS w w4 p na ka (ByteArray.mk #[]) (none, 0, 0) (none, 0, 0) :=
      ⟨k4.blk (k3.blk b02 id) (fun c => by have c : w.heap.size = w.heap.size + 2 := c; omega), k4.blk (k3.blk b1 id) (fun c => by have c : w.heap.size + 1 = w.heap.size + 2 := c; omega), c4, ((k0.trans k1).trans k3).then k4 fun q hq c => by have c : q = w.heap.size + 2 := c; omega⟩
    have hz4 := k4.size
    refine s_load (p.k : Int) (by rw [addr_add, Nat.zero_add, hS.z0.cell]; rfl) ?_
    have ea : (Addr.add ⟨w.heap.size + 2, 0, none⟩ 1 : Addr) = ⟨w.heap.size + 2, 1, none⟩ := by rw [addr_add, Nat.zero_add]
    have eT := treeN_t s p
    refine s_cut (fun _ w' => TS w w' p na ka (treeN s p).t (none, 0, 0) (none, 0, 0) ∧ w.heap.size + 3 ≤ w'.heap.size) ?_ ?_
    · refine s_cut (fun _ w' => TS w w' p na ka (treeN s p).t (none, 0, 0) (none, 0, 0) ∧ w.heap.size + 3 ≤ w'.heap.size) (s_iteE (fun g3 => ?_) (fun g3 => ?_)) ?_
      · have g3 : p.k = 3 := by omega
        refine s_load (p.b : Int) (by rw [addr_add, Nat.zero_add, hS.z0.cell]; rfl) (s_load (p.e : Int) (by rw [addr_add, Nat.zero_add, hS.z0.cell]; rfl) (s_chk ⟨by omega, by omega, by omega⟩ ?_))
        rw [Int.toNat_natCast, Int.toNat_natCast, ea]
        refine s_store (u := .string (ByteArray.mk #[])) (by rw [hS.z3.cell]; rfl) (hS.z3.free _) (s_leaf ?_)
        rw [if_pos rfl]
        refine ⟨(), rfl, ?_, ?_⟩
        · rw [eT, if_pos g3]; exact hS.setT
        · have kz : Kp (On (w.heap.size + 2)) w4 (w4.setCell ⟨w.heap.size + 2, 1, none⟩ (.string (s.extract p.b p.e))) := (Kp.refl _ w4).on 1 _
          exact Nat.le_trans (by omega : w.heap.size + 3 ≤ w4.heap.size) kz.size
      · refine s_cut (fun _ w' => TS w w' p na ka (treeN s p).t (none, 0, 0) (none, 0, 0) ∧ w.heap.size + 3 ≤ w'.heap.size) (s_iteE (fun g4 => ?_) (fun g4 => s_leaf ?_)) ?_
        · have g4 : p.k = 4 := by omega
          refine s_load (p.b : Int) (by rw [addr_add, Nat.zero_add, hS.z0.cell]; rfl) (s_load (p.e : Int) (by rw [addr_add, Nat.zero_add, hS.z0.cell]; rfl) (s_chk ⟨by omega, by omega, by omega⟩ ?_))
          rw [Int.toNat_natCast, Int.toNat_natCast, ea]
          refine s_call (name_any (n := (p.b, p.e)) hs (str_ok hw g4)) ?_
          rintro e w5 ⟨rfl, k5⟩
          have hS5 := hS.off k5
          have hz5 := k5.size
          refine ⟨nmS s (p.b, p.e), rfl, s_store (u := .string (ByteArray.mk #[])) (by rw [hS5.z3.cell]; rfl) (hS5.z3.free _) (s_leaf ?_)⟩
          rw [if_pos rfl]
          refine ⟨(), rfl, ?_, ?_⟩
          · rw [eT, if_neg (by omega), if_pos g4]; exact hS5.setT
          · have kz : Kp (On (w.heap.size + 2)) w5 (w5.setCell ⟨w.heap.size + 2, 1, none⟩ (.string (nmS s (p.b, p.e)))) := (Kp.refl _ w5).on 1 _
            exact Nat.le_trans (by omega : w.heap.size + 3 ≤ w5.heap.size) kz.size
        · rw [if_pos rfl]
          have g3 : p.k ≠ 3 := fun c => g3 (by omega)
          have g4 : p.k ≠ 4 := fun c => g4 (by omega)
          refine ⟨(), rfl, ?_, by omega⟩
          rw [eT, if_neg g3, if_neg g4]; exact hS
        · rintro _ w' ⟨hS', hz'⟩
          show sat _ spec_Tree.t1 _ _
          unfold spec_Tree.t1
          refine s_leaf ?_
          rw [if_pos rfl]
          exact ⟨(), rfl, hS', hz'⟩
      · rintro _ w' ⟨hS', hz'⟩
        show sat _ spec_Tree.t2 _ _
        unfold spec_Tree.t2
        refine s_leaf ?_
        rw [if_pos rfl]
        exact ⟨(), rfl, hS', hz'⟩
    rintro _ w5 ⟨hS5, hz5⟩
    refine t3_tree hs hw hp hS5 hz5 fun v w6 hS6 hz6 hO6 Q' hQ' => ?_
    refine t5_tree hw hp hS6 hz6 hs hO6 (fun i c hc w B na ka hpc => ?_) (fun u xs w' kk h1 h2 h3 => hQ' _ _ ?_)
    · obtain ⟨c1, c2, c3⟩ := kid_in hw hc
      have := c1.lt
      exact tree_any hs N c w B na ka (by omega) c1 hpc
    · refine ⟨rfl, v, u, ?_, ?_, kk⟩
      · rw [treeN_k]; rfl
      · have e1 : treeN s p = .mk p.k (treeN s p).t (p.ns.map (nmS s)) (treeL s p.ks) := by
          cases p; simp only [treeN]; rfl
        rw [treeN_k]
        have h1' : RowIn (fun q => w.heap.size ≤ q) w' v (p.ns.map (nmS s)).length ((p.ns.map (nmS s)).map strV) 1 := by
          rw [List.length_map, List.map_map]; exact h1
        have h2' : RowIn (fun q => w.heap.size ≤ q) w' u (treeL s p.ks).length xs 4 := by rw [treeL_len]; exact h2
        have := NdAt.mk' (k := p.k) (t := (treeN s p).t) h1' h2' h3
        rw [← e1] at this
        exact this
end Go.Proofs.YtkpnomdmnhhaoaaGreatDoor.Nt
namespace Go.Proofs.YtkpnomdmnhhaoaaGreatDoor.Nt
open Go Go.Proofs Go.RowKit Go.Proofs.YtkpnomdmnhhaoaaGreatDoor.Rx Go.Proofs.YtkpnomdmnhhaoaaGreatDoor.Tr Go.Proofs.YtkpnomdmnhhaoaaGreatDoor.Pl Go.Proofs.YtkpnomdmnhhaoaaGreatDoor.Pw
open Go.Proofs.YtkpnomdmnhhaoaaGreatDoor.Sr (Sl slV RowIn tP pc storeP loadP zp PlAt AllAt spanC places places_any PlPost p_no)
open Go.Proofs.YtkpnomdmnhhaoaaGreatDoor.Ka (nmS)
open Go.Proofs.YtkpnomdmnhhaoaaGreatDoor.Lj (Any wf_len)
variable {w w' : World} {s : ByteArray} {B : Nat → Prop}
/-- Read. -/
theorem read_any (hs : s.size ≤ 4000000) : Calls Tryz.prog 14 #[.string s] w fun e w' => ∃ (nt : NT) (a b : Sl), e = .returned (.tuple #[.agg (nc nt.k nt.t a b).toArray, .bool (places s).isSome]) ∧
    NdAt (fun q => w.heap.size ≤ q) w' nt (nc nt.k nt.t a b) ∧ (∀ p, places s = some p → nt = treeN s p) ∧ (places s = none → nt = .mk 0 (ByteArray.mk #[]) [] []) ∧ Kp Off w w' := by
  refine spec_Read.calls _ ?_
  unfold spec_Read.t
  refine s_alloc ?_
  have b0 := Blk.new w zn tN
  have k0 : Kp Off w (w.alloc (.cells zn.toArray tN (0, 0))) := (Kp.refl Off w).alloc _
  have z0 : (w.alloc (.cells zn.toArray tN (0, 0))).heap.size = w.heap.size + 1 := by simp
  show sat _ _ _ (w.alloc (.cells zn.toArray tN (0, 0)))
  generalize w.alloc (.cells zn.toArray tN (0, 0)) = w1 at k0 b0 z0
  refine s_call (places_any (by omega)) ?_
  rintro e w2 ⟨k, b, e1, na, ka, rfl, k2, hp⟩
  refine ⟨((k, b, e1, na, ka, ()), (places s).isSome, ()), rfl, s_alloc ?_⟩
  obtain ⟨w3, h3, c3, k3⟩ := storeP (Blk.new w2 zp tP) rfl k b e1 na ka
  refine s_effU h3 ?_
  have kc : Kp Off w2 w3 := (((Kp.refl (fun q => q = w2.heap.size) w2).alloc _).trans (k3.mono fun q _ h => h)).mono fun q hq h => by omega
  have b03 := kc.blk (k2.blk b0 id) id
  have K3 := (k0.trans k2).trans kc
  cases hpl : places s with
  | none =>
    refine sat_iteT.2 ?_
    obtain ⟨w4, h4, c4, k4⟩ := storeN b03 rfl 0 (ByteArray.mk #[]) (none, 0, 0) (none, 0, 0)
    refine s_effU h4 (s_effS ((0 : Int), (ByteArray.mk #[]), (none, 0, 0), (none, 0, 0), ()) (loadN c4) (s_leaf ⟨rfl, .mk 0 (ByteArray.mk #[]) [] [], (none, 0, 0), (none, 0, 0), rfl, NdAt.mk' (keys := []) (kids := []) (xs := []) Sr.RowIn.nil Sr.RowIn.nil AllN.nil, fun p h => by (cases h), fun _ => rfl, K3.then k4 fun q hq e => by have : q = w.heap.size := e; omega⟩))
  | some p =>
    have hpp := hp p hpl
    obtain ⟨_, hwf, _⟩ := Lj.places_of hpl
    obtain ⟨e1', e2', e3'⟩ : k = p.k ∧ b = p.b ∧ e1 = p.e := by
      obtain ⟨k', b', f', ns', ks'⟩ := p
      unfold PlAt at hpp
      obtain ⟨na', ka', xs, g1, _⟩ := hpp
      unfold pc at g1
      simp only [List.cons.injEq, Value.int.injEq, true_and] at g1
      exact ⟨g1.1, g1.2.1, g1.2.2.1⟩
    subst e1'; subst e2'; subst e3'
    refine sat_iteF.2 (s_eff ((p.k : Int), (p.b : Int), (p.e : Int), na, ka, ()) (loadP c3) ?_)
    have hp3 : PlAt Any w3 p (pc p.k p.b p.e na ka) := Lj.PlAt.any hpp kc
    refine s_call (tree_any hs (p.e - p.b + 1) p w3 Any na ka (Nat.lt_succ_self _) hwf hp3) ?_
    rintro e w4 ⟨a, b, rfl, hN, k4⟩
    refine ⟨(((treeN s p).k : Int), (treeN s p).t, a, b, ()), rfl, ?_⟩
    have b04 := k4.blk b03 id
    obtain ⟨w5, h5, c5, k5⟩ := storeN b04 rfl (treeN s p).k (treeN s p).t a b
    have hsz := K3.size
    have hsz1 := k2.size
    have hsz3 := kc.size
    refine s_effU h5 (s_effS (((treeN s p).k : Int), (treeN s p).t, a, b, ()) (loadN c5) (s_leaf ⟨rfl, treeN s p, a, b, rfl, ?_, fun p' h => by cases h; rfl, fun h => by (cases h), (K3.trans k4).then k5 fun q hq e => by have : q = w.heap.size := e; omega⟩))
    exact hN.kp k5 fun q _ h => ⟨by omega, fun c => by have c : q = w.heap.size := c; omega⟩

mutual
/-- No row is long. -/
def Sm : NT → Prop
  | .mk _ _ keys kids => keys.length ≤ 100000 ∧ kids.length ≤ 100000 ∧ SmL kids
def SmL : List NT → Prop
  | [] => True
  | n :: l => Sm n ∧ SmL l
end
theorem Sm.inv {n : NT} (h : Sm n) : n.keys.length ≤ 100000 ∧ n.kids.length ≤ 100000 ∧ SmL n.kids := by cases n; unfold Sm at h; exact h
theorem SmL.get : ∀ {l : List NT} {i : Nat} {n : NT}, SmL l → l[i]? = some n → Sm n
  | [], _, _, _, h => by simp at h
  | m :: l, 0, n, h, hi => by
    simp only [List.getElem?_cons_zero, Option.some.injEq] at hi
    subst hi
    unfold SmL at h; exact h.1
  | m :: l, i + 1, n, h, hi => by
    unfold SmL at h
    exact SmL.get h.2 (by simpa using hi)
theorem smL_of {s : ByteArray} : ∀ (ks : List PT), (∀ c ∈ ks, Sm (treeN s c)) → SmL (treeL s ks)
  | [], _ => by simp only [treeL, SmL]
  | c :: ks, h => by
    simp only [treeL, SmL]
    exact ⟨h c (List.mem_cons_self ..), smL_of ks fun c' hc => h c' (List.mem_cons_of_mem _ hc)⟩
theorem sm_tree {s : ByteArray} (hs : s.size ≤ 100000) : ∀ (N : Nat) (p : PT), p.e - p.b < N → WfV s p → Sm (treeN s p)
  | 0, p, h, _ => absurd h (Nat.not_lt_zero _)
  | N + 1, p, h, hw => by
    have hl := wf_len hw
    have e1 : treeN s p = .mk p.k (treeN s p).t (p.ns.map (nmS s)) (treeL s p.ks) := by
      cases p; simp only [treeN]; rfl
    rw [e1]
    unfold Sm
    refine ⟨by rw [List.length_map]; omega, by rw [treeL_len]; omega, smL_of _ fun c hc => ?_⟩
    obtain ⟨i, hi⟩ := List.mem_iff_getElem?.1 hc
    obtain ⟨c1, c2, c3⟩ := kid_in hw hi
    have := c1.lt
    exact sm_tree hs N c (by omega) c1
theorem size_kid {n c : NT} {i : Nat} (h : n.kids[i]? = some c) : SizeOf.sizeOf c < SizeOf.sizeOf n := by
  cases n with
  | mk k t keys kids =>
    have h : kids[i]? = some c := h
    have := List.sizeOf_lt_of_mem (List.mem_of_getElem? h)
    simp only [NT.mk.sizeOf_spec]
    omega
end Go.Proofs.YtkpnomdmnhhaoaaGreatDoor.Nt
