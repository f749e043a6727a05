/- Worlds that differ in few blocks; what the trees' steps come to. No statement of the set is proved here. -/
import Derived.Test.YtkpnomdmnhhaoaaGreatDoorRz
import Derived.Lib.ConvBytes
namespace Go.Proofs.YtkpnomdmnhhaoaaGreatDoor.Rx
open Go Go.RowKit

/-- What was there before is there, but for the blocks of 'S'. -/
structure Kp (S : Nat → Prop) (w w' : World) : Prop where
  os : w'.os = w.os
  tape : w'.tape = w.tape
  output : w'.output = w.output
  size : w.heap.size ≤ w'.heap.size
  block : ∀ k, k < w.heap.size → ¬ S k → w'.heap[k]? = w.heap[k]?
variable {S S' : Nat → Prop} {w w' w'' : World}
theorem Kp.refl (S : Nat → Prop) (w : World) : Kp S w w := ⟨rfl, rfl, rfl, Nat.le_refl _, fun _ _ _ => rfl⟩
theorem Kp.trans (h : Kp S w w') (k : Kp S w' w'') : Kp S w w'' :=
  ⟨k.os.trans h.os, k.tape.trans h.tape, k.output.trans h.output, Nat.le_trans h.size k.size, fun i hi hs => (k.block i (Nat.lt_of_lt_of_le hi h.size) hs).trans (h.block i hi hs)⟩
theorem Kp.mono (h : Kp S w w') (hs : ∀ k, k < w.heap.size → S k → S' k) : Kp S' w w' := ⟨h.os, h.tape, h.output, h.size, fun k hk hn => h.block k hk fun c => hn (hs k hk c)⟩
theorem Kp.drew (h : Kp S w w') : Kp S w w'.drew := ⟨h.os, h.tape, h.output, h.size, h.block⟩
theorem Kp.set (h : Kp S w w') {a : Addr} (ha : S a.block) (u : Value) : Kp S w (w'.setCell a u) :=
  h.trans ⟨rfl, rfl, rfl, by simp [World.setCell], fun k _ hn => Below.heap_setCell _ _ _ _ (fun e => hn (e ▸ ha))⟩
theorem Kp.setNew (h : Kp S w w') {a : Addr} (ha : w.heap.size ≤ a.block) (u : Value) : Kp S w (w'.setCell a u) :=
  ⟨h.os, h.tape, h.output, by simpa [World.setCell] using h.size, fun k hk hn => by rw [Below.heap_setCell _ _ _ _ (by omega)]; exact h.block k hk hn⟩
theorem Kp.alloc (h : Kp S w w') (o : Obj) : Kp S w (w'.alloc o) :=
  h.trans ⟨rfl, rfl, rfl, by simp, fun k hk _ => Below.heap_alloc _ _ _ hk⟩
theorem Kp.below (h : Kp (fun _ => False) w w') : Below w.heap.size w w' := ⟨h.os, h.tape, h.output, h.size, fun k hk => h.block k hk id⟩
theorem Kp.of_below (h : Below w.heap.size w w') : Kp S w w' := ⟨h.os, h.tape, h.output, h.size, fun k hk _ => h.block k hk⟩
theorem Kp.cell (h : Kp S w w') {a : Addr} (hl : a.block < w.heap.size) (hn : ¬ S a.block) : w'.cell? a = w.cell? a := World.cell?_of_block (w := w) (h.block _ hl hn)

/-- Block g alone. -/
def On (g : Nat) : Nat → Prop := fun k => k = g
theorem Kp.on {g : Nat} (h : Kp (On g) w w') (i : Nat) (u : Value) : Kp (On g) w (w'.setCell ⟨g, i, none⟩ u) := h.set (a := ⟨g, i, none⟩) (show On g g from rfl) u
/-- No block. -/
def Off : Nat → Prop := fun _ => False
theorem Kp.off (h : Kp Off w w') : Kp S w w' := h.mono fun _ _ c => c.elim
theorem Kp.belowOff (h : Kp Off w w') : Below w.heap.size w w' := Kp.below h
/-- A block of whole cells, none frozen. -/
def Blk (w : World) (g : Nat) (cs : List Value) (t : TypeId) : Prop := w.heap[g]? = some (.cells cs.toArray t (0, 0))
theorem Blk.lt {g : Nat} {cs : List Value} {t : TypeId} (h : Blk w g cs t) : g < w.heap.size := by
  rcases Nat.lt_or_ge g w.heap.size with h' | h'
  · exact h'
  · unfold Blk at h; rw [Array.getElem?_eq_none h'] at h; cases h
theorem Blk.cell {g : Nat} {cs : List Value} {t : TypeId} (h : Blk w g cs t) (i : Nat) : w.cell? ⟨g, i, none⟩ = cs[i]? := by
  unfold Blk at h
  simp [World.cell?, h]
theorem Blk.free {g : Nat} {cs : List Value} {t : TypeId} (h : Blk w g cs t) (i : Nat) : w.frozen? ⟨g, i, none⟩ = false := by
  unfold Blk at h
  simp [World.frozen?, h]
theorem Blk.drew {g : Nat} {cs : List Value} {t : TypeId} (h : Blk w g cs t) : Blk w.drew g cs t := h
theorem Blk.set {g : Nat} {cs : List Value} {t : TypeId} (h : Blk w g cs t) (i : Nat) (u : Value) : Blk (w.setCell ⟨g, i, none⟩ u) g (cs.set i u) t := by
  unfold Blk at *
  have hlt : g < w.heap.size := Blk.lt (w := w) h
  simp only [World.setCell, Array.getElem?_modify, h, if_true, Option.map_some]
  simp
theorem Blk.setOther {g : Nat} {cs : List Value} {t : TypeId} (h : Blk w g cs t) {a : Addr} (ha : a.block ≠ g) (u : Value) : Blk (w.setCell a u) g cs t := by
  unfold Blk at *
  rw [Below.heap_setCell _ _ _ _ (fun e => ha e.symm)]
  exact h
theorem Blk.alloc {g : Nat} {cs : List Value} {t : TypeId} (h : Blk w g cs t) (o : Obj) : Blk (w.alloc o) g cs t := by
  have := h.lt
  unfold Blk at *
  rw [Below.heap_alloc _ _ _ this]; exact h
theorem Blk.new (w : World) (cs : List Value) (t : TypeId) : Blk (w.alloc (.cells cs.toArray t (0, 0))) w.heap.size cs t := by
  show (w.heap.push _)[w.heap.size]? = _
  simp
theorem Kp.blk (h : Kp S w w') {g : Nat} {cs : List Value} {t : TypeId} (hb : Blk w g cs t) (hn : ¬ S g) : Blk w' g cs t := by
  have := hb.lt
  unfold Blk at *
  rw [h.block g this hn]; exact hb

/-! ## A tree's steps, one at a time -/
variable {P : Program} {Q : Nat → List Value → World → Prop}
theorem s_drew {t : T} (h : sat P t Q w.drew) : sat P (.drew t) Q w := h
theorem s_ptr {a : Addr} {k : Addr → T} (h : sat P (k a) Q w) : sat P (.ptr (some a) k) Q w := ⟨a, rfl, h⟩
theorem s_load {a : Addr} {s : Sh} {k : s.Ty → T} (x : s.Ty) (h1 : w.cell? a = some (s.val x)) (h : sat P (k x) Q w) : sat P (.load a s k) Q w := ⟨x, h1, h⟩
theorem s_chk {p : Prop} {t : T} (h1 : p) (h : sat P t Q w) : sat P (.chk p t) Q w := ⟨h1, h⟩
theorem s_store {a : Addr} {x u : Value} {t : T} (h1 : w.cell? a = some u) (h2 : w.frozen? a = false) (h : sat P t Q (w.setCell a x)) : sat P (.store a x t) Q w := ⟨⟨u, h1⟩, h2, h⟩
theorem s_leaf {l : Nat} {vs : List Value} (h : Q l vs w) : sat P (.leaf l vs) Q w := h
theorem s_ite {b : Bool} {t e : T} (h1 : b = true → sat P t Q w) (h2 : b = false → sat P e Q w) : sat P (.ite b t e) Q w := ⟨h1, h2⟩
theorem s_iteD {p : Prop} [Decidable p] {t e : T} (h1 : p → sat P t Q w) (h2 : ¬ p → sat P e Q w) : sat P (.ite (decide p) t e) Q w :=
  ⟨fun h => h1 (of_decide_eq_true h), fun h => h2 (of_decide_eq_false h)⟩
theorem s_iteE {a b : Int} {t e : T} (h1 : a = b → sat P t Q w) (h2 : a ≠ b → sat P e Q w) : sat P (.ite (a == b) t e) Q w :=
  ⟨fun h => h1 (by simpa using h), fun h => h2 (by simpa using h)⟩
theorem s_iteN {a b : Int} {t e : T} (h1 : a ≠ b → sat P t Q w) (h2 : a = b → sat P e Q w) : sat P (.ite (a != b) t e) Q w :=
  ⟨fun h => h1 (by simpa using h), fun h => h2 (by simpa using h)⟩
theorem s_call {f : FuncId} {args : Array Value} {s : Sh} {k : s.Ty → T} {R : Ending → World → Prop} (hc : Calls P f args w R) (h : ∀ e w', R e w' → ∃ x, e = .returned (s.val x) ∧ sat P (k x) Q w') : sat P (.call f args s k) Q w :=
  Calls.mono hc h
theorem s_eff {e : Sem Value} {s : Sh} {k : s.Ty → T} (x : s.Ty) (h1 : e.run P w = .ok (s.val x) w') (h : sat P (k x) Q w') : sat P (.eff e s k) Q w := ⟨x, w', h1, h⟩
theorem s_alloc {o : Obj} {k : Addr → T} (h : sat P (k ⟨w.heap.size, 0, none⟩) Q (w.alloc o)) : sat P (.alloc o k) Q w := h
/-- A cut: 'M': what holds where the ways meet. -/
theorem s_cut {l : Nat} {s : Sh} {t : T} {k : s.Ty → T} (M : s.Ty → World → Prop)
    (h1 : sat P t (fun l' vs w' => if l' = l then ∃ x, vs = s.vals x ∧ M x w' else Q l' vs w') w) (h2 : ∀ x w', M x w' → sat P (k x) Q w') : sat P (.cut l s t k) Q w := by
  refine sat_mono t (fun l' vs w' h => ?_) h1
  by_cases e : l' = l
  · rw [if_pos e] at h ⊢; obtain ⟨x, hx, hm⟩ := h; exact ⟨x, hx, h2 x w' hm⟩
  · rw [if_neg e] at h ⊢; exact h
theorem s_loop {l : Nat} {s : Sh} {init : List Value} {body : s.Ty → T} (I : Nat → s.Ty → World → Prop) (n0 : Nat) (x0 : s.Ty) (h0 : init = s.vals x0) (h1 : I n0 x0 w)
    (h2 : ∀ n x w', I n x w' → sat P (body x) (fun l' vs w'' => if l' = l then ∃ n' x', vs = s.vals x' ∧ n' < n ∧ I n' x' w'' else Q l' vs w'') w') : sat P (.loop l s init body) Q w := ⟨I, n0, x0, h0, h1, h2⟩
theorem strEq_iff {x y : ByteArray} : strEq x y = true ↔ x = y := by
  unfold strEq
  rw [beq_iff_eq]
  constructor
  · intro h
    have : x.data.toList = y.data.toList := by simpa [ByteArray.toList_eq] using h
    cases x; cases y
    simp only [ByteArray.mk.injEq]
    exact Array.toList_inj.1 this
  · rintro rfl; rfl
/-! ## The steps as rules -/
def asI (k : IntKind) : Value → Option Int
  | .int k' n => if k' = k then some n else none
  | _ => none
def asB : Value → Option Bool
  | .bool b => some b
  | _ => none
def asS : Value → Option ByteArray
  | .string b => some b
  | _ => none
def asPt : Value → Option (Option Addr)
  | .pointer b => some b
  | _ => none
def asSl : Value → Option (Option Addr × Nat × Nat)
  | .slice a l c => some (a, l, c)
  | _ => none
def asMp : Value → Option (Option Nat)
  | .map b => some b
  | _ => none
def asF (k : FloatKind) : Value → Option Nat
  | .float k' n => if k' = k then some n else none
  | _ => none
@[simp] theorem asI_int (k : IntKind) (n : Int) : asI k (.int k n) = some n := by simp [asI]
@[simp] theorem asB_bool (b : Bool) : asB (.bool b) = some b := rfl
@[simp] theorem asS_string (b : ByteArray) : asS (.string b) = some b := rfl
@[simp] theorem asPt_pointer (b : Option Addr) : asPt (.pointer b) = some b := rfl
@[simp] theorem asSl_slice (a : Option Addr) (l c : Nat) : asSl (.slice a l c) = some (a, l, c) := rfl
@[simp] theorem asMp_map (b : Option Nat) : asMp (.map b) = some b := rfl
@[simp] theorem asF_float (k : FloatKind) (n : Nat) : asF k (.float k n) = some n := by simp [asF]
theorem asI_iff {k : IntKind} {v : Value} {n : Int} : asI k v = some n ↔ v = .int k n := by
  cases v <;> simp [asI]
theorem asF_iff {k : FloatKind} {v : Value} {n : Nat} : asF k v = some n ↔ v = .float k n := by
  cases v <;> simp [asF]
theorem asSl_iff {v : Value} {x : Option Addr × Nat × Nat} : asSl v = some x ↔ v = .slice x.1 x.2.1 x.2.2 := by
  obtain ⟨a, l, c⟩ := x
  cases v <;> simp [asSl]
@[simp] theorem sat_loadI {a : Addr} {k : IntKind} {kk : Int → T} : sat P (.load a (.int k) kk) Q w ↔ ∃ v, w.cell? a = some v ∧ ∃ x, asI k v = some x ∧ sat P (kk x) Q w := by
  constructor
  · rintro ⟨x, h1, h2⟩; exact ⟨_, h1, x, asI_iff.2 rfl, h2⟩
  · rintro ⟨v, h1, x, h2, h3⟩; exact ⟨x, by rw [h1, asI_iff.1 h2]; rfl, h3⟩
@[simp] theorem sat_loadF {a : Addr} {k : FloatKind} {kk : Nat → T} : sat P (.load a (.float k) kk) Q w ↔ ∃ v, w.cell? a = some v ∧ ∃ x, asF k v = some x ∧ sat P (kk x) Q w := by
  constructor
  · rintro ⟨x, h1, h2⟩; exact ⟨_, h1, x, asF_iff.2 rfl, h2⟩
  · rintro ⟨v, h1, x, h2, h3⟩; exact ⟨x, by rw [h1, asF_iff.1 h2]; rfl, h3⟩
@[simp] theorem sat_loadB {a : Addr} {kk : Bool → T} : sat P (.load a .bool kk) Q w ↔ ∃ v, w.cell? a = some v ∧ ∃ x, asB v = some x ∧ sat P (kk x) Q w := by
  constructor
  · rintro ⟨x, h1, h2⟩; exact ⟨_, h1, x, rfl, h2⟩
  · rintro ⟨v, h1, x, h2, h3⟩; refine ⟨x, ?_, h3⟩; rw [h1]; cases v <;> simp [asB] at h2; subst h2; rfl
@[simp] theorem sat_loadS {a : Addr} {kk : ByteArray → T} : sat P (.load a .str kk) Q w ↔ ∃ v, w.cell? a = some v ∧ ∃ x, asS v = some x ∧ sat P (kk x) Q w := by
  constructor
  · rintro ⟨x, h1, h2⟩; exact ⟨_, h1, x, rfl, h2⟩
  · rintro ⟨v, h1, x, h2, h3⟩; refine ⟨x, ?_, h3⟩; rw [h1]; cases v <;> simp [asS] at h2; subst h2; rfl
@[simp] theorem sat_loadP {a : Addr} {kk : Option Addr → T} : sat P (.load a .ptr kk) Q w ↔ ∃ v, w.cell? a = some v ∧ ∃ x, asPt v = some x ∧ sat P (kk x) Q w := by
  constructor
  · rintro ⟨x, h1, h2⟩; exact ⟨_, h1, x, rfl, h2⟩
  · rintro ⟨v, h1, x, h2, h3⟩; refine ⟨x, ?_, h3⟩; rw [h1]; cases v <;> simp [asPt] at h2; subst h2; rfl
@[simp] theorem sat_loadM {a : Addr} {kk : Option Nat → T} : sat P (.load a .map kk) Q w ↔ ∃ v, w.cell? a = some v ∧ ∃ x, asMp v = some x ∧ sat P (kk x) Q w := by
  constructor
  · rintro ⟨x, h1, h2⟩; exact ⟨_, h1, x, rfl, h2⟩
  · rintro ⟨v, h1, x, h2, h3⟩; refine ⟨x, ?_, h3⟩; rw [h1]; cases v <;> simp [asMp] at h2; subst h2; rfl
@[simp] theorem sat_loadSl {a : Addr} {kk : Option Addr × Nat × Nat → T} : sat P (.load a .slice kk) Q w ↔ ∃ v, w.cell? a = some v ∧ ∃ x, asSl v = some x ∧ sat P (kk x) Q w := by
  constructor
  · rintro ⟨x, h1, h2⟩; exact ⟨_, h1, x, rfl, h2⟩
  · rintro ⟨v, h1, x, h2, h3⟩; exact ⟨x, by rw [h1, asSl_iff.1 h2]; rfl, h3⟩
@[simp] theorem sat_loadAny {a : Addr} {kk : Value → T} : sat P (.load a .any kk) Q w ↔ ∃ v, w.cell? a = some v ∧ sat P (kk v) Q w := by
  constructor
  · rintro ⟨x, h1, h2⟩; exact ⟨_, h1, h2⟩
  · rintro ⟨v, h1, h3⟩; exact ⟨v, h1, h3⟩
@[simp] theorem sat_leaf {l : Nat} {vs : List Value} : sat P (.leaf l vs) Q w ↔ Q l vs w := Iff.rfl
@[simp] theorem sat_chk {p : Prop} {t : T} : sat P (.chk p t) Q w ↔ p ∧ sat P t Q w := Iff.rfl
@[simp] theorem sat_ptr {a : Addr} {k : Addr → T} : sat P (.ptr (some a) k) Q w ↔ sat P (k a) Q w :=
  ⟨fun ⟨_, h1, h2⟩ => (by cases h1; exact h2), fun h => ⟨a, rfl, h⟩⟩
@[simp] theorem sat_drew {t : T} : sat P (.drew t) Q w ↔ sat P t Q w.drew := Iff.rfl
@[simp] theorem sat_alloc {o : Obj} {k : Addr → T} : sat P (.alloc o k) Q w ↔ sat P (k ⟨w.heap.size, 0, none⟩) Q (w.alloc o) := Iff.rfl
@[simp] theorem sat_store {a : Addr} {x : Value} {t : T} : sat P (.store a x t) Q w ↔ (∃ u, w.cell? a = some u) ∧ w.frozen? a = false ∧ sat P t Q (w.setCell a x) := Iff.rfl
@[simp] theorem sat_iteD {p : Prop} [Decidable p] {t e : T} : sat P (.ite (decide p) t e) Q w ↔ (p → sat P t Q w) ∧ (¬ p → sat P e Q w) :=
  ⟨fun h => ⟨fun hp => h.1 (decide_eq_true hp), fun hp => h.2 (decide_eq_false hp)⟩, fun h => s_iteD h.1 h.2⟩
@[simp] theorem sat_iteE {a b : Int} {t e : T} : sat P (.ite (a == b) t e) Q w ↔ (a = b → sat P t Q w) ∧ (a ≠ b → sat P e Q w) :=
  ⟨fun h => ⟨fun hp => h.1 (by simpa using hp), fun hp => h.2 (by simpa using hp)⟩, fun h => s_iteE h.1 h.2⟩
@[simp] theorem sat_iteN {a b : Int} {t e : T} : sat P (.ite (a != b) t e) Q w ↔ (a ≠ b → sat P t Q w) ∧ (a = b → sat P e Q w) :=
  ⟨fun h => ⟨fun hp => h.1 (by simpa using hp), fun hp => h.2 (by simpa using hp)⟩, fun h => s_iteN h.1 h.2⟩
@[simp] theorem sat_iteS {a b : ByteArray} {t e : T} : sat P (.ite (strEq a b) t e) Q w ↔ (a = b → sat P t Q w) ∧ (a ≠ b → sat P e Q w) :=
  ⟨fun h => ⟨fun hp => h.1 (strEq_iff.2 hp), fun hp => h.2 (Bool.eq_false_iff.2 fun h' => hp (strEq_iff.1 h'))⟩,
   fun h => ⟨fun hp => h.1 (strEq_iff.1 hp), fun hp => h.2 (fun e => by rw [strEq_iff.2 e] at hp; cases hp)⟩⟩
@[simp] theorem sat_iteNot {b : Bool} {t e : T} : sat P (.ite (!b) t e) Q w ↔ (b = false → sat P t Q w) ∧ (b = true → sat P e Q w) := by
  cases b <;> simp [sat]
@[simp] theorem sat_iteT {t e : T} : sat P (.ite true t e) Q w ↔ sat P t Q w := by simp [sat]
@[simp] theorem sat_iteF {t e : T} : sat P (.ite false t e) Q w ↔ sat P e Q w := by simp [sat]
theorem sat_iteB {b : Bool} {t e : T} : sat P (.ite b t e) Q w ↔ (b = true → sat P t Q w) ∧ (b = false → sat P e Q w) := Iff.rfl
@[simp] theorem addr_add (b o n : Nat) : (⟨b, o, none⟩ : Addr).add n = ⟨b, o + n, none⟩ := by unfold Addr.add; split <;> simp_all

/-! ## What a leaf hands on -/
@[simp] theorem exInt {k : IntKind} {n : Int} {vs : List Value} {r : Sh} {M : (Sh.cons (.int k) r).Ty → Prop} : (∃ x, Value.int k n :: vs = (Sh.cons (.int k) r).vals x ∧ M x) ↔ ∃ z : r.Ty, vs = r.vals z ∧ M (n, z) := by
  constructor
  · rintro ⟨⟨a, z⟩, h, hm⟩
    have h : Value.int k n :: vs = Value.int k a :: r.vals z := h
    cases h
    exact ⟨z, rfl, hm⟩
  · rintro ⟨z, h, hm⟩
    exact ⟨(n, z), by subst h; rfl, hm⟩
@[simp] theorem exFloat {k : FloatKind} {n : Nat} {vs : List Value} {r : Sh} {M : (Sh.cons (.float k) r).Ty → Prop} : (∃ x, Value.float k n :: vs = (Sh.cons (.float k) r).vals x ∧ M x) ↔ ∃ z : r.Ty, vs = r.vals z ∧ M (n, z) := by
  constructor
  · rintro ⟨⟨a, z⟩, h, hm⟩
    have h : Value.float k n :: vs = Value.float k a :: r.vals z := h
    cases h
    exact ⟨z, rfl, hm⟩
  · rintro ⟨z, h, hm⟩
    exact ⟨(n, z), by subst h; rfl, hm⟩
@[simp] theorem exBool {n : Bool} {vs : List Value} {r : Sh} {M : (Sh.cons .bool r).Ty → Prop} : (∃ x, Value.bool n :: vs = (Sh.cons .bool r).vals x ∧ M x) ↔ ∃ z : r.Ty, vs = r.vals z ∧ M (n, z) := by
  constructor
  · rintro ⟨⟨a, z⟩, h, hm⟩
    have h : Value.bool n :: vs = Value.bool a :: r.vals z := h
    cases h
    exact ⟨z, rfl, hm⟩
  · rintro ⟨z, h, hm⟩
    exact ⟨(n, z), by subst h; rfl, hm⟩
@[simp] theorem exStr {n : ByteArray} {vs : List Value} {r : Sh} {M : (Sh.cons .str r).Ty → Prop} : (∃ x, Value.string n :: vs = (Sh.cons .str r).vals x ∧ M x) ↔ ∃ z : r.Ty, vs = r.vals z ∧ M (n, z) := by
  constructor
  · rintro ⟨⟨a, z⟩, h, hm⟩
    have h : Value.string n :: vs = Value.string a :: r.vals z := h
    cases h
    exact ⟨z, rfl, hm⟩
  · rintro ⟨z, h, hm⟩
    exact ⟨(n, z), by subst h; rfl, hm⟩
@[simp] theorem exPtr {n : Option Addr} {vs : List Value} {r : Sh} {M : (Sh.cons .ptr r).Ty → Prop} : (∃ x, Value.pointer n :: vs = (Sh.cons .ptr r).vals x ∧ M x) ↔ ∃ z : r.Ty, vs = r.vals z ∧ M (n, z) := by
  constructor
  · rintro ⟨⟨a, z⟩, h, hm⟩
    have h : Value.pointer n :: vs = Value.pointer a :: r.vals z := h
    cases h
    exact ⟨z, rfl, hm⟩
  · rintro ⟨z, h, hm⟩
    exact ⟨(n, z), by subst h; rfl, hm⟩
@[simp] theorem exMap {n : Option Nat} {vs : List Value} {r : Sh} {M : (Sh.cons .map r).Ty → Prop} : (∃ x, Value.map n :: vs = (Sh.cons .map r).vals x ∧ M x) ↔ ∃ z : r.Ty, vs = r.vals z ∧ M (n, z) := by
  constructor
  · rintro ⟨⟨a, z⟩, h, hm⟩
    have h : Value.map n :: vs = Value.map a :: r.vals z := h
    cases h
    exact ⟨z, rfl, hm⟩
  · rintro ⟨z, h, hm⟩
    exact ⟨(n, z), by subst h; rfl, hm⟩
@[simp] theorem exAny {n : Value} {vs : List Value} {r : Sh} {M : (Sh.cons .any r).Ty → Prop} : (∃ x, n :: vs = (Sh.cons .any r).vals x ∧ M x) ↔ ∃ z : r.Ty, vs = r.vals z ∧ M (n, z) := by
  constructor
  · rintro ⟨⟨a, z⟩, h, hm⟩
    have h : n :: vs = a :: r.vals z := h
    cases h
    exact ⟨z, rfl, hm⟩
  · rintro ⟨z, h, hm⟩
    exact ⟨(n, z), by subst h; rfl, hm⟩
@[simp] theorem exSlice {p : Option Addr} {l c : Nat} {vs : List Value} {r : Sh} {M : (Sh.cons .slice r).Ty → Prop} : (∃ x, Value.slice p l c :: vs = (Sh.cons .slice r).vals x ∧ M x) ↔ ∃ z : r.Ty, vs = r.vals z ∧ M ((p, l, c), z) := by
  constructor
  · rintro ⟨⟨⟨a, b, d⟩, z⟩, h, hm⟩
    have h : Value.slice p l c :: vs = Value.slice a b d :: r.vals z := h
    cases h
    exact ⟨z, rfl, hm⟩
  · rintro ⟨z, h, hm⟩
    exact ⟨((p, l, c), z), by subst h; rfl, hm⟩
@[simp] theorem exNil {M : Sh.nil.Ty → Prop} : (∃ x, [] = Sh.nil.vals x ∧ M x) ↔ M () := ⟨fun ⟨_, _, h⟩ => h, fun h => ⟨(), rfl, h⟩⟩
@[simp] theorem exNil' {M : Sh.nil.Ty → Prop} : (∃ x, Sh.nil.vals x = [] ∧ M x) ↔ M () := ⟨fun ⟨_, _, h⟩ => h, fun h => ⟨(), rfl, h⟩⟩

/-- What a type's row holds, for a type that the program has. -/
theorem info_some {P : Program} {t : TypeId} (h : (P.info? t).isSome = true) : P.info? t = some ((P.info? t).get h) := (Option.some_get h).symm
/-! ## Whole structs in a block of their own; bytes of a string -/
theorem s_effU {e : Sem Unit} {t : T} (h1 : e.run P w = .ok () w') (h : sat P t Q w') : sat P (.effU e t) Q w := ⟨w', h1, h⟩
theorem s_effS {e : Sem Value} {s : Sh} {k : s.Ty → T} (x : s.Ty) (h1 : e.run P w = .ok (s.val x) w) (h : sat P (k x) Q w) : sat P (.effS e s k) Q w := ⟨x, h1, h⟩
theorem storeCells_run : ∀ (vs : List Value) (w : World) (g : Nat) (pre post : List Value) (t : TypeId), (∀ v ∈ vs, one v = true) → pre.length + vs.length ≤ pre.length + post.length →
    Blk w g (pre ++ post) t → ∃ w', (storeCells ⟨g, 0, none⟩ vs pre.length).run P w = .ok () w' ∧ Blk w' g (pre ++ (vs ++ post.drop vs.length)) t ∧ Kp (On g) w w'
  | [], w, g, pre, post, t, _, _, hb => ⟨w, rfl, by simpa using hb, Kp.refl _ _⟩
  | v :: vs, w, g, pre, post, t, h1, hl, hb => by
    cases post with
    | nil => simp at hl; omega
    | cons u post =>
      have hc : w.cell? ⟨g, pre.length, none⟩ = some u := by rw [hb.cell]; simp
      have hf := hb.free pre.length
      have hv : one v = true := h1 v (by simp)
      have ho : v.oneCell' = true := by cases v <;> first | rfl | (simp [one] at hv)
      have hb1 := hb.set pre.length v
      have e : (pre ++ u :: post).set pre.length v = (pre ++ [v]) ++ post := by simp
      rw [e] at hb1
      obtain ⟨w', h2, h3, h4⟩ := storeCells_run vs (w.setCell ⟨g, pre.length, none⟩ v) g (pre ++ [v]) post t (fun x hx => h1 x (by simp [hx])) (by simp at hl ⊢; omega) hb1
      refine ⟨w', ?_, by simpa using h3, ((Kp.refl _ _).on _ _).trans h4⟩
      have hlen : (pre ++ [v]).length = pre.length + 1 := by simp
      rw [hlen] at h2
      simp only [storeCells, Sem.run_bind, addr_add, Nat.zero_add, run_store, ho, hc, hf]
      simpa using h2
/-- A whole struct is stored into a block of its size. -/
theorem storeAt_run {t T : TypeId} {g : Nat} {cs : List Value} (vs : List Value) {i : TypeInfo} (hb : Blk w g cs T) (hi : P.info? t = some i) (hs : i.size = vs.length) (hl : vs.length = cs.length) (h1 : vs.all one = true) :
    ∃ w', (Instr.storeAt t (.pointer (some ⟨g, 0, none⟩)) (.agg vs.toArray)).run P w = .ok () w' ∧ Blk w' g vs T ∧ Kp (On g) w w' := by
  obtain ⟨w', h2, h3, h4⟩ := storeCells_run (P := P) vs w g [] cs T (fun v hv => List.all_eq_true.1 h1 v hv) (by simp [hl]) (by simpa using hb)
  refine ⟨w', ?_, by simpa [hl] using h3, h4⟩
  simp only [Instr.storeAt, Instr.sureAddr, storeVar, Sem.run_bind, Sem.run_pure, Result.andThen_ok, run_size hi, Value.cells]
  simp [hs]
  exact h2
theorem loadCells_run : ∀ (n i : Nat) (w : World) (g : Nat) (cs : List Value) (acc : Array Value) (t : TypeId), i + n ≤ cs.length → Blk w g cs t →
    (loadCellsFrom ⟨g, 0, none⟩ i n acc).run P w = .ok (acc ++ ((cs.drop i).take n).toArray) w
  | 0, i, w, g, cs, acc, t, _, _ => by simp [loadCellsFrom]
  | n + 1, i, w, g, cs, acc, t, hl, hb => by
    have hi : i < cs.length := by omega
    have hc : w.cell? ⟨g, i, none⟩ = some cs[i] := by rw [hb.cell]; simp [hi]
    simp only [loadCellsFrom, Sem.run_bind, addr_add, Nat.zero_add, run_load, hc, Result.andThen_ok]
    rw [loadCells_run n (i + 1) w g cs _ t (by omega) hb]
    rw [List.drop_eq_getElem_cons hi (l := cs), List.take_succ_cons]
    simp
/-- A whole struct is loaded from a block of its size. -/
theorem loadAt_run {t T : TypeId} {g : Nat} {cs : List Value} {i : TypeInfo} (ha : aggT P t = some true) (hi : P.info? t = some i) (hs : i.size = cs.length) (hb : Blk w g cs T) :
    (Instr.loadAt t (.pointer (some ⟨g, 0, none⟩))).run P w = .ok (.agg cs.toArray) w := by
  simp only [Instr.loadAt, Instr.sureAddr, loadVar, Sem.run_bind, Sem.run_pure, Result.andThen_ok, run_agg ha, if_true, run_size hi, loadCells]
  rw [loadCells_run i.size 0 w g cs #[] T (by omega) hb]
  simp [hs]
/-- From an address on the bytes of a string stand. -/
def Byts (w : World) (a : Addr) (s : ByteArray) : Prop := a.spot = none ∧ ∀ j : Nat, j < s.size → w.cell? ⟨a.block, a.off + j, none⟩ = some (.int .u8 (bt s j))
theorem Byts.at_ {a : Addr} {s : ByteArray} (h : Byts w a s) {j : Nat} (hj : j < s.size) : w.cell? (a.add j) = some (.int .u8 (bt s j)) := by
  obtain ⟨h1, h2⟩ := h
  have : a.add j = ⟨a.block, a.off + j, none⟩ := by cases a; simp only at h1; subst h1; simp
  rw [this]; exact h2 j hj
theorem convert_bytes {src dst e : TypeId} {u : TypeDesc} (s : ByteArray) (hs : P.underlying src = some u) (hd : P.underlying dst = some (.slice e)) (he : P.underlying e = some (.int .u8)) :
    ∃ c w', (convert src dst (.string s)).run P w = .ok (.slice (some ⟨w.heap.size, 0, none⟩) s.size c) w' ∧ Byts w' ⟨w.heap.size, 0, none⟩ s ∧ Kp Off w w' := by
  refine ⟨_, _, Lib.run_convert_string_bytes w src dst e s hs hd he, ⟨rfl, fun j hj => ?_⟩, ?_⟩
  · have := Lib.bytesWorld_cell w e s j hj
    simpa [bt] using this
  · refine ⟨rfl, rfl, rfl, by rw [Lib.bytesWorld_size]; omega, fun k hk _ => Lib.bytesWorld_at_old w e s k hk⟩
end Go.Proofs.YtkpnomdmnhhaoaaGreatDoor.Rx
