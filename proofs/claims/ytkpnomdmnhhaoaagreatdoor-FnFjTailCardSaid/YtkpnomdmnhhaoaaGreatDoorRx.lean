/- A reader of loaded code: 'exec' lays a function's code out as a small tree of tests, checks, memory steps and calls over the values themselves; 'sat' says when such a tree does what is asked; 'calls_of_tree': then the call does. No statement of the set is proved here. -/
import Derived.WalkKit
import Derived.Still
import Derived.Deep.LoopGhost
namespace Go.Proofs.YtkpnomdmnhhaoaaGreatDoor.Rx
open Go

/-! ## Shapes: what is known of a value by its type -/
inductive Sh where
  | int (k : IntKind) | float (k : FloatKind) | bool | str | ptr | slice | map | any
  | nil | cons (a r : Sh) | agg (l : Sh) | tuple (l : Sh)

def Sh.Ty : Sh → Type
  | .int _ => Int | .float _ => Nat | .bool => Bool | .str => ByteArray | .ptr => Option Addr
  | .slice => Option Addr × Nat × Nat | .map => Option Nat | .any => Value
  | .nil => Unit | .cons a r => a.Ty × r.Ty | .agg l => l.Ty | .tuple l => l.Ty

def Sh.vals : (s : Sh) → s.Ty → List Value
  | .int k, x => [.int k x] | .float k, x => [.float k x] | .bool, x => [.bool x] | .str, x => [.string x] | .ptr, x => [.pointer x]
  | .slice, x => [.slice x.1 x.2.1 x.2.2] | .map, x => [.map x] | .any, x => [x]
  | .nil, _ => [] | .cons a r, x => a.vals x.1 ++ r.vals x.2
  | .agg l, x => [.agg (l.vals x).toArray] | .tuple l, x => [.tuple (l.vals x).toArray]
def Sh.val (s : Sh) (x : s.Ty) : Value := match s.vals x with | v :: _ => v | [] => undef
def Sh.ofList : List Sh → Sh
  | [] => .nil
  | a :: r => .cons a (ofList r)

def shCells (P : Program) : Nat → TypeId → List Sh
  | 0, _ => [.any]
  | n + 1, t => match P.underlying t with
    | some (.int k) => [.int k]
    | some (.float k) => [.float k]
    | some .bool => [.bool]
    | some .string => [.str]
    | some (.pointer _) => [.ptr]
    | some (.slice _) => [.slice]
    | some (.map _ _) => [.map]
    | some (.struct fs) => fs.toList.flatMap fun f => shCells P n f.type
    | some (.array m e) => (List.range m).flatMap fun _ => shCells P n e
    | _ => [.any]
def shOf (P : Program) (t : TypeId) : Sh :=
  match P.underlying t with
  | some (.struct _) | some (.array _ _) => .agg (Sh.ofList (shCells P 8 t))
  | some (.tuple ts) => .tuple (Sh.ofList (ts.toList.map fun u => match P.underlying u with
    | some (.struct _) | some (.array _ _) => .agg (Sh.ofList (shCells P 8 u))
    | _ => match shCells P 1 u with | s :: _ => s | [] => .any))
  | _ => match shCells P 1 t with | s :: _ => s | [] => .any

/-! ## Trees -/
/-- How operations are carried out: in turn; in any order, the world as it is; in any order, the world growing. -/
inductive Md where
  | loud | still | quiet
inductive T where
  | fail (why : Nat)
  | leaf (l : Nat) (vs : List Value)
  | ite (b : Bool) (t e : T)
  | chk (p : Prop) (t : T)
  | ptr (p : Option Addr) (k : Addr → T)
  | eff (e : Sem Value) (s : Sh) (k : s.Ty → T)
  | effS (e : Sem Value) (s : Sh) (k : s.Ty → T)
  | effQ (e : Sem Value) (s : Sh) (k : s.Ty → T)
  | callQ (f : FuncId) (args : Array Value) (s : Sh) (k : s.Ty → T)
  | grown (t : T)
  | effU (e : Sem Unit) (t : T)
  | load (a : Addr) (s : Sh) (k : s.Ty → T)
  | store (a : Addr) (x : Value) (t : T)
  | alloc (o : Obj) (k : Addr → T)
  | call (f : FuncId) (args : Array Value) (s : Sh) (k : s.Ty → T)
  | cut (l : Nat) (s : Sh) (t : T) (k : s.Ty → T)
  | loop (l : Nat) (s : Sh) (init : List Value) (body : s.Ty → T)
  | drew (t : T)
  | here (k : World → T)
  | grew (w0 : World) (t : T)
  | both (a b : T)
  | callD (v : Value) (args : Array Value) (s : Sh) (k : s.Ty → T)
  | callM (v : Value) (name : String) (args : Array Value) (s : Sh) (k : s.Ty → T)

/-- A function that a call may enter. -/
def goB (P : Program) (f : FuncId) : Bool := match P.funcs[f]? with
  | some fn => fn.name != "runtime.NumGoroutine" && fn.body.isSome
  | none => false

def sat (P : Program) : T → (Nat → List Value → World → Prop) → World → Prop
  | .fail _, _, _ => False
  | .leaf l vs, Q, w => Q l vs w
  | .ite b t e, Q, w => (b = true → sat P t Q w) ∧ (b = false → sat P e Q w)
  | .chk p t, Q, w => p ∧ sat P t Q w
  | .ptr p k, Q, w => ∃ a, p = some a ∧ sat P (k a) Q w
  | .eff e s k, Q, w => ∃ x w', e.run P w = .ok (s.val x) w' ∧ sat P (k x) Q w'
  | .effS e s k, Q, w => ∃ x, e.run P w = .ok (s.val x) w ∧ sat P (k x) Q w
  | .effQ e s k, Q, w => ∃ x, (∀ w', RowKit.Below w.heap.size w w' → e.run P w' = .ok (s.val x) w') ∧ sat P (k x) Q w
  | .callQ f args s k, Q, w => ∃ x, (∀ w', RowKit.Below w.heap.size w w' → Calls P f args w' fun en w'' => en = .returned (s.val x) ∧ RowKit.Below w.heap.size w w'') ∧ sat P (k x) Q w
  | .grown t, Q, w => ∀ w', RowKit.Below w.heap.size w w' → sat P t Q w'
  | .effU e t, Q, w => ∃ w', e.run P w = .ok () w' ∧ sat P t Q w'
  | .load a s k, Q, w => ∃ x, w.cell? a = some (s.val x) ∧ sat P (k x) Q w
  | .store a x t, Q, w => (∃ u, w.cell? a = some u) ∧ w.frozen? a = false ∧ sat P t Q (w.setCell a x)
  | .alloc o k, Q, w => sat P (k ⟨w.heap.size, 0, none⟩) Q (w.alloc o)
  | .call f args s k, Q, w => Calls P f args w fun en w' => ∃ x, en = .returned (s.val x) ∧ sat P (k x) Q w'
  | .cut l s t k, Q, w => sat P t (fun l' vs w' => if l' = l then ∃ x, vs = s.vals x ∧ sat P (k x) Q w' else Q l' vs w') w
  | .loop l s init body, Q, w => ∃ (I : Nat → s.Ty → World → Prop) (n0 : Nat) (x0 : s.Ty), init = s.vals x0 ∧ I n0 x0 w ∧
      ∀ n x w', I n x w' → sat P (body x) (fun l' vs w'' => if l' = l then ∃ n' x', vs = s.vals x' ∧ n' < n ∧ I n' x' w'' else Q l' vs w'') w'
  | .drew t, Q, w => sat P t Q w.drew
  | .here k, Q, w => sat P (k w) Q w
  | .grew w0 t, Q, w => RowKit.Below w0.heap.size w0 w ∧ sat P t Q w
  | .both a b, Q, w => sat P a Q w ∧ sat P b Q w
  | .callD v args s k, Q, w => ∃ f first caps, v = .func (.func f) first caps ∧ goB P f = true ∧
      Calls P f (first ++ args ++ caps) w fun en w' => ∃ x, en = .returned (s.val x) ∧ sat P (k x) Q w'
  | .callM v name args s k, Q, w => ∃ t y f r, v = .iface t y ∧ (∀ w, (method (P.types.size + Made.depth) t y name).run P w = .ok (f, r) w) ∧ goB P f = true ∧
      Calls P f (#[r] ++ args) w fun en w' => ∃ x, en = .returned (s.val x) ∧ sat P (k x) Q w'

theorem sat_mono {P : Program} : ∀ (t : T) {Q Q' : Nat → List Value → World → Prop} {w : World}, (∀ l vs w, Q l vs w → Q' l vs w) → sat P t Q w → sat P t Q' w := by
  intro t
  induction t with
  | fail _ => intro _ _ _ _ h; exact h
  | leaf l vs => intro _ _ _ h hs; exact h _ _ _ hs
  | ite b t e iht ihe => intro _ _ _ h hs; exact ⟨fun hb => iht h (hs.1 hb), fun hb => ihe h (hs.2 hb)⟩
  | chk p t ih => intro _ _ _ h hs; exact ⟨hs.1, ih h hs.2⟩
  | ptr p k ih => intro _ _ _ h hs; obtain ⟨a, h1, h2⟩ := hs; exact ⟨a, h1, ih a h h2⟩
  | eff e s k ih => intro _ _ _ h hs; obtain ⟨x, w', h1, h2⟩ := hs; exact ⟨x, w', h1, ih x h h2⟩
  | effS e s k ih => intro _ _ _ h hs; obtain ⟨x, h1, h2⟩ := hs; exact ⟨x, h1, ih x h h2⟩
  | effQ e s k ih => intro _ _ _ h hs; obtain ⟨x, h1, h2⟩ := hs; exact ⟨x, h1, ih x h h2⟩
  | callQ f args s k ih => intro _ _ _ h hs; obtain ⟨x, h1, h2⟩ := hs; exact ⟨x, h1, ih x h h2⟩
  | both a b iha ihb => intro _ _ _ h hs; exact ⟨iha h hs.1, ihb h hs.2⟩
  | grown t ih => intro _ _ _ h hs; exact fun w' hb => ih h (hs w' hb)
  | effU e t ih => intro _ _ _ h hs; obtain ⟨w', h1, h2⟩ := hs; exact ⟨w', h1, ih h h2⟩
  | load a s k ih => intro _ _ _ h hs; obtain ⟨x, h1, h2⟩ := hs; exact ⟨x, h1, ih x h h2⟩
  | store a x t ih => intro _ _ _ h hs; exact ⟨hs.1, hs.2.1, ih h hs.2.2⟩
  | alloc o k ih => intro _ _ _ h hs; exact ih _ h hs
  | call f args s k ih => intro _ _ _ h hs; exact Calls.mono hs fun en w' ⟨x, h1, h2⟩ => ⟨x, h1, ih x h h2⟩
  | cut l s t k iht ihk =>
    intro _ _ _ h hs
    refine iht ?_ hs
    intro l' vs w' hq
    by_cases e : l' = l
    · rw [if_pos e] at hq ⊢; obtain ⟨x, h1, h2⟩ := hq; exact ⟨x, h1, ihk x h h2⟩
    · rw [if_neg e] at hq ⊢; exact h _ _ _ hq
  | loop l s init body ih =>
    intro _ _ _ h hs
    obtain ⟨I, n0, x0, h1, h2, h3⟩ := hs
    refine ⟨I, n0, x0, h1, h2, fun n x w' hI => ih x ?_ (h3 n x w' hI)⟩
    intro l' vs w'' hq
    by_cases e : l' = l
    · rw [if_pos e] at hq ⊢; exact hq
    · rw [if_neg e] at hq ⊢; exact h _ _ _ hq
  | drew t ih => intro _ _ _ h hs; exact ih h hs
  | here k ih => intro _ _ w h hs; exact ih w h hs
  | grew w0 t ih => intro _ _ _ h hs; exact ⟨hs.1, ih h hs.2⟩
  | callD v args s k ih => intro _ _ _ h hs; obtain ⟨f, first, caps, h1, h2, h3⟩ := hs; exact ⟨f, first, caps, h1, h2, Calls.mono h3 fun en w' ⟨x, h1, h2⟩ => ⟨x, h1, ih x h h2⟩⟩
  | callM v name args s k ih => intro _ _ _ h hs; obtain ⟨t, y, f, r, h1, h2, h3, h4⟩ := hs; exact ⟨t, y, f, r, h1, h2, h3, Calls.mono h4 fun en w' ⟨x, h1, h2⟩ => ⟨x, h1, ih x h h2⟩⟩

/-! ## Frames -/
inductive SV where
  | v (x : Value) | o (x : Value) | p (a : Addr) | tt | ff
def SV.val : SV → Value
  | .v x => x | .o x => x | .p a => .pointer (some a) | .tt => .bool true | .ff => .bool false
def Sh.svs : (s : Sh) → s.Ty → List SV
  | .int k, x => [.v (.int k x)] | .float k, x => [.v (.float k x)] | .bool, x => [.v (.bool x)] | .str, x => [.v (.string x)] | .ptr, x => [.v (.pointer x)]
  | .slice, x => [.v (.slice x.1 x.2.1 x.2.2)] | .map, x => [.v (.map x)] | .any, x => [.o x]
  | .nil, _ => [] | .cons a r, x => a.svs x.1 ++ r.svs x.2
  | .agg l, x => [.v (.agg (l.vals x).toArray)] | .tuple l, x => [.v (.tuple (l.vals x).toArray)]
theorem Sh.svs_vals : ∀ (s : Sh) (x : s.Ty), (s.svs x).map SV.val = s.vals x := by
  intro s
  induction s with
  | cons a r iha ihr => intro x; simp only [Sh.svs, Sh.vals, List.map_append, iha, ihr]
  | _ => intro x; rfl
def Sh.sv (s : Sh) (x : s.Ty) : SV := match s.svs x with | v :: _ => v | [] => .v undef
theorem Sh.sv_val (s : Sh) (x : s.Ty) : (s.sv x).val = s.val x := by
  unfold Sh.sv Sh.val
  rw [← Sh.svs_vals]
  cases s.svs x <;> rfl
abbrev Fr := List (Nat × Option SV)
def look : Fr → Nat → Option SV
  | [], _ => none
  | (t', x) :: r, t => if Nat.beq t' t then x else look r t
def constSV : Value → SV
  | .bool true => .tt
  | .bool false => .ff
  | x => .v x
theorem constSV_val (x : Value) : (constSV x).val = x := by
  unfold constSV
  split <;> rfl
def opv (fr : Fr) : Operand → Option SV
  | .tmp t => look fr t
  | .const x => some (constSV x)
  | .global g => some (.p ⟨g, 0, none⟩)
  | .func f => some (.v (.func (.func f) #[] #[]))
structure Agrees (n : Nat) (fr : Fr) (a : Act) : Prop where
  size : a.tmps.size = n
  defers : a.defers = []
  at_ : ∀ t x, look fr t = some x → a.tmps[t]? = some x.val
theorem Agrees.opv {n : Nat} {fr : Fr} {a : Act} (h : Agrees n fr a) {x : Operand} {s : SV} (hx : opv fr x = some s) : a.eval x = s.val := by
  cases x with
  | tmp t => simp only [Rx.opv] at hx; simp [Act.eval, h.at_ t s hx]
  | const v => simp only [Rx.opv, Option.some.injEq] at hx; subst hx; simp [Act.eval, constSV_val]
  | global g => simp only [Rx.opv, Option.some.injEq] at hx; subst hx; rfl
  | func f => simp only [Rx.opv, Option.some.injEq] at hx; subst hx; rfl
theorem Agrees.put {n : Nat} {fr : Fr} {a : Act} (h : Agrees n fr a) {d : Nat} (hd : d < n) (s : SV) : Agrees n ((d, some s) :: fr) (a.put (some d) s.val) := by
  refine ⟨by simp [Act.put, h.size], h.defers, fun t x hx => ?_⟩
  simp only [look] at hx
  by_cases e : d = t
  · subst e
    rw [if_pos (by simp)] at hx
    cases hx
    simp [Act.put, h.size, hd]
  · rw [if_neg (by simpa using e)] at hx
    simp only [Act.put, Array.getElem?_setIfInBounds_ne e]
    exact h.at_ t x hx
theorem Agrees.same {n : Nat} {fr : Fr} {a : Act} (h : Agrees n fr a) {d : Nat} {s : SV} (hd : a.tmps[d]? = some s.val) : Agrees n ((d, some s) :: fr) a := by
  refine ⟨h.size, h.defers, fun t x hx => ?_⟩
  simp only [look] at hx
  by_cases e : d = t
  · subst e
    rw [if_pos (by simp)] at hx
    cases hx
    exact hd
  · rw [if_neg (by simpa using e)] at hx
    exact h.at_ t x hx

/-! ## One operation -/
def bt (s : ByteArray) (i : Int) : Int := ((s.data.toList.getD i.toNat 0).toNat : Int)
def strEq (x y : ByteArray) : Bool := x.toList == y.toList
def strLt (x y : ByteArray) : Bool := Op.bytesLess x.toList y.toList
def arith (op : BinOp) (k k' : IntKind) (a b : Int) (kk : SV → T) : T :=
  match op with
  | .shl => .chk (0 ≤ b) (kk (.v (.int k (k.wrap (a * 2 ^ (min b.toNat k.bits))))))
  | .shr => .chk (0 ≤ b) (kk (.v (.int k (a.fdiv (2 ^ (min b.toNat k.bits))))))
  | op => if k = k' then (match op with
    | .add => kk (.v (.int k (k.wrap (a + b))))
    | .sub => kk (.v (.int k (k.wrap (a - b))))
    | .mul => kk (.v (.int k (k.wrap (a * b))))
    | .quo => .chk (b ≠ 0) (kk (.v (.int k (k.wrap (a.tdiv b)))))
    | .rem => .chk (b ≠ 0) (kk (.v (.int k (a.tmod b))))
    | .and => kk (.v (.int k (k.wrap (BitVec.ofInt k.bits a &&& BitVec.ofInt k.bits b).toNat)))
    | .or => kk (.v (.int k (k.wrap (BitVec.ofInt k.bits a ||| BitVec.ofInt k.bits b).toNat)))
    | .xor => kk (.v (.int k (k.wrap (BitVec.ofInt k.bits a ^^^ BitVec.ofInt k.bits b).toNat)))
    | .andNot => kk (.v (.int k (k.wrap (BitVec.ofInt k.bits a &&& ~~~BitVec.ofInt k.bits b).toNat)))
    | .eql => kk (.v (.bool (a == b)))
    | .neq => kk (.v (.bool (a != b)))
    | .lss => kk (.v (.bool (decide (a < b))))
    | .leq => kk (.v (.bool (decide (a ≤ b))))
    | .gtr => kk (.v (.bool (decide (a > b))))
    | .geq => kk (.v (.bool (decide (a ≥ b))))
    | _ => .fail 11) else .fail 12
def strOp (op : BinOp) (a b : ByteArray) (kk : SV → T) : T :=
  match op with
  | .add => .chk (a.size + b.size ≤ 9223372036854775807) (kk (.v (.string (a ++ b))))
  | .eql => kk (.v (.bool (strEq a b)))
  | .neq => kk (.v (.bool (!strEq a b)))
  | .lss => kk (.v (.bool (strLt a b)))
  | .leq => kk (.v (.bool (strLt a b || strEq a b)))
  | .gtr => kk (.v (.bool (!(strLt a b || strEq a b))))
  | .geq => kk (.v (.bool (!strLt a b)))
  | _ => .fail 13
def isNil : Value → Bool
  | .nilIface => true
  | _ => false
def isIface : Value → Bool
  | .nilIface | .iface _ _ => true
  | _ => false
def effV (P : Program) (md : Md) (e : Sem Value) (t : TypeId) (kk : SV → T) : T :=
  match md with
  | .loud => .eff e (shOf P t) fun x => kk ((shOf P t).sv x)
  | .still => .effS e (shOf P t) fun x => kk ((shOf P t).sv x)
  | .quiet => .effQ e (shOf P t) fun x => kk ((shOf P t).sv x)
/-- What writes, makes or calls has its place where operations go in turn. -/
def loud (md : Md) (t : T) : T :=
  match md with
  | .loud => t
  | _ => .fail 30
def callV (md : Md) (f : FuncId) (args : Array Value) (s : Sh) (kk : SV → T) : T :=
  match md with
  | .loud => .call f args s fun x => kk (s.sv x)
  | .still => .fail 31
  | .quiet => .callQ f args s fun x => kk (s.sv x)
def aggD : TypeDesc → Bool
  | .struct _ | .array _ _ => true
  | _ => false
def aggT (P : Program) (t : TypeId) : Option Bool := (P.underlying t).map aggD
def one : Value → Bool
  | .agg _ | .tuple _ => false
  | _ => true
/-- One bound of a slice expression. -/
def bnd (fr : Fr) (d : Int) : Option Operand → Option Int
  | none => some d
  | some x => match opv fr x with
    | some (.v (.int _ l)) => some l
    | _ => none
/-- The places of a struct's fields, or none if a type is not known. -/
def placesOf (P : Program) : List Field → Option (List (Nat × Nat))
  | [] => some []
  | f :: r => match P.info? f.type, placesOf P r with
    | some i, some ps => some ((f.offset, i.size) :: ps)
    | _, _ => none
/-- The cells of a struct or an array that is built of parts. -/
def buildV (P : Program) (t : TypeId) (ps : List (Nat × Value)) : Option (Array Value) :=
  match P.info? t with
  | none => none
  | some i => match i.zero with
    | none => none
    | some z => match P.underlying t with
      | some (.struct fields) => (match placesOf P fields.toList with
        | some pl => Instr.fill (fun j => pl[j]?) z.cells ps
        | none => none)
      | some (.array _ e) => (match P.info? e with
        | some ie => Instr.fill (fun j => some (j * ie.size, ie.size)) z.cells ps
        | none => none)
      | _ => none
/-- A pointer that must not be nil. -/
def asP (s : SV) (k : Addr → T) : T :=
  match s with
  | .p a => k a
  | .v (.pointer q) => .ptr q k
  | _ => .fail 3
/-- What the check against nil comes to at a value of which the kind is not known. -/
def nilV (v : Value) : Sem Value := do
  match ← execOp (fun _ => v) { dst := none, op := .nilCheck (.tmp 0), type := 0, pos := "", after := #[], guard := none } with
  | .value y => pure y
  | _ => stuck "no value"
def isO : SV → Bool
  | .o _ => true
  | _ => false
def opT (P : Program) (st : Md) (fr : Fr) (o : Oper) (kk : SV → T) : T :=
  match o.op with
  | .move x | .assign x => match opv fr x with | some s => kk s | none => .fail 1
  | .pick c x y => match opv fr c with
    | some .tt => (match opv fr x with | some s => kk s | none => .fail 2)
    | some .ff => (match opv fr y with | some s => kk s | none => .fail 2)
    | some (.v (.bool b)) => (match opv fr x, opv fr y with | some s, some s' => .ite b (kk s) (kk s') | _, _ => .fail 2)
    | _ => .fail 2
  | .nilCheck x => match opv fr x with
    | some (.o v) => effV P st (nilV v) o.type kk
    | some s => asP s fun a => kk (.p a)
    | _ => .fail 3
  | .binOp op t x y _ => match opv fr x, opv fr y with
    | some (.v (.int k a)), some (.v (.int k' b)) => arith op k k' a b kk
    | some (.v (.string a)), some (.v (.string b)) => strOp op a b kk
    | some (.p _), some (.v (.pointer none)) => (match P.underlying t, op with
      | some (.pointer _), .eql => kk .ff
      | some (.pointer _), .neq => kk .tt
      | _, _ => .fail 4)
    | some (.v (.pointer p)), some (.v (.pointer none)) => (match P.underlying t, op with
      | some (.pointer _), .eql => kk (.v (.bool p.isNone))
      | some (.pointer _), .neq => kk (.v (.bool !p.isNone))
      | _, _ => .fail 4)
    | some (.v (.slice p _ _)), some (.v (.slice none _ _)) => (match P.underlying t, op with
      | some (.slice _), .eql => kk (.v (.bool p.isNone))
      | some (.slice _), .neq => kk (.v (.bool !p.isNone))
      | _, _ => .fail 4)
    | some (.v (.bool a)), some (.v (.bool b)) => (match P.underlying t, op with
      | some .bool, .eql => kk (.v (.bool (a == b)))
      | some .bool, .neq => kk (.v (.bool (!(a == b))))
      | _, _ => .fail 4)
    | some (.v (.bool a)), some .tt => (match P.underlying t, op with
      | some .bool, .eql => kk (.v (.bool a))
      | some .bool, .neq => kk (.v (.bool (!a)))
      | _, _ => .fail 4)
    | some (.v (.bool a)), some .ff => (match P.underlying t, op with
      | some .bool, .eql => kk (.v (.bool (!a)))
      | some .bool, .neq => kk (.v (.bool a))
      | _, _ => .fail 4)
    | some (.o v), some (.v .nilIface) => (match P.underlying t, op, y with
      | some (.interface _), .eql, .const _ => .chk (isIface v = true) (kk (.v (.bool (isNil v))))
      | some (.interface _), .neq, .const _ => .chk (isIface v = true) (kk (.v (.bool !isNil v)))
      | _, _, _ => .fail 4)
    | some a, some b => effV P st (do eqGuard op t x y a.val b.val; binOp op t a.val b.val) o.type kk
    | _, _ => .fail 4
  | .unOp op _ x => match op, opv fr x with
    | .not, some .tt => kk .ff
    | .not, some .ff => kk .tt
    | .not, some (.v (.bool b)) => kk (.v (.bool !b))
    | .neg, some (.v (.int k n)) => kk (.v (.int k (k.wrap (0 - n))))
    | op, some s => effV P st (Op.unary op s.val) o.type kk
    | _, none => .fail 5
  | .convert src dst x => match P.underlying src, P.underlying dst, opv fr x with
    | some _, some (.int k), some (.v (.int _ n)) => kk (.v (.int k (k.wrap n)))
    | some _, some .string, some (.v (.string s)) => kk (.v (.string s))
    | _, _, some s => effV P st (convert src dst s.val) o.type kk
    | _, _, none => .fail 6
  | .fieldAddr t x f => match P.underlying t, opv fr x with
    | some (.struct fields), some s => (match fields[f]? with
      | some fd => (match P.info? fd.type with
        | some i => if i.size = 0 then .fail 7 else asP s fun a => kk (.p (a.add fd.offset))
        | none => .fail 7)
      | none => .fail 7)
    | _, _ => .fail 7
  | .field t x f => match P.underlying t, opv fr x with
    | some (.struct fields), some (.v (.agg cs)) => (match fields[f]? with
      | some fd => (match aggT P fd.type with
        | some true => (match P.info? fd.type with
          | some i => kk (.v (.agg (cs.extract fd.offset (fd.offset + i.size))))
          | none => .fail 8)
        | some false => (match cs[fd.offset]? with
          | some v => (match shOf P fd.type with | .any => kk (.o v) | _ => kk (.v v))
          | none => .fail 8)
        | none => .fail 8)
      | none => .fail 8)
    | _, _ => .fail 8
  | .indexAddr t x ix => match P.underlying t, opv fr x, opv fr ix with
    | some (.slice e), some (.v (.slice p len _)), some (.v (.int _ i)) => (match P.info? e with
      | some d => .chk (0 ≤ i ∧ i < (len : Int)) (.ptr p fun a => kk (.p (a.add (i.toNat * d.size))))
      | none => .fail 9)
    | some (.array len e), some s, some (.v (.int _ i)) => (match P.info? e with
      | some d => .chk (0 ≤ i ∧ i < (len : Int)) (asP s fun a => kk (.p (a.add (i.toNat * d.size))))
      | none => .fail 9)
    | _, _, _ => .fail 9
  | .index t x ix => match P.underlying t, opv fr x, opv fr ix with
    | some .string, some (.v (.string s)), some (.v (.int _ i)) => .chk (0 ≤ i ∧ i < (s.size : Int)) (kk (.v (.int .u8 (bt s i))))
    | _, some s, some s' => effV P st (Instr.index t s.val s'.val) o.type kk
    | _, _, _ => .fail 10
  | .slice t x lo hi none => match P.underlying t, opv fr x with
    | some .string, some (.v (.string s)) => (match bnd fr 0 lo, bnd fr s.size hi with
      | some l, some h => .chk (0 ≤ l ∧ l ≤ h ∧ h ≤ (s.size : Int)) (kk (.v (.string (s.extract l.toNat h.toNat))))
      | _, _ => .fail 14)
    | some (.slice e), some (.v (.slice p len cap)) => (match bnd fr 0 lo, bnd fr len hi, P.info? e with
      | some l, some h, some i => .chk (0 ≤ l ∧ l ≤ h ∧ h ≤ (cap : Int)) (kk (.v (.slice (if cap = l.toNat then p else p.map (·.add (l.toNat * i.size))) (h.toNat - l.toNat) (cap - l.toNat))))
      | _, _, _ => .fail 14)
    | _, some s => (match (match lo with | none => some none | some x => (opv fr x).map (fun s => some s.val)), (match hi with | none => some none | some x => (opv fr x).map (fun s => some s.val)) with
      | some lo', some hi' => effV P st (Instr.sliceAt t s.val lo' hi' none) o.type kk
      | _, _ => .fail 14)
    | _, none => .fail 14
  | .slice t x lo hi (some m) => match opv fr x, opv fr m, (match lo with | none => some none | some x => (opv fr x).map (fun s => some s.val)), (match hi with | none => some none | some x => (opv fr x).map (fun s => some s.val)) with
    | some s, some s', some lo', some hi' => effV P st (Instr.sliceAt t s.val lo' hi' (some s'.val)) o.type kk
    | _, _, _, _ => .fail 14
  | .extract x i => match opv fr x with
    | some (.v (.tuple vs)) => (match vs.toList[i]? with
      | some v => (match shOf P o.type with | .any => kk (.o v) | _ => kk (.v v))
      | none => .fail 15)
    | _ => .fail 15
  | .makeInterface t x => match P.underlying t, opv fr x with
    | some (.interface _), _ => .fail 16
    | some _, some s => kk (.v (.iface t s.val))
    | _, _ => .fail 16
  | .load t x => match opv fr x with
    | some s => asP s fun a => (match aggT P t with
      | some true => effV P st (Instr.loadAt t (.pointer (some a))) t kk
      | some false => .load a (shOf P t) (fun x => kk ((shOf P t).sv x))
      | none => .fail 17)
    | _ => .fail 17
  | .store t x y => match opv fr x, opv fr y with
    | some q, some s => loud st (asP q fun a => (match s, P.info? t with
      | .v v, some i => if one v && i.size == 1 then .store a v (kk (.v undef)) else .effU (Instr.storeAt t (.pointer (some a)) v) (kk (.v undef))
      | .tt, some i => if i.size = 1 then .store a (.bool true) (kk (.v undef)) else .fail 18
      | .ff, some i => if i.size = 1 then .store a (.bool false) (kk (.v undef)) else .fail 18
      | .p b, some i => if i.size = 1 then .store a (.pointer (some b)) (kk (.v undef)) else .fail 18
      | .o v, _ => .effU (Instr.storeAt t (.pointer (some a)) v) (kk (.v undef))
      | _, _ => .fail 18))
    | _, _ => .fail 18
  | .alloc t => match P.info? t with
    | some i => (match i.zero with | some z => loud st (.alloc (.cells z.cells t) fun a => kk (.p a)) | none => .fail 19)
    | none => .fail 19
  | .box t x => match opv fr x with
    | some s => loud st (.alloc (.cells s.val.cells t) fun a => kk (.p a))
    | none => .fail 20
  | .build t parts => match parts.toList.mapM (fun p => (opv fr p.2).map (fun s => (p.1, s.val))) with
    | some ps => if parts.toList.any (fun p => ((opv fr p.2).map isO).getD false) then effV P st (Instr.build t ps.toArray) o.type kk else (match buildV P t ps with
      | some cs => kk (.v (.agg cs))
      | none => .fail 21)
    | none => .fail 21
  | .buildSlice t n parts => match parts.toList.mapM (fun p => (opv fr p.2).map (fun s => (p.1, s.val))) with
    | some ps => effV P st (Instr.buildSlice t n ps.toArray) o.type kk
    | none => .fail 22
  | .makeSlice t l c => match opv fr l, opv fr c with
    | some s, some s' => effV P st (Instr.makeSlice t s.val s'.val) o.type kk
    | _, _ => .fail 23
  | .makeFunc fn first caps => match first.toList.mapM (fun x => (opv fr x).map SV.val), caps.toList.mapM (fun x => (opv fr x).map SV.val) with
    | some fs, some cs => kk (.o (.func fn fs.toArray cs.toArray))
    | _, _ => .fail 32
  | .typeAssert x t u ok => match opv fr x with
    | some s => effV P st (Instr.typeAssert s.val t u ok) o.type kk
    | none => .fail 24
  | .call c => match c.args.toList.mapM (fun x => (opv fr x).map SV.val) with
    | some args => (match c.callee with
      | .value (.func f) => (match P.funcs[f]? with
        | some fn => if fn.name != "runtime.NumGoroutine" && fn.body.isSome then callV st f args.toArray (shOf P o.type) kk else .fail 25
        | none => .fail 25)
      | .value x => (match opv fr x with
        | some s => loud st (.callD s.val args.toArray (shOf P o.type) fun x => kk ((shOf P o.type).sv x))
        | none => .fail 25)
      | .invoke r name => (match opv fr r with
        | some s => loud st (.callM s.val name args.toArray (shOf P o.type) fun x => kk ((shOf P o.type).sv x))
        | none => .fail 25)
      | .builtin .len => (match c.argTypes.toList, args with
        | t :: _, .string s :: _ => (match P.underlying t with | some .string => kk (.v (.int .i64 s.size)) | _ => .fail 26)
        | t :: _, .slice _ n _ :: _ => (match P.underlying t with | some (.slice _) => kk (.v (.int .i64 n)) | _ => .fail 26)
        | _, _ => effV P st (Builtin.len_ c.argTypes o.type args.toArray) o.type kk)
      | .builtin .cap => (match c.argTypes.toList, args with
        | t :: _, .slice _ _ n :: _ => (match P.underlying t with | some (.slice _) => kk (.v (.int .i64 n)) | _ => .fail 26)
        | _, _ => .fail 26)
      | .builtin .append => effV P st (Builtin.append_ c.argTypes o.type args.toArray) o.type kk
      | .builtin .copy => effV P st (Builtin.copy_ c.argTypes o.type args.toArray) o.type kk
      | .builtin .clear => effV P st (Builtin.clear_ c.argTypes o.type args.toArray) o.type kk
      | .builtin .max => effV P st (Builtin.max_ c.argTypes o.type args.toArray) o.type kk
      | .builtin .min => effV P st (Builtin.min_ c.argTypes o.type args.toArray) o.type kk
      | _ => .fail 27)
    | none => .fail 28
  | _ => .fail 29

/-- What an operation comes to that is no call. -/
def Goes (P : Program) (Q : Nat → List Value → World → Prop) (md : Md) (kk : SV → T) (w : World) (e : Sem Next) : Prop :=
  match md with
  | .loud => ∃ sv w', (e.run P w = .ok (.value sv.val) w' ∨ (e.run P w = .ok .skip w' ∧ sv.val = undef)) ∧ sat P (kk sv) Q w'
  | .still => ∃ sv, e.run P w = .ok (.value sv.val) w ∧ sat P (kk sv) Q w
  | .quiet => ∃ sv, (∀ w', RowKit.Below w.heap.size w w' → e.run P w' = .ok (.value sv.val) w') ∧ sat P (kk sv) Q w
theorem Goes.val {P : Program} {Q : Nat → List Value → World → Prop} {md : Md} {kk : SV → T} {w : World} {e : Sem Next} (sv : SV) (h : ∀ w, e.run P w = .ok (.value sv.val) w) (hs : sat P (kk sv) Q w) : Goes P Q md kk w e := by
  cases md
  · exact ⟨sv, w, .inl (h w), hs⟩
  · exact ⟨sv, h w, hs⟩
  · exact ⟨sv, fun w' _ => h w', hs⟩
theorem run_value {P : Program} {w w' : World} {e : Sem Value} {x : Value} (h : e.run P w = .ok x w') : (do pure (Next.value (← e)) : Sem Next).run P w = .ok (.value x) w' := by
  simp [h]
theorem run_skip {P : Program} {w w' : World} {e : Sem Unit} (h : e.run P w = .ok () w') : (do e; pure Next.skip : Sem Next).run P w = .ok .skip w' := by
  simp [h]
theorem Goes.eff {P : Program} {Q : Nat → List Value → World → Prop} {md : Md} {kk : SV → T} {w : World} {e : Sem Value} {t : TypeId} (h : sat P (effV P md e t kk) Q w) : Goes P Q md kk w (do pure (Next.value (← e))) := by
  cases md
  · obtain ⟨x, w', h1, h2⟩ := h
    exact ⟨_, w', .inl (run_value (by rw [Sh.sv_val]; exact h1)), h2⟩
  · obtain ⟨x, h1, h2⟩ := h
    exact ⟨_, run_value (by rw [Sh.sv_val]; exact h1), h2⟩
  · obtain ⟨x, h1, h2⟩ := h
    exact ⟨_, fun w' hb => run_value (by rw [Sh.sv_val]; exact h1 w' hb), h2⟩
theorem Goes.of {P : Program} {Q : Nat → List Value → World → Prop} {md : Md} {kk : SV → T} {w : World} {e1 : Sem Value} {e2 : Sem Next} {t : TypeId} (hr : ∀ w x w', e1.run P w = .ok x w' → e2.run P w = .ok (.value x) w') (h : sat P (effV P md e1 t kk) Q w) : Goes P Q md kk w e2 := by
  cases md
  · obtain ⟨x, w', h1, h2⟩ := h
    exact ⟨_, w', .inl (hr _ _ _ (by rw [Sh.sv_val]; exact h1)), h2⟩
  · obtain ⟨x, h1, h2⟩ := h
    exact ⟨_, hr _ _ _ (by rw [Sh.sv_val]; exact h1), h2⟩
  · obtain ⟨x, h1, h2⟩ := h
    exact ⟨_, fun w' hb => hr _ _ _ (by rw [Sh.sv_val]; exact h1 w' hb), h2⟩
theorem nilV_run {P : Program} {w w' : World} {v x : Value} (h : (nilV v).run P w = .ok x w') : (execOp (fun _ => v) { dst := none, op := .nilCheck (.tmp 0), type := 0, pos := "", after := #[], guard := none }).run P w = .ok (.value x) w' := by
  unfold nilV at h
  rw [Sem.run_bind] at h
  cases hr : (execOp (fun _ => v) { dst := none, op := .nilCheck (.tmp 0), type := 0, pos := "", after := #[], guard := none }).run P w with
  | ok n w1 =>
    rw [hr, Result.andThen_ok] at h
    cases n with
    | value y =>
      have h := Result.ok.inj h
      rw [h.1, h.2]
    | _ => cases h
  | _ => rw [hr] at h; cases h
theorem cell_below {w w' : World} {a : Addr} {v : Value} (hb : RowKit.Below w.heap.size w w') (h : w.cell? a = some v) : w'.cell? a = some v := by
  have hlt : a.block < w.heap.size := by
    rcases Nat.lt_or_ge a.block w.heap.size with g | g
    · exact g
    · unfold World.cell? at h; rw [Array.getElem?_eq_none g] at h; cases h
  rw [hb.cell hlt]; exact h
theorem Goes.load {P : Program} {Q : Nat → List Value → World → Prop} {md : Md} {kk : SV → T} {w : World} {e : Sem Next} {a : Addr} {v : Value} (sv : SV) (hc : w.cell? a = some v)
    (h : ∀ w, w.cell? a = some v → e.run P w = .ok (.value sv.val) w) (hs : sat P (kk sv) Q w) : Goes P Q md kk w e := by
  cases md
  · exact ⟨sv, w, .inl (h w hc), hs⟩
  · exact ⟨sv, h w hc, hs⟩
  · exact ⟨sv, fun w' hb => h w' (cell_below hb hc), hs⟩
theorem loud_sat {P : Program} {Q : Nat → List Value → World → Prop} {st : Md} {t : T} {w : World} (h : sat P (loud st t) Q w) : st = .loud ∧ sat P t Q w := by
  cases st
  · exact ⟨rfl, h⟩
  · exact h.elim
  · exact h.elim
theorem sat_ite {P : Program} {Q : Nat → List Value → World → Prop} {b : Bool} {t e : T} {w : World} (h : sat P (.ite b t e) Q w) : sat P (if b then t else e) Q w := by
  cases b
  · exact h.2 rfl
  · exact h.1 rfl
theorem asP_sat {P : Program} {Q : Nat → List Value → World → Prop} {s : SV} {k : Addr → T} {w : World} (h : sat P (asP s k) Q w) : ∃ a, s.val = .pointer (some a) ∧ sat P (k a) Q w := by
  unfold asP at h
  split at h
  · exact ⟨_, rfl, h⟩
  · obtain ⟨a, rfl, h⟩ := h; exact ⟨a, rfl, h⟩
  · exact h.elim
theorem arith_run {P : Program} {Q : Nat → List Value → World → Prop} {kk : SV → T} {w : World} {op : BinOp} {t : TypeId} {x y : Operand} {k k' : IntKind} {a b : Int}
    (h : sat P (arith op k k' a b kk) Q w) : ∃ sv, (∀ w, (do eqGuard op t x y (.int k a) (.int k' b); binOp op t (.int k a) (.int k' b) : Sem Value).run P w = .ok (SV.val sv) w) ∧ sat P (kk sv) Q w := by
  unfold arith at h
  split at h
  · obtain ⟨h1, h2⟩ := h
    exact ⟨_, fun w => by simp [eqGuard, binOp, Op.shift, show ¬ b < 0 by omega, SV.val], h2⟩
  · obtain ⟨h1, h2⟩ := h
    exact ⟨_, fun w => by simp [eqGuard, binOp, Op.shift, show ¬ b < 0 by omega, SV.val], h2⟩
  · rename_i hs1 hs2
    split at h
    · rename_i e
      subst e
      split at h
      case h_4 => obtain ⟨h1, h2⟩ := h; exact ⟨_, fun w => by simp [eqGuard, binOp, Op.intDiv, h1, SV.val], h2⟩
      case h_5 => obtain ⟨h1, h2⟩ := h; exact ⟨_, fun w => by simp [eqGuard, binOp, Op.intDiv, h1, SV.val], h2⟩
      case h_16 => exact h.elim
      all_goals exact ⟨_, fun w => by simp [eqGuard, binOp, Op.intArith, Op.intBits, Op.intCmp, SV.val], h⟩
    · exact h.elim
theorem strOp_run {P : Program} {Q : Nat → List Value → World → Prop} {kk : SV → T} {w : World} {op : BinOp} {t : TypeId} {x y : Operand} {a b : ByteArray}
    (h : sat P (strOp op a b kk) Q w) : ∃ sv, (∀ w, (do eqGuard op t x y (.string a) (.string b); binOp op t (.string a) (.string b) : Sem Value).run P w = .ok (SV.val sv) w) ∧ sat P (kk sv) Q w := by
  unfold strOp at h
  split at h
  · obtain ⟨h1, h2⟩ := h
    have h3 : ¬ (((a.size + b.size : Nat) : Int) > IntKind.i64.max) := by
      have : IntKind.i64.max = 9223372036854775807 := by decide
      omega
    exact ⟨_, fun w => by simp only [eqGuard, binOp, Op.stringOp, if_neg h3]; rfl, h2⟩
  case h_8 => exact h.elim
  all_goals exact ⟨_, fun w => by simp [eqGuard, binOp, Op.stringOp, SV.val, strEq, strLt], h⟩
theorem equal_eq (t : TypeId) (x y : Value) : ∃ d, Op.equal t x y = Op.equalIn (d + 1) t x y := ⟨9999, rfl⟩
theorem iface_run {P : Program} {w : World} {t : TypeId} {ms : Array (String × TypeId)} {v c : Value} {x : Operand} (hu : P.underlying t = some (.interface ms)) (hv : isIface v = true) :
    (do eqGuard .eql t x (.const c) v .nilIface; binOp .eql t v .nilIface : Sem Value).run P w = .ok (.bool (isNil v)) w ∧
    (do eqGuard .neq t x (.const c) v .nilIface; binOp .neq t v .nilIface : Sem Value).run P w = .ok (.bool (!isNil v)) w := by
  obtain ⟨d, hd⟩ := equal_eq t v .nilIface
  cases v <;> first | (exfalso; simp [isIface] at hv; done) | skip
  · constructor <;> (simp only [eqGuard, binOp, hd]; simp [Op.equalIn, underlying, hu, isNil])
  · constructor <;> (simp only [eqGuard, binOp, hd]; simp [Op.equalIn, underlying, hu, isNil])
theorem ptr_run {P : Program} {w : World} {t e : TypeId} {p : Option Addr} {x y : Operand} (hu : P.underlying t = some (.pointer e)) :
    (do eqGuard .eql t x y (.pointer p) (.pointer none); binOp .eql t (.pointer p) (.pointer none) : Sem Value).run P w = .ok (.bool p.isNone) w ∧
    (do eqGuard .neq t x y (.pointer p) (.pointer none); binOp .neq t (.pointer p) (.pointer none) : Sem Value).run P w = .ok (.bool (!p.isNone)) w := by
  obtain ⟨d, hd⟩ := equal_eq t (.pointer p) (.pointer none)
  cases p
  · constructor <;> (simp only [eqGuard, binOp, hd]; simp [Op.equalIn, underlying, hu])
  · constructor <;> (simp only [eqGuard, binOp, hd]; simp [Op.equalIn, underlying, hu])
theorem bool_run {P : Program} {w : World} {t : TypeId} {a b : Bool} {x y : Operand} (hu : P.underlying t = some .bool) :
    (do eqGuard .eql t x y (.bool a) (.bool b); binOp .eql t (.bool a) (.bool b) : Sem Value).run P w = .ok (.bool (a == b)) w ∧
    (do eqGuard .neq t x y (.bool a) (.bool b); binOp .neq t (.bool a) (.bool b) : Sem Value).run P w = .ok (.bool (!(a == b))) w := by
  obtain ⟨d, hd⟩ := equal_eq t (.bool a) (.bool b)
  constructor <;> (simp only [eqGuard, binOp, hd]; simp [Op.equalIn, underlying, hu])
theorem slc_run {P : Program} {w : World} {t e : TypeId} {p : Option Addr} {l c l' c' : Nat} {x y : Operand} (hu : P.underlying t = some (.slice e)) :
    (do eqGuard .eql t x y (.slice p l c) (.slice none l' c'); binOp .eql t (.slice p l c) (.slice none l' c') : Sem Value).run P w = .ok (.bool p.isNone) w ∧
    (do eqGuard .neq t x y (.slice p l c) (.slice none l' c'); binOp .neq t (.slice p l c) (.slice none l' c') : Sem Value).run P w = .ok (.bool (!p.isNone)) w := by
  obtain ⟨d, hd⟩ := equal_eq t (.slice p l c) (.slice none l' c')
  cases p
  · constructor <;> (simp only [eqGuard, binOp, hd]; simp [Op.equalIn, underlying, hu])
  · constructor <;> (simp only [eqGuard, binOp, hd]; simp [Op.equalIn, underlying, hu])
theorem run_und {P : Program} {w : World} {t : TypeId} {d : TypeDesc} (h : P.underlying t = some d) : (underlying t).run P w = .ok d w := by simp [underlying, h]
theorem run_size {P : Program} {w : World} {t : TypeId} {i : TypeInfo} (h : P.info? t = some i) : (sizeOf t).run P w = .ok i.size w := by simp [sizeOf, typeInfo, h]
theorem places_run {P : Program} {w : World} : ∀ {l : List Field} {ps : List (Nat × Nat)}, placesOf P l = some ps → (l.mapM fun f => do pure (f.offset, ← sizeOf f.type) : Sem (List (Nat × Nat))).run P w = .ok ps w := by
  intro l
  induction l with
  | nil => intro ps h; simp only [placesOf, Option.some.injEq] at h; subst h; simp
  | cons f l ih =>
    intro ps h
    simp only [placesOf] at h
    split at h
    · rename_i i ps' hi hps
      simp only [Option.some.injEq] at h
      subst h
      have h1 := ih hps
      simp only [List.mapM_cons, Sem.run_bind, Sem.run_pure, Result.andThen_ok, run_size hi]
      rw [h1]
      rfl
    · cases h
theorem build_run {P : Program} {w : World} {t : TypeId} {ps : List (Nat × Value)} {cs : Array Value} (h : buildV P t ps = some cs) : (Instr.build t ps.toArray).run P w = .ok (.agg cs) w := by
  unfold buildV at h
  split at h
  · cases h
  · rename_i i hi
    split at h
    · cases h
    · rename_i z hz
      have hzero : (zeroValue t).run P w = .ok z w := by simp [zeroValue, typeInfo, hi, hz]
      split at h
      · rename_i fields hu
        split at h
        · rename_i pl hpl
          have hm : (fields.mapM fun f => do pure (f.offset, ← sizeOf f.type) : Sem (Array (Nat × Nat))).run P w = .ok pl.toArray w := by
            rw [Array.mapM_eq_mapM_toList]
            simp only [Sem.run_map, places_run (w := w) hpl, Result.andThen_ok]
          have hf : Instr.fill (fun j => pl.toArray[j]?) z.cells ps = some cs := by
            have e : (fun j : Nat => pl.toArray[j]?) = (fun j : Nat => pl[j]?) := by funext j; simp
            rw [e]; exact h
          simp only [Instr.build, Sem.run_bind, hzero, Result.andThen_ok, run_und hu, hm]
          simp only [hf]
          rfl
        · cases h
      · rename_i m e hu
        split at h
        · rename_i ie hie
          simp only [Instr.build, Sem.run_bind, hzero, Result.andThen_ok, run_und hu, run_size hie, h]
          rfl
        · cases h
      · cases h
theorem run_agg {P : Program} {w : World} {t : TypeId} {b : Bool} (h : aggT P t = some b) : (isAgg t).run P w = .ok b w := by
  unfold aggT at h
  cases hu : P.underlying t with
  | none => rw [hu] at h; cases h
  | some d =>
    rw [hu] at h
    simp only [Option.map_some, Option.some.injEq] at h
    subst h
    cases d <;> simp [isAgg, underlying, hu, aggD]
theorem mapM_opv {n : Nat} {fr : Fr} {a : Act} (h : Agrees n fr a) : ∀ {l : List Operand} {vs : List Value}, l.mapM (fun x => (opv fr x).map SV.val) = some vs → l.map a.eval = vs := by
  intro l
  induction l with
  | nil => intro vs hv; simp at hv; subst hv; rfl
  | cons x l ih =>
    intro vs hv
    simp only [List.mapM_cons, Option.pure_def, Option.bind_eq_bind, Option.bind_eq_some_iff, Option.map_eq_some_iff] at hv
    obtain ⟨v, ⟨s, hs, rfl⟩, r, hr, hvs⟩ := hv
    simp only [Option.some.injEq] at hvs
    subst hvs
    simp only [List.map_cons, h.opv hs, ih hr]
theorem mapM_parts {n : Nat} {fr : Fr} {a : Act} (h : Agrees n fr a) : ∀ {l : List (Nat × Operand)} {vs : List (Nat × Value)},
    l.mapM (fun p => (opv fr p.2).map (fun s => (p.1, s.val))) = some vs → l.map (fun p => (p.1, a.eval p.2)) = vs := by
  intro l
  induction l with
  | nil => intro vs hv; simp at hv; subst hv; rfl
  | cons x l ih =>
    intro vs hv
    simp only [List.mapM_cons, Option.pure_def, Option.bind_eq_bind, Option.bind_eq_some_iff, Option.map_eq_some_iff] at hv
    obtain ⟨v, ⟨s, hs, rfl⟩, r, hr, hvs⟩ := hv
    simp only [Option.some.injEq] at hvs
    subst hvs
    simp only [List.map_cons, h.opv hs, ih hr]
end Go.Proofs.YtkpnomdmnhhaoaaGreatDoor.Rx
