/- A reader of loaded code, third part: whole functions. 'exec' follows the code; 'calls_of_tree': what the tree says, the call does. No statement of the set is proved here. -/
import Derived.Test.YtkpnomdmnhhaoaaGreatDoorRy
import Derived.Test.YtkpnomdmnhhaoaaGreatDoorRo
namespace Go.Proofs.YtkpnomdmnhhaoaaGreatDoor.Rx
open Go

inductive Ex where
  | normal | exit (id : Nat) | ret
def Ex.to : Ex → Exit
  | .normal => .normal | .exit id => .exit id | .ret => .ret

/-! ## The slots that code writes -/
def opDsts : List Oper → List Nat
  | [] => []
  | o :: r => match o.dst with | some d => d :: opDsts r | none => opDsts r
def dsts : Code → List Nat
  | .region _ ops _ => opDsts ops.toList
  | .seq a b => dsts a ++ dsts b
  | .cond _ a b => dsts a ++ dsts b
  | .block _ a => dsts a
  | .loop a => dsts a
  | .scope a => dsts a
  | _ => []
def firstRegion : Code → Option Nat
  | .region id _ _ => some id
  | .seq a b => (match firstRegion a with | some i => some i | none => firstRegion b)
  | .cond _ a b => (match firstRegion a with | some i => some i | none => firstRegion b)
  | .block _ a => firstRegion a
  | .loop a => firstRegion a
  | .scope a => firstRegion a
  | _ => none

abbrev Live := List (Nat × Sh)
/-- Where to cut, and what is carried over: at a test (the slot that holds it), at a block (its number), at a region (its number), at a loop (its first region's number). -/
structure Hints where
  conds : List (Nat × Live) := []
  blocks : List (Nat × Live) := []
  regions : List (Nat × Live) := []
  loops : List (Nat × Live) := []
def hint : List (Nat × Live) → Nat → Option Live
  | [], _ => none
  | (t', x) :: r, t => if Nat.beq t' t then some x else hint r t
def liveSh (L : Live) : Sh := Sh.ofList (L.map (·.2))
def headFr (L : Live) (x : (liveSh L).Ty) (D : List Nat) (fr : Fr) : Fr :=
  (List.zipWith (fun p s => (p.1, some s)) L ((liveSh L).svs x)) ++ (D.map (fun d => (d, none)) ++ fr)
def memB (l : List Nat) (t : Nat) : Bool := l.any (Nat.beq t)
def leafAt (l : Nat) (L : Live) (D : List Nat) (fr0 fr : Fr) : T :=
  if (fr.take (fr.length - fr0.length)).all (fun p => memB D p.1) then
    match L.mapM (fun p => (look fr p.1).map SV.val) with
    | some vs => .leaf l vs
    | none => .fail 40
  else .fail 41

/-! ## Operations in turn -/
def execOps (P : Program) (n : Nat) (st : Md) (ops : Array Oper) : List Oper → Fr → (Fr → T) → T
  | [], fr, k => k fr
  | o :: rest, fr, k =>
    let put (fr : Fr) (sv : SV) : T := match o.dst with
      | some d => if Nat.blt d n then execOps P n st ops rest ((d, some sv) :: fr) k else .fail 50
      | none => execOps P n st ops rest fr k
    let go (fr : Fr) : T := opT P st fr o (put fr)
    match o.guard with
    | none => go fr
    | some (j, want) => match (ops[j]?).bind (·.dst) with
      | none => .fail 51
      | some sj => match look fr sj with
        | some .tt => if want then go fr else put fr (.v undef)
        | some .ff => if want then put fr (.v undef) else go fr
        | some (.v (.tuple _)) => put fr (.v undef)
        | some (.v (.bool b)) => .ite b (if want then go ((sj, some .tt) :: fr) else put ((sj, some .tt) :: fr) (.v undef))
            (if want then put ((sj, some .ff) :: fr) (.v undef) else go ((sj, some .ff) :: fr))
        | _ => .fail 52

def callsIn (ops : Array Oper) : Bool := ops.toList.any fun o => match o.op with
  | .call { callee := .value _, .. } => true
  | .call { callee := .invoke _ _, .. } => true
  | _ => false
/-- What writes or makes. -/
def writes (P : Program) : Op → Bool
  | .store _ _ _ | .alloc _ | .box _ _ | .buildSlice _ _ _ | .makeSlice _ _ _ => true
  | .convert _ dst _ => (match P.underlying dst with | some (.slice _) => true | _ => false)
  | .call c => (match c.callee with | .builtin .append | .builtin .copy | .builtin .clear => true | _ => false)
  | _ => false
def callOp : Op → Bool
  | .call { callee := .value _, .. } => true
  | .call { callee := .invoke _ _, .. } => true
  | _ => false
def firstIx (p : Oper → Bool) : List Oper → Nat → Option Nat
  | [], _ => none
  | o :: r, i => if p o then some i else firstIx p r (i + 1)
/-- Where the last operations begin, each of which waits for the one ahead of it, the first for all: the least place that fits. -/
def lastOf (ops : Array Oper) : Nat → Option Nat
  | 0 => none
  | f + 1 => let m := ops.size - (f + 1)
    if Region.sinkB .any ops m && Region.chainB .any ops m then some m else lastOf ops f
def pureOp (P : Program) (o : Op) : Bool := noCall o && !writes P o
def ordHere (P : Program) (ops : Array Oper) (m : Nat) : List (Nat × Bool) := ordOf P (pureOp P) .any ops m m (Array.replicate ops.size false)
def otHere (P : Program) (ops : Array Oper) (m : Nat) : OT := otOf P (pureOp P) .any ops m m (Array.replicate ops.size false)
/-- Every order of what is not the same in every world. -/
def otFork (P : Program) (ops : Array Oper) : OT := otOf P (isMvP P) .any ops ops.size ops.size (Array.replicate ops.size false)
/-- How a region that draws its order is read: 0: as a whole; 1: from a place on in turn, ahead of it nothing is written or called; 2: ahead of it calls that leave alone what there is; 3: what may be taken first is, the rest in turn. -/
def cutOf (P : Program) (ops : Array Oper) : Nat × Nat :=
  match firstIx (fun o => writes P o.op || callOp o.op) ops.toList 0 with
  | none => (0, 0)
  | some m => if Region.lexTailB .any ops.toList.toArray m then (1, m) else
    match lastOf ops ops.size with
    | some m => if ordAll .any ops m (ordHere P ops m) then (3, m) else (match firstIx (fun o => writes P o.op) ops.toList 0 with
      | none => (0, 0)
      | some m2 => if tailB .any ops m2 then (2, m2) else if otAll .any ops m (otHere P ops m) then (4, m) else (0, 0))
    | none => (0, 0)
/-- Operations in an order of ours: taken first, or in turn. D: what was taken first and may yet come up behind. -/
def execOrd (P : Program) (n : Nat) (ops : Array Oper) : List (Nat × Bool) → List Nat → Fr → (Fr → T) → T
  | [], _, fr, k => k fr
  | (i, true) :: r, D, fr, k => match ops[i]? with
    | some o => if noCall o.op then execOps P n .quiet ops [o] fr (fun fr' => execOrd P n ops r (if mvAt ops i then D else i :: D) fr' k) else .fail 67
    | none => .fail 67
  | (i, false) :: r, D, fr, k => match ops[i]? with
    | some o =>
      if (keepD .any ops D i).isEmpty then execOps P n .loud ops [o] fr (fun fr' => execOrd P n ops r (keepD .any ops D i) fr' k)
      else .here fun w0 => execOps P n .loud ops [o] fr (fun fr' => .grew w0 (execOrd P n ops r (keepD .any ops D i) fr' k))
    | none => .fail 67
/-- One operation in turn. -/
def turnT (P : Program) (n : Nat) (ops : Array Oper) (i : Nat) (D : List Nat) (fr : Fr) (k : Fr → T) : T := match ops[i]? with
  | some o =>
    if (keepD .any ops D i).isEmpty then execOps P n .loud ops [o] fr k
    else .here fun w0 => execOps P n .loud ops [o] fr (fun fr' => .grew w0 (k fr'))
  | none => .fail 67
/-- Operations in an order with forks. -/
def execOT (P : Program) (n : Nat) (ops : Array Oper) : OT → List Nat → Fr → (Fr → T) → T
  | .done, _, fr, k => k fr
  | .first i r, D, fr, k => match ops[i]? with
    | some o => if noCall o.op then execOps P n .quiet ops [o] fr (fun fr' => execOT P n ops r (if mvAt2 ops i then D else i :: D) fr' k) else .fail 67
    | none => .fail 67
  | .turn i r, D, fr, k => turnT P n ops i D fr (fun fr' => execOT P n ops r (keepD .any ops D i) fr' k)
  | .fork i j r1 r2, D, fr, k => .both (turnT P n ops i D fr (fun fr' => execOT P n ops r1 (keepD .any ops D i) fr' k)) (turnT P n ops j D fr (fun fr' => execOT P n ops r2 (keepD .any ops D j) fr' k))
  | .fork3 i j l r1 r2 r3, D, fr, k => .both (turnT P n ops i D fr (fun fr' => execOT P n ops r1 (keepD .any ops D i) fr' k)) (.both (turnT P n ops j D fr (fun fr' => execOT P n ops r2 (keepD .any ops D j) fr' k)) (turnT P n ops l D fr (fun fr' => execOT P n ops r3 (keepD .any ops D l) fr' k)))
/-- Operations in an order with forks, to the end. -/
def execOTF (P : Program) (n : Nat) (ops : Array Oper) : OT → Fr → (Fr → T) → T
  | .done, fr, k => k fr
  | .first i r, fr, k => match ops[i]? with
    | some o => if noCall o.op then execOps P n .quiet ops [o] fr (fun fr' => execOTF P n ops r fr' k) else .fail 67
    | none => .fail 67
  | .turn i r, fr, k => turnT P n ops i [] fr (fun fr' => execOTF P n ops r fr' k)
  | .fork i j r1 r2, fr, k => .both (turnT P n ops i [] fr (fun fr' => execOTF P n ops r1 fr' k)) (turnT P n ops j [] fr (fun fr' => execOTF P n ops r2 fr' k))
  | .fork3 i j l r1 r2 r3, fr, k => .both (turnT P n ops i [] fr (fun fr' => execOTF P n ops r1 fr' k)) (.both (turnT P n ops j [] fr (fun fr' => execOTF P n ops r2 fr' k)) (turnT P n ops l [] fr (fun fr' => execOTF P n ops r3 fr' k)))
def exec (P : Program) (h : Hints) (n : Nat) : Code → Nat → Fr → (Ex → Fr → T) → T
  | .skip, _, fr, k => k .normal fr
  | .ret, _, fr, k => k .ret fr
  | .exit id, _, fr, k => k (.exit id) fr
  | .seq a b, d, fr, k => exec P h n a d fr (fun e fr' => match e with | .normal => exec P h n b d fr' k | e => k e fr')
  | .cond c x y, d, fr, k => match opv fr c with
    | some .tt => exec P h n x d fr k
    | some .ff => exec P h n y d fr k
    | some (.v (.bool b)) =>
      (match (match c with | .tmp t => hint h.conds t | _ => none) with
      | none => .ite b (exec P h n x d fr k) (exec P h n y d fr k)
      | some L =>
        let D := dsts x ++ dsts y ++ L.map (·.1)
        .cut (d + 1) (liveSh L)
          (.ite b (exec P h n x (d + 1) fr (fun e fr' => match e with | .normal => leafAt (d + 1) L D fr fr' | e => k e fr'))
                  (exec P h n y (d + 1) fr (fun e fr' => match e with | .normal => leafAt (d + 1) L D fr fr' | e => k e fr')))
          (fun z => k .normal (headFr L z D fr)))
    | _ => .fail 60
  | .block id c, d, fr, k => match hint h.blocks id with
    | none => exec P h n c d fr (fun e fr' => match e with | .exit i => (if Nat.beq i id then k .normal fr' else k e fr') | e => k e fr')
    | some L =>
      let D := dsts c
      .cut (d + 1) (liveSh L)
        (exec P h n c (d + 1) fr (fun e fr' => match e with
          | .normal => leafAt (d + 1) L D fr fr'
          | .exit i => (if Nat.beq i id then leafAt (d + 1) L D fr fr' else k e fr')
          | e => k e fr'))
        (fun z => k .normal (headFr L z D fr))
  | .loop c, d, fr, k => match (firstRegion c).bind (hint h.loops) with
    | none => .fail 61
    | some L =>
      let D := dsts c
      match L.mapM (fun p => (look fr p.1).map SV.val) with
      | none => .fail 62
      | some init => .loop (d + 1) (liveSh L) init (fun z => exec P h n c (d + 1) (headFr L z D fr) (fun e fr' => match e with
          | .normal => leafAt (d + 1) L D fr fr'
          | e => k e fr'))
  | .region id ops draw, d, fr, k =>
    let run (k' : Fr → T) : T :=
      if draw then
        (match hint h.blocks (100000 + id) with
        | some _ => if P.follows .mixedOrders && otFull P .any ops (otFork P ops) then .drew (execOTF P n ops (otFork P ops) fr k') else .fail 73
        | none => match cutOf P ops with
        | (1, m) => if P.follows .mixedOrders && Region.lexTailB .any ops.toList.toArray m then .drew (execOps P n .still ops.toList.toArray (ops.toList.take m) fr (fun fr' => execOps P n .loud ops.toList.toArray (ops.toList.drop m) fr' k')) else .fail 65
        | (2, m) => if P.follows .mixedOrders && tailB .any ops m then .drew (execOps P n .quiet (headOf ops m) (headOf ops m).toList fr (fun fr' => .grown (execOps P n .loud ops (ops.toList.drop m) fr' k'))) else .fail 66
        | (3, m) => if P.follows .mixedOrders && ordAll .any ops m (ordHere P ops m) then .drew (execOrd P n ops (ordHere P ops m) [] fr (fun fr' => execOps P n .loud ops (ops.toList.drop m) fr' k')) else .fail 68
        | (4, m) => if P.follows .mixedOrders && otAll .any ops m (otHere P ops m) then .drew (execOT P n ops (otHere P ops m) [] fr (fun fr' => execOps P n .loud ops (ops.toList.drop m) fr' k')) else .fail 69
        | _ => if P.follows .mixedOrders && Region.lexB .any ops then .drew (if callsIn ops then execOps P n .quiet ops ops.toList fr (fun fr' => .grown (k' fr')) else execOps P n .still ops ops.toList fr k') else .fail 63)
      else execOps P n .loud ops ops.toList fr k'
    match hint h.regions id with
    | none => run (fun fr' => k .normal fr')
    | some L =>
      let D := opDsts ops.toList
      .cut (d + 1) (liveSh L) (run (fun fr' => leafAt (d + 1) L D fr fr')) (fun z => k .normal (headFr L z D fr))
  | _, _, _, _ => .fail 64

def frArgs : Nat → List SV → Fr
  | _, [] => []
  | i, v :: r => (i, some v) :: frArgs (i + 1) r
def resK (P : Program) : List ResultVar → Fr → (List Value → T) → T
  | [], _, k => k []
  | .tmp t :: r, fr, k => (match look fr t with
    | some s => resK P r fr (fun vs => k (s.val :: vs))
    | none => .fail 71)
  | .cell b t :: r, fr, k => (match look fr b with
    | some s => asP s fun c => (match aggT P t with
      | some true => effV P .still (Instr.loadAt t (.pointer (some c))) t (fun sv => resK P r fr (fun vs => k (sv.val :: vs)))
      | some false => .load c (shOf P t) (fun x => resK P r fr (fun vs => k ((shOf P t).val x :: vs)))
      | none => .fail 72)
    | none => .fail 71)
def fnT (P : Program) (h : Hints) (fn : Func) (c : Code) (args : List SV) : T :=
  exec P h fn.ntmps c 0 (frArgs 0 args) (fun e fr => match e with
    | .exit _ => .fail 70
    | _ => resK P fn.results.toList fr (fun vs => .leaf 0 vs))
def retVal : List Value → Value
  | [v] => v
  | vs => .tuple vs.toArray

/-! ## Soundness -/
section
variable {P : Program} {n : Nat}

/-- 'fr'' has grown out of 'fr'. -/
def Grows (fr fr' : Fr) : Prop := ∃ l, fr' = l ++ fr
theorem Grows.refl (fr : Fr) : Grows fr fr := ⟨[], rfl⟩
theorem Grows.cons {fr fr' : Fr} (h : Grows fr fr') (p : Nat × Option SV) : Grows fr (p :: fr') := by
  obtain ⟨l, rfl⟩ := h; exact ⟨p :: l, rfl⟩
theorem Grows.trans {a b c : Fr} (h : Grows a b) (k : Grows b c) : Grows a c := by
  obtain ⟨l, rfl⟩ := h; obtain ⟨m, rfl⟩ := k; exact ⟨m ++ l, by simp⟩

theorem call_run {fr : Fr} {a : Act} {kk : SV → T} {w : World} {Q : Nat → List Value → World → Prop} {md : Md} (hA : Agrees n fr a) (o : Oper) (hn : noCall o.op = false)
    (h : sat P (opT P md fr o kk) Q w) : ∃ f args s, (∀ w, (execOp a.eval o).run P w = .ok (.enter f args) w) ∧ sat P (callV md f args s kk) Q w := by
  obtain ⟨dst, op, type, pos, after, guard⟩ := o
  cases op <;> first | (exfalso; simp [noCall] at hn; done) | skip
  case call c =>
    obtain ⟨callee, cargs, argTypes⟩ := c
    simp only [opT] at h
    split at h
    · rename_i args hargs
      have e : (cargs.map a.eval) = args.toArray := by
        have := mapM_opv hA hargs
        exact Array.toList_inj.1 (by simpa using this)
      have dyn : ∀ x, (match opv fr x with
          | some s => loud md (.callD s.val args.toArray (shOf P type) fun x => kk ((shOf P type).sv x))
          | none => .fail 25 : T) = (match opv fr x with
          | some s => loud md (.callD s.val args.toArray (shOf P type) fun x => kk ((shOf P type).sv x))
          | none => .fail 25 : T) → sat P (match opv fr x with
          | some s => loud md (.callD s.val args.toArray (shOf P type) fun x => kk ((shOf P type).sv x))
          | none => .fail 25 : T) Q w → ∃ f args s, (∀ w, (execOp a.eval { dst := dst, op := Op.call { callee := .value x, args := cargs, argTypes := argTypes }, type := type, pos := pos, after := after, guard := guard }).run P w = .ok (.enter f args) w) ∧ sat P (callV md f args s kk) Q w := by
        intro x _ h
        split at h
        · rename_i s hs
          obtain ⟨rfl, f, first, caps, h1, h2, h3⟩ := loud_sat h
          refine ⟨f, first ++ args.toArray ++ caps, _, fun w => ?_, h3⟩
          unfold goB at h2
          split at h2
          · rename_i fn hf
            simp only [Bool.and_eq_true, bne_iff_ne, ne_eq] at h2
            obtain ⟨hc1, hc2⟩ := h2
            obtain ⟨c, hb⟩ := Option.isSome_iff_exists.1 hc2
            have hx := hA.opv hs
            rw [h1] at hx
            simp [execOp, resolve, Deferred.ofValue, invoke, callFunc, e, hx, hf, hc1, hb]
          · cases h2
        · exact h.elim
      cases callee with
      | builtin b => simp [noCall] at hn
      | invoke r m =>
        simp only at h
        split at h
        · rename_i s hs
          obtain ⟨rfl, t, y, f, rv, h1, h2, h3, h4⟩ := loud_sat h
          refine ⟨f, #[rv] ++ args.toArray, _, fun w => ?_, h4⟩
          unfold goB at h3
          split at h3
          · rename_i fn hf
            simp only [Bool.and_eq_true, bne_iff_ne, ne_eq] at h3
            obtain ⟨hc1, hc2⟩ := h3
            obtain ⟨c, hb⟩ := Option.isSome_iff_exists.1 hc2
            have hx := hA.opv hs
            rw [h1] at hx
            simp [execOp, resolve, invoke, callMethod, callFunc, e, hx, hf, hc1, hb, h2]
          · cases h3
        · exact h.elim
      | value x =>
        cases x with
        | func f =>
          simp only at h
          split at h
          · rename_i fn hf
            split at h
            · rename_i hc
              refine ⟨f, args.toArray, _, fun w => ?_, h⟩
              simp only [Bool.and_eq_true, bne_iff_ne, ne_eq] at hc
              obtain ⟨hc1, hc2⟩ := hc
              obtain ⟨c, hb⟩ := Option.isSome_iff_exists.1 hc2
              simp [execOp, resolve, Deferred.ofValue, invoke, callFunc, e, Act.eval, hf, hc1, hb]
            · exact h.elim
          · exact h.elim
        | _ => exact dyn _ rfl h
    · exact h.elim

theorem wanted_none {o : Oper} {y : Nat → Option Bool} (h : o.guard = none) : Region.wanted o y = true := by simp [Region.wanted, h]
theorem wanted_some {o : Oper} {y : Nat → Option Bool} {j : Nat} {want b : Bool} (h : o.guard = some (j, want)) (hy : y j = some b) : Region.wanted o y = (b == want) := by
  simp only [Region.wanted, h, hy]
  cases b <;> cases want <;> rfl
theorem yielded_of {ops : Array Oper} {a : Act} {j sj : Nat} {b : Bool} (hj : (ops[j]?).bind (·.dst) = some sj) (ha : a.tmps[sj]? = some (.bool b)) : yielded ops a.tmps j = some b := by
  unfold yielded
  rw [hj]
  simp [ha]

theorem yielded_no {ops : Array Oper} {a : Act} {j sj : Nat} {x : Value} (hj : (ops[j]?).bind (·.dst) = some sj) (ha : a.tmps[sj]? = some x) (hx : ∀ b, x ≠ .bool b) : yielded ops a.tmps j = none := by
  unfold yielded
  rw [hj]
  simp only [Option.bind_some, ha]
  cases x <;> first | rfl | exact absurd rfl (hx _)
theorem wanted_no {o : Oper} {y : Nat → Option Bool} {j : Nat} {want : Bool} (h : o.guard = some (j, want)) (hy : y j = none) : Region.wanted o y = false := by
  simp only [Region.wanted, h, hy]
  cases want <;> rfl

/-- The common part of the walks over a region's operations. 'W l a w': the operations 'l' go through from 'a' and 'w'. -/
theorem ops_sound {Q : Nat → List Value → World → Prop} {md : Md} (ops : Array Oper) (W : List Oper → Act → World → Prop)
    (hval : ∀ o l a w (kk : SV → T), Goes P Q md kk w (execOp a.eval o) → Region.wanted o (yielded ops a.tmps) = true → (∀ sv w', sat P (kk sv) Q w' → W l (a.put o.dst (SV.val sv)) w') → W (o :: l) a w)
    (hskip : ∀ o l a w, Region.wanted o (yielded ops a.tmps) = false → W l (a.put o.dst undef) w → W (o :: l) a w)
    (hcall : ∀ o l a w f args s (kk : SV → T), noCall o.op = false → (∀ w, (execOp a.eval o).run P w = .ok (.enter f args) w) → sat P (callV md f args s kk) Q w → Region.wanted o (yielded ops a.tmps) = true →
      (∀ sv w', sat P (kk sv) Q w' → W l (a.put o.dst (SV.val sv)) w') → W (o :: l) a w) :
    ∀ (l : List Oper) (fr : Fr) (k : Fr → T) (a : Act) (w : World), Agrees n fr a → sat P (execOps P n md ops l fr k) Q w →
      (∀ fr' a' w', Grows fr fr' → Agrees n fr' a' → sat P (k fr') Q w' → W [] a' w') → W l a w := by
  intro l
  induction l with
  | nil => intro fr k a w hA h hk; exact hk fr a w (Grows.refl fr) hA h
  | cons o l ih =>
    intro fr k a w hA h hk
    simp only [execOps] at h
    -- putting a value
    have hput : ∀ (fr1 : Fr) (sv : SV) (w1 : World), Grows fr fr1 → Agrees n fr1 a →
        sat P (match o.dst with
          | some d => if Nat.blt d n then execOps P n md ops l ((d, some sv) :: fr1) k else .fail 50
          | none => execOps P n md ops l fr1 k) Q w1 → W l (a.put o.dst sv.val) w1 := by
      intro fr1 sv w1 hg hA1 hs
      cases hd : o.dst with
      | none =>
        rw [hd] at hs
        exact ih fr1 k a w1 hA1 hs fun fr' a' w' hg' hA' hs' => hk fr' a' w' (hg.trans hg') hA' hs'
      | some d =>
        rw [hd] at hs
        simp only at hs
        by_cases hlt : Nat.blt d n = true
        · rw [if_pos hlt] at hs
          have hdn : d < n := by simpa using hlt
          exact ih _ k _ w1 (hA1.put hdn sv) hs fun fr' a' w' hg' hA' hs' => hk fr' a' w' ((hg.cons _).trans hg') hA' hs'
        · rw [if_neg hlt] at hs; exact hs.elim
    -- carrying it out
    have hgo : ∀ (fr1 : Fr), Grows fr fr1 → Agrees n fr1 a → Region.wanted o (yielded ops a.tmps) = true →
        sat P (opT P md fr1 o (fun sv => match o.dst with
          | some d => if Nat.blt d n then execOps P n md ops l ((d, some sv) :: fr1) k else .fail 50
          | none => execOps P n md ops l fr1 k)) Q w → W (o :: l) a w := by
      intro fr1 hg hA1 hw hs
      cases hn : noCall o.op with
      | true => exact hval o l a w _ (opT_run hA1 o hn hs) hw fun sv w' h3 => hput fr1 sv w' hg hA1 h3
      | false =>
        obtain ⟨f, args, s, h1, h2⟩ := call_run hA1 o hn hs
        exact hcall o l a w f args s _ hn h1 h2 hw fun sv w' h3 => hput fr1 sv w' hg hA1 h3
    have hsk : ∀ (fr1 : Fr), Grows fr fr1 → Agrees n fr1 a → Region.wanted o (yielded ops a.tmps) = false →
        sat P (match o.dst with
          | some d => if Nat.blt d n then execOps P n md ops l ((d, some (.v undef)) :: fr1) k else .fail 50
          | none => execOps P n md ops l fr1 k) Q w → W (o :: l) a w :=
      fun fr1 hg hA1 hw hs => hskip o l a w hw (hput fr1 (.v undef) w hg hA1 hs)
    cases hgd : o.guard with
    | none =>
      rw [hgd] at h
      exact hgo fr (Grows.refl fr) hA (wanted_none hgd) h
    | some jw =>
      obtain ⟨j, want⟩ := jw
      rw [hgd] at h
      simp only at h
      cases hj : (ops[j]?).bind (·.dst) with
      | none => rw [hj] at h; exact h.elim
      | some sj =>
        rw [hj] at h
        simp only at h
        have known : ∀ b, a.tmps[sj]? = some (.bool b) → Region.wanted o (yielded ops a.tmps) = (b == want) := fun b hb => wanted_some hgd (yielded_of hj hb)
        cases hl : look fr sj with
        | none => rw [hl] at h; exact h.elim
        | some s =>
          rw [hl] at h
          have hat := hA.at_ sj s hl
          cases s with
          | tt =>
            simp only at h
            have hw := known true hat
            cases want
            · exact hsk fr (Grows.refl fr) hA hw (by simpa using h)
            · exact hgo fr (Grows.refl fr) hA hw (by simpa using h)
          | ff =>
            simp only at h
            have hw := known false hat
            cases want
            · exact hgo fr (Grows.refl fr) hA hw (by simpa using h)
            · exact hsk fr (Grows.refl fr) hA hw (by simpa using h)
          | o x => exact h.elim
          | p x => exact h.elim
          | v x =>
            cases x with
            | tuple vs =>
              simp only at h
              exact hsk fr (Grows.refl fr) hA (wanted_no hgd (yielded_no hj hat (by intro b hb; cases hb))) h
            | bool b =>
              simp only at h
              have hw := known b hat
              cases b
              · have h := h.2 rfl
                have hA1 : Agrees n ((sj, some .ff) :: fr) a := hA.same hat
                cases want
                · exact hgo _ ((Grows.refl fr).cons _) hA1 hw (by simpa using h)
                · exact hsk _ ((Grows.refl fr).cons _) hA1 hw (by simpa using h)
              · have h := h.1 rfl
                have hA1 : Agrees n ((sj, some .tt) :: fr) a := hA.same hat
                cases want
                · exact hsk _ ((Grows.refl fr).cons _) hA1 hw (by simpa using h)
                · exact hgo _ ((Grows.refl fr).cons _) hA1 hw (by simpa using h)
            | _ => exact h.elim

theorem wpLoud_of {Q : Nat → List Value → World → Prop} {QC : Exit → Act → World → Prop} {ops : Array Oper} {fr : Fr} {k : Fr → T} {a : Act} {w : World} (l : List Oper) (hA : Agrees n fr a)
    (h : sat P (execOps P n .loud ops l fr k) Q w) (hk : ∀ fr' a' w', Grows fr fr' → Agrees n fr' a' → sat P (k fr') Q w' → QC .normal a' w') :
    wpList P ops QC l a w := by
  refine ops_sound ops (fun l a w => wpList P ops QC l a w) ?_ ?_ ?_ l fr k a w hA h hk
  · rintro o l a w kk ⟨sv, w', h1, h2⟩ hw h3
    have h2 := h3 sv w' h2
    show wpList P ops QC (o :: l) a w
    unfold wpList
    rw [if_pos hw]
    left
    unfold Oper.wp
    rcases h1 with h1 | ⟨h1, h3⟩
    · rw [h1]; exact h2
    · rw [h1]; rw [h3] at h2; exact h2
  · intro o l a w hw h2
    show wpList P ops QC (o :: l) a w
    unfold wpList
    rw [if_neg (by simp [hw])]
    exact h2
  · intro o l a w f args s kk _ h1 h2 hw h3
    show wpList P ops QC (o :: l) a w
    unfold wpList
    rw [if_pos hw]
    left
    unfold Oper.wp
    rw [h1]
    have h2 : Calls P f args w _ := h2
    refine Calls.mono h2 ?_
    rintro e w' ⟨x, rfl, h4⟩
    have := h3 _ w' h4
    rw [Sh.sv_val] at this
    exact this

theorem wpOps_of {Q : Nat → List Value → World → Prop} {QC : Exit → Act → World → Prop} {ops : Array Oper} {fr : Fr} {k : Fr → T} {a : Act} {w : World} (hA : Agrees n fr a)
    (h : sat P (execOps P n .loud ops ops.toList fr k) Q w) (hk : ∀ fr' a' w', Grows fr fr' → Agrees n fr' a' → sat P (k fr') Q w' → QC .normal a' w') (id : Nat) :
    (Code.region id ops false).wp P QC a w := wp_region_list (wpLoud_of ops.toList hA h hk)

theorem wpStillL_of {Q : Nat → List Value → World → Prop} {L : Act → Prop} {ops : Array Oper} {fr : Fr} {k : Fr → T} {a : Act} {w : World} (l : List Oper) (hA : Agrees n fr a)
    (h : sat P (execOps P n .still ops l fr k) Q w) (hk : ∀ fr' a', Grows fr fr' → Agrees n fr' a' → sat P (k fr') Q w → L a') : wpStill P ops w L l a := by
  have key := ops_sound (P := P) (n := n) (md := .still) ops (fun l a w' => w' = w → wpStill P ops w L l a) ?_ ?_ ?_ l fr k a w hA h
    (fun fr' a' w' hg hA' hs hw => by subst hw; exact hk fr' a' hg hA' hs)
  · exact key rfl
  · rintro o l a w1 kk ⟨sv, h1, h2⟩ hw h3 he
    subst he
    have h2 := h3 sv _ h2 rfl
    show wpStill P ops _ _ (o :: l) a
    unfold wpStill
    rw [if_pos hw]
    unfold Oper.still
    rw [h1]; exact ⟨rfl, h2⟩
  · intro o l a w1 hw h2 he
    show wpStill P ops w _ (o :: l) a
    unfold wpStill
    rw [if_neg (by simp [hw])]
    exact h2 he
  · intro o l a w1 f args s kk _ _ h2 _ _ _
    exact h2.elim
theorem wpQuietL_of {Q : Nat → List Value → World → Prop} {L : Act → Prop} {ops : Array Oper} {fr : Fr} {k : Fr → T} {a : Act} {w : World} (l : List Oper) (hA : Agrees n fr a)
    (h : sat P (execOps P n .quiet ops l fr k) Q w) (hk : ∀ fr' a', Grows fr fr' → Agrees n fr' a' → sat P (k fr') Q w → L a') : wpQuiet P ops (fun w' => RowKit.Below w.heap.size w w') L l a := by
  have key := ops_sound (P := P) (n := n) (md := .quiet) ops (fun l a w' => w' = w → wpQuiet P ops (fun w' => RowKit.Below w.heap.size w w') L l a) ?_ ?_ ?_ l fr k a w hA h
    (fun fr' a' w' hg hA' hs hw => by subst hw; exact hk fr' a' hg hA' hs)
  · exact key rfl
  · rintro o l a w1 kk ⟨sv, h1, h2⟩ hw h3 he
    subst he
    have h2 := h3 sv _ h2 rfl
    show wpQuiet P ops _ _ (o :: l) a
    unfold wpQuiet
    rw [if_pos hw]
    refine ⟨sv.val, fun w' hb => ?_, h2⟩
    unfold Oper.quietAt
    rw [h1 w' hb]
    exact ⟨rfl, rfl⟩
  · intro o l a w1 hw h2 he
    show wpQuiet P ops _ _ (o :: l) a
    unfold wpQuiet
    rw [if_neg (by simp [hw])]
    exact h2 he
  · rintro o l a w1 f args s kk _ h1 ⟨x, h2, h3⟩ hw h4 he
    subst he
    have h5 := h4 _ _ h3 rfl
    rw [Sh.sv_val] at h5
    show wpQuiet P ops _ _ (o :: l) a
    unfold wpQuiet
    rw [if_pos hw]
    refine ⟨s.val x, fun w' hb => ?_, h5⟩
    unfold Oper.quietAt
    rw [h1 w']
    exact ⟨rfl, h2 w' hb⟩
theorem wpStillT_of {Q : Nat → List Value → World → Prop} {QC : Exit → Act → World → Prop} {ops : Array Oper} {fr : Fr} {k : Fr → T} {a : Act} {w : World} {m : Nat} (hA : Agrees n fr a)
    (hm : (P.follows .mixedOrders && Region.lexTailB .any ops.toList.toArray m) = true)
    (h : sat P (execOps P n .still ops.toList.toArray (ops.toList.take m) fr (fun fr' => execOps P n .loud ops.toList.toArray (ops.toList.drop m) fr' k)) Q w.drew)
    (hk : ∀ fr' a' w', Grows fr fr' → Agrees n fr' a' → sat P (k fr') Q w' → QC .normal a' w') (id : Nat) :
    (Code.region id ops true).wp P QC a w := by
  obtain ⟨hm1, hm2⟩ := Bool.and_eq_true_iff.1 hm
  refine wp_region_still_tail (l := ops.toList) m hm1 hm2 ?_
  exact wpStillL_of (L := fun a' => wpList P ops.toList.toArray QC (ops.toList.drop m) a' w.drew) _ hA h fun fr' a' hg hA' hs =>
    wpLoud_of _ hA' hs fun fr'' a'' w'' hg' hA'' hs' => hk fr'' a'' w'' (hg.trans hg') hA'' hs'
theorem wpQuietT_of {Q : Nat → List Value → World → Prop} {QC : Exit → Act → World → Prop} {ops : Array Oper} {fr : Fr} {k : Fr → T} {a : Act} {w : World} {m : Nat} (hA : Agrees n fr a)
    (hm : (P.follows .mixedOrders && tailB .any ops m) = true)
    (h : sat P (execOps P n .quiet (headOf ops m) (headOf ops m).toList fr (fun fr' => .grown (execOps P n .loud ops (ops.toList.drop m) fr' k))) Q w.drew)
    (hk : ∀ fr' a' w', Grows fr fr' → Agrees n fr' a' → sat P (k fr') Q w' → QC .normal a' w') (id : Nat) :
    (Code.region id ops true).wp P QC a w := by
  obtain ⟨hm1, hm2⟩ := Bool.and_eq_true_iff.1 hm
  refine wp_region_quiet_tail (C := fun w' => RowKit.Below w.drew.heap.size w.drew w') m hm1 hm2 (RowKit.Below.refl _ _) ?_
  exact wpQuietL_of (L := fun a' => ∀ w', RowKit.Below w.drew.heap.size w.drew w' → wpList P ops QC (ops.toList.drop m) a' w') _ hA h fun fr' a' hg hA' hs w' hb =>
    wpLoud_of _ hA' (hs w' hb) fun fr'' a'' w'' hg' hA'' hs' => hk fr'' a'' w'' (hg.trans hg') hA'' hs'

/-- Taken first. -/
theorem take_of {Q : Nat → List Value → World → Prop} {QC : Exit → Act → World → Prop} {ops : Array Oper} {fr : Fr} {k : Fr → T} {a : Act} {w : World} {m i f : Nat} {D : List Nat} {listed : Array Bool} {o : Oper} {mv : Bool} (hmv : mv = true → isMv2 o.op = true) (hA : Agrees n fr a)
    (hi : ops[i]? = some o) (hn : noCall o.op = true) (hsel : Region.noSelect ops = true) (hQ : ∀ c a w, ¬ QC (.panic c) a w) (hs : Region.sinkB .any ops m = true) (hc : Region.chainB .any ops m = true) (hm : m < ops.size) (him : i < m)
    (inv : HeadInv .any ops m listed) (hr : i ∈ Region.ready .any ops listed) (hf : Region.free .any ops listed i = true)
    (h : sat P (execOps P n .quiet ops [o] fr k) Q w)
    (hk : ∀ fr' a', Grows fr fr' → Agrees n fr' a' → sat P (k fr') Q w → anyB P .any ops QC (fun w' => RowKit.Below w.heap.size w w') f (if mv then D else i :: D) (listed.setIfInBounds i true) a' w) :
    anyB P .any ops QC (fun w' => RowKit.Below w.heap.size w w') (f + 1) D listed a w := by
  have first : ∀ (v : Value) (a : Act), YieldsIf P ops (fun w' => RowKit.Below w.heap.size w w') o v a → anyB P .any ops QC (fun w' => RowKit.Below w.heap.size w w') f (if mv then D else i :: D) (listed.setIfInBounds i true) (a.put o.dst v) w →
      anyB P .any ops QC (fun w' => RowKit.Below w.heap.size w w') (f + 1) D listed a w := by
    intro v a hy H
    by_cases hmv' : mv = true
    · rw [if_pos hmv'] at H
      have hmo : isMv2 o.op = true := hmv hmv'
      have hy' : YieldsIf P ops (fun _ => True) o v a := by
        rcases hy with ⟨h1, h2⟩ | h3
        · refine .inl ⟨h1, fun w' _ => ?_⟩
          have h0 := h2 w (RowKit.Below.refl _ _)
          obtain ⟨dst, op, type, pos, after, guard⟩ := o
          cases op with
          | move x =>
            simp [execOp] at h0 ⊢
            exact h0
          | extract x j =>
            simp only [execOp] at h0 ⊢
            cases hv : a.eval x with
            | tuple vs =>
              rw [hv] at h0
              simp only [Instr.extract] at h0 ⊢
              cases hx : vs[j]? with
              | none => simp [hx] at h0
              | some u => simp [hx] at h0 ⊢; exact h0
            | _ => rw [hv] at h0; simp [Instr.extract] at h0
          | pick c x y =>
            simp only [execOp] at h0 ⊢
            cases hv : a.eval c with
            | bool b => rw [hv] at h0; simp [asBool] at h0 ⊢; exact h0
            | _ => rw [hv] at h0; simp [asBool] at h0
          | binOp bo xT x y yT =>
            simp only [isMv2, Bool.and_eq_true] at hmo
            obtain ⟨hmo1, hmo2⟩ := hmo
            cases y with
            | const c =>
              cases c with
              | int ck cn =>
                simp only [execOp] at h0 ⊢
                have ev : a.eval (.const (.int ck cn)) = .int ck cn := rfl
                rw [ev] at h0 ⊢
                simp only [bind_assoc] at h0 ⊢
                exact ord_pure hmo1 h0
              | _ => exact absurd hmo2 (by simp [constI])
            | _ => exact absurd hmo2 (by simp [constI])
          | _ => simp [isMv2] at hmo
        · exact .inr h3
      exact anyB_move (P := P) (Q := QC) hi (Region.noSelect_spec hsel) hQ hs hc hm him f D listed a w inv (Region.free_spec hi hf) hr hy' (fun _ => RowKit.Below.refl _ _) H
    · rw [if_neg hmv'] at H
      exact anyB_first (P := P) (Q := QC) hi (Region.noSelect_spec hsel) hQ hs hc hm him f D listed a w inv (Region.free_spec hi hf) hr hy (RowKit.Below.refl _ _) H
  have key := ops_sound (P := P) (n := n) (md := .quiet) ops (fun l a w' => w' = w → (l = [] → anyB P .any ops QC (fun w' => RowKit.Below w.heap.size w w') f (if mv then D else i :: D) (listed.setIfInBounds i true) a w) ∧ (l = [o] → anyB P .any ops QC (fun w' => RowKit.Below w.heap.size w w') (f + 1) D listed a w))
    ?_ ?_ ?_ [o] fr k a w hA h (fun fr' a' w' hg hA' hs hw => by subst hw; exact ⟨fun _ => hk fr' a' hg hA' hs, fun e => (by cases e)⟩)
  · exact (key rfl).2 rfl
  · rintro o' l a w1 kk ⟨sv, h1, h2⟩ hw h3 he
    subst he
    refine ⟨fun e => (by cases e), fun e => ?_⟩
    cases e
    exact first sv.val a (.inl ⟨hw, fun w' hb => h1 w' hb⟩) ((h3 sv _ h2 rfl).1 rfl)
  · intro o' l a w1 hw h2 he
    subst he
    refine ⟨fun e => (by cases e), fun e => ?_⟩
    cases e
    exact first undef a (.inr ⟨hw, rfl⟩) ((h2 rfl).1 rfl)
  · intro o' l a w1 f args s kk hn' _ _ _ _ he
    refine ⟨fun e => (by cases e), fun e => ?_⟩
    cases e
    rw [hn] at hn'; cases hn'
/-- In turn. -/
theorem turn_at {Q : Nat → List Value → World → Prop} {QC : Exit → Act → World → Prop} {ops : Array Oper} {fr : Fr} {k : Fr → T} {a : Act} {w : World} {i f : Nat} {D : List Nat} {listed : Array Bool} {o : Oper} (hA : Agrees n fr a)
    (hi : ops[i]? = some o) {S : World → Prop}
    (h : sat P (execOps P n .loud ops [o] fr k) Q w)
    (hk : ∀ fr' a' w', Grows fr fr' → Agrees n fr' a' → sat P (k fr') Q w' → (keepD .any ops D i ≠ [] → S w') ∧ anyB P .any ops QC S f (keepD .any ops D i) (listed.setIfInBounds i true) a' w') :
    wpOp P ops QC i (fun a' w' => (keepD .any ops D i ≠ [] → S w') ∧ anyB P .any ops QC S f (keepD .any ops D i) (listed.setIfInBounds i true) a' w') a w := by
  have key := ops_sound (P := P) (n := n) (md := .loud) ops (fun l a w' => (l = [] → (keepD .any ops D i ≠ [] → S w') ∧ anyB P .any ops QC S f (keepD .any ops D i) (listed.setIfInBounds i true) a w') ∧
      (l = [o] → wpOp P ops QC i (fun a' w' => (keepD .any ops D i ≠ [] → S w') ∧ anyB P .any ops QC S f (keepD .any ops D i) (listed.setIfInBounds i true) a' w') a w'))
    ?_ ?_ ?_ [o] fr _ a w hA h (fun fr' a' w' hg hA' hs => ⟨fun _ => hk fr' a' w' hg hA' hs, fun e => (by cases e)⟩)
  · exact key.2 rfl
  · rintro o' l a w1 kk ⟨sv, w', h1, h2⟩ hw h3
    refine ⟨fun e => (by cases e), fun e => ?_⟩
    cases e
    have h2 := (h3 sv w' h2).1 rfl
    unfold wpOp
    simp only [hi]
    rw [if_pos hw]
    left
    unfold Oper.wp
    rcases h1 with h1 | ⟨h1, h3⟩
    · rw [h1]; exact h2
    · rw [h1]; rw [h3] at h2; exact h2
  · intro o' l a w1 hw h2
    refine ⟨fun e => (by cases e), fun e => ?_⟩
    cases e
    unfold wpOp
    simp only [hi]
    rw [if_neg (by simp [hw])]
    exact h2.1 rfl
  · intro o' l a w1 f args s kk _ h1 h2 hw h3
    refine ⟨fun e => (by cases e), fun e => ?_⟩
    cases e
    unfold wpOp
    simp only [hi]
    rw [if_pos hw]
    left
    unfold Oper.wp
    rw [h1]
    have h2 : Calls P f args w1 _ := h2
    refine Calls.mono h2 ?_
    rintro e w' ⟨x, rfl, h4⟩
    have := (h3 _ w' h4).1 rfl
    rw [Sh.sv_val] at this
    exact this
/-- In turn: nothing else may come up. -/
theorem turn_of {Q : Nat → List Value → World → Prop} {QC : Exit → Act → World → Prop} {ops : Array Oper} {fr : Fr} {k : Fr → T} {a : Act} {w : World} {i f : Nat} {D : List Nat} {listed : Array Bool} {o : Oper} (hA : Agrees n fr a)
    (hi : ops[i]? = some o) (hr : Region.ready .any ops listed = [i]) {S : World → Prop}
    (h : sat P (execOps P n .loud ops [o] fr k) Q w)
    (hk : ∀ fr' a' w', Grows fr fr' → Agrees n fr' a' → sat P (k fr') Q w' → (keepD .any ops D i ≠ [] → S w') ∧ anyB P .any ops QC S f (keepD .any ops D i) (listed.setIfInBounds i true) a' w') :
    anyB P .any ops QC S (f + 1) D listed a w := by
  refine ⟨fun h0 => (by rw [h0] at hr; cases hr), fun j hj => ?_⟩
  have hji : j = i := by rw [hr] at hj; simpa using hj
  subst hji
  exact turn_at hA hi h hk
theorem ord_of {Q : Nat → List Value → World → Prop} {QC : Exit → Act → World → Prop} {ops : Array Oper} {k : Fr → T} {m : Nat} (hsel : Region.noSelect ops = true) (hQ : ∀ c a w, ¬ QC (.panic c) a w)
    (hs : Region.sinkB .any ops m = true) (hc : Region.chainB .any ops m = true) (hm : m < ops.size) (fr0 : Fr)
    (hk : ∀ fr' a' w', Grows fr0 fr' → Agrees n fr' a' → sat P (k fr') Q w' → QC .normal a' w') :
    ∀ (l : List (Nat × Bool)) (D : List Nat) (listed : Array Bool) (fr : Fr) (a : Act) (w : World), Grows fr0 fr → Agrees n fr a → HeadInv .any ops m listed → ordB .any ops m l D listed = true →
      sat P (execOrd P n ops l D fr (fun fr' => execOps P n .loud ops (ops.toList.drop m) fr' k)) Q w → anyB P .any ops QC (fun w' => RowKit.Below w.heap.size w w') (l.length + (ops.size - m)) D listed a w := by
  intro l
  induction l with
  | nil =>
    intro D listed fr a w hg hA inv hB h
    simp only [ordB, Bool.and_eq_true, List.isEmpty_iff] at hB
    obtain ⟨hD, hB⟩ := hB
    have h1 : wpList P ops QC (ops.toList.drop m) a w := wpLoud_of _ hA h fun fr' a' w' hg' hA' hs' => hk fr' a' w' (hg.trans hg') hA' hs'
    have hd : (ops.toList.drop m).length = ops.size - m := by simp
    have h2 := wpAny_of_seq (P := P) (md := .any) (Q' := QC) (ops.toList.drop m) m listed a w (fun j => by simp [List.getElem?_drop]) (by rw [hd]; exact hB) h1
    rw [hd] at h2
    rw [List.length_nil, Nat.zero_add]
    obtain ⟨g, hg'⟩ : ∃ g, ops.size - m = g + 1 := ⟨ops.size - m - 1, by omega⟩
    rw [hg'] at h2 hB ⊢
    simp only [Region.seqB, Bool.and_eq_true, decide_eq_true_eq] at hB
    exact anyB_tail hB.1 hD h2
  | cons x l ih =>
    obtain ⟨i, b⟩ := x
    intro D listed fr a w hg hA inv hB h
    rw [show (((i, b) :: l).length + (ops.size - m)) = (l.length + (ops.size - m)) + 1 by simp; omega]
    cases b with
    | true =>
      simp only [ordB, Bool.and_eq_true] at hB
      obtain ⟨⟨⟨h1, h2⟩, h3⟩, h4⟩ := hB
      have him : i < m := by simpa using h1
      have hr : i ∈ Region.ready .any ops listed := by simpa using h2
      simp only [execOrd] at h
      split at h
      · rename_i o ho
        split at h
        · rename_i hn
          exact take_of (mv := mvAt ops i) (fun hmv => isMv2_of (by unfold mvAt at hmv; rw [ho] at hmv; exact hmv)) hA ho hn hsel hQ hs hc hm him inv hr h3 h fun fr' a' hg' hA' hs' => ih _ _ fr' a' w (hg.trans hg') hA' (inv.set hr him) h4 hs'
        · exact h.elim
      · exact h.elim
    | false =>
      simp only [ordB, Bool.and_eq_true, decide_eq_true_eq] at hB
      obtain ⟨⟨h1, h2⟩, h4⟩ := hB
      have him : i < m := by simpa using h1
      have hr : i ∈ Region.ready .any ops listed := by rw [h2]; simp
      simp only [execOrd] at h
      split at h
      · rename_i o ho
        by_cases hD : (keepD .any ops D i).isEmpty = true
        · rw [if_pos hD] at h
          have hD' : keepD .any ops D i = [] := by simpa using hD
          refine turn_of hA ho h2 h fun fr' a' w' hg' hA' hs' => ⟨fun h0 => absurd hD' h0, ?_⟩
          have := ih _ _ fr' a' w' (hg.trans hg') hA' (inv.set hr him) h4 hs'
          exact anyB_mono _ _ _ _ (fun _ h => h) (fun h0 => absurd hD' h0) this
        · rw [if_neg hD] at h
          refine turn_of (k := fun fr' => .grew w (execOrd P n ops l (keepD .any ops D i) fr' fun fr' => execOps P n .loud ops (ops.toList.drop m) fr' k)) hA ho h2 h fun fr' a' w' hg' hA' hs' => ?_
          obtain ⟨hb, hs'⟩ := hs'
          refine ⟨fun _ => hb, anyB_mono _ _ _ _ (fun _ h => h) (fun _ w'' hb' => hb.trans (hb'.mono hb.size)) (ih _ _ fr' a' w' (hg.trans hg') hA' (inv.set hr him) h4 hs')⟩
      · exact h.elim
theorem wpOrd_of {Q : Nat → List Value → World → Prop} {QC : Exit → Act → World → Prop} {ops : Array Oper} {fr : Fr} {k : Fr → T} {a : Act} {w : World} {m : Nat} {l : List (Nat × Bool)} (hA : Agrees n fr a)
    (hm : (P.follows .mixedOrders && ordAll .any ops m l) = true)
    (h : sat P (execOrd P n ops l [] fr (fun fr' => execOps P n .loud ops (ops.toList.drop m) fr' k)) Q w.drew)
    (hk : ∀ fr' a' w', Grows fr fr' → Agrees n fr' a' → sat P (k fr') Q w' → QC .normal a' w') (id : Nat) :
    (Code.region id ops true).wp P QC a w := by
  obtain ⟨hm1, hm2⟩ := Bool.and_eq_true_iff.1 hm
  simp only [ordAll, Bool.and_eq_true] at hm2
  obtain ⟨⟨⟨⟨⟨hsel, hlt⟩, hs⟩, hc⟩, hlen⟩, hB⟩ := hm2
  have hlt' : m < ops.size := by simpa using hlt
  have hlen' : l.length = m := by simpa using hlen
  have H := ord_of (P := P) (n := n) (QC := fun e a w => e = .normal ∧ QC .normal a w) (m := m) hsel (fun c a w h => by cases h.1) hs hc hlt' fr (fun fr' a' w' hg hA' hs' => ⟨rfl, hk fr' a' w' hg hA' hs'⟩) l [] _ fr a w.drew (Grows.refl fr) hA
    ⟨by simp, fun j oj _ hl => (by rw [getD_replicate_false] at hl; cases hl), fun t _ ht => getD_in (by simpa using ht) (getD_replicate_false _ _)⟩ hB h
  rw [hlen', show m + (ops.size - m) = ops.size by omega] at H
  refine Code.wp_mono ?_ (wp_region_any hm1 (any_of_B _ _ _ _ _ H))
  rintro e a' w' ⟨rfl, h⟩
  exact h

theorem turnT_of {Q : Nat → List Value → World → Prop} {QC : Exit → Act → World → Prop} {ops : Array Oper} {fr : Fr} {k : Fr → T} {a : Act} {w : World} {i f : Nat} {D : List Nat} {listed : Array Bool} (hA : Agrees n fr a)
    (h : sat P (turnT P n ops i D fr k) Q w)
    (hk : ∀ fr' a' w', Grows fr fr' → Agrees n fr' a' → sat P (k fr') Q w' → anyB P .any ops QC (fun w'' => RowKit.Below w'.heap.size w' w'') f (keepD .any ops D i) (listed.setIfInBounds i true) a' w') :
    wpOp P ops QC i (fun a' w' => (keepD .any ops D i ≠ [] → RowKit.Below w.heap.size w w') ∧ anyB P .any ops QC (fun w' => RowKit.Below w.heap.size w w') f (keepD .any ops D i) (listed.setIfInBounds i true) a' w') a w := by
  unfold turnT at h
  split at h
  · rename_i o ho
    by_cases hD : (keepD .any ops D i).isEmpty = true
    · rw [if_pos hD] at h
      have hD' : keepD .any ops D i = [] := by simpa using hD
      refine turn_at (S := fun w' => RowKit.Below w.heap.size w w') hA ho h fun fr' a' w' hg' hA' hs' => ⟨fun h0 => absurd hD' h0, ?_⟩
      exact anyB_mono _ _ _ _ (fun _ h => h) (fun h0 => absurd hD' h0) (hk fr' a' w' hg' hA' hs')
    · rw [if_neg hD] at h
      refine turn_at (S := fun w' => RowKit.Below w.heap.size w w') (k := fun fr' => .grew w (k fr')) hA ho h fun fr' a' w' hg' hA' hs' => ?_
      obtain ⟨hb, hs'⟩ := hs'
      exact ⟨fun _ => hb, anyB_mono _ _ _ _ (fun _ h => h) (fun _ w'' hb' => hb.trans (hb'.mono hb.size)) (hk fr' a' w' hg' hA' hs')⟩
  · exact h.elim
theorem ot_of {Q : Nat → List Value → World → Prop} {QC : Exit → Act → World → Prop} {ops : Array Oper} {k : Fr → T} {m : Nat} (hsel : Region.noSelect ops = true) (hQ : ∀ c a w, ¬ QC (.panic c) a w)
    (hs : Region.sinkB .any ops m = true) (hc : Region.chainB .any ops m = true) (hm : m < ops.size) (fr0 : Fr)
    (hk : ∀ fr' a' w', Grows fr0 fr' → Agrees n fr' a' → sat P (k fr') Q w' → QC .normal a' w') :
    ∀ (l : OT) (f : Nat) (D : List Nat) (listed : Array Bool) (fr : Fr) (a : Act) (w : World), Grows fr0 fr → Agrees n fr a → HeadInv .any ops m listed → otB .any ops m l f D listed = true →
      sat P (execOT P n ops l D fr (fun fr' => execOps P n .loud ops (ops.toList.drop m) fr' k)) Q w → anyB P .any ops QC (fun w' => RowKit.Below w.heap.size w w') (f + (ops.size - m)) D listed a w := by
  intro l
  induction l with
  | done =>
    intro f D listed fr a w hg hA inv hB h
    simp only [otB, Bool.and_eq_true] at hB
    obtain ⟨hf, hD, hB⟩ := hB
    have hf : f = 0 := by simpa using hf
    subst hf
    rw [Nat.zero_add]
    have := ord_of (P := P) (n := n) (QC := QC) (k := k) (m := m) hsel hQ hs hc hm fr0 hk [] D listed fr a w hg hA inv (by simp only [ordB, Bool.and_eq_true]; exact ⟨hD, hB⟩) h
    rwa [List.length_nil, Nat.zero_add] at this
  | first i r ih =>
    intro f D listed fr a w hg hA inv hB h
    simp only [otB, Bool.and_eq_true] at hB
    obtain ⟨h0, ⟨⟨h1, h2⟩, h3⟩, h4⟩ := hB
    have h0 : 0 < f := by simpa using h0
    obtain ⟨f', rfl⟩ : ∃ f', f = f' + 1 := ⟨f - 1, by omega⟩
    rw [Nat.add_sub_cancel] at h4
    rw [show f' + 1 + (ops.size - m) = (f' + (ops.size - m)) + 1 by omega]
    have him : i < m := by simpa using h1
    have hr : i ∈ Region.ready .any ops listed := by simpa using h2
    simp only [execOT] at h
    split at h
    · rename_i o ho
      split at h
      · rename_i hn
        exact take_of (mv := mvAt2 ops i) (fun hmv => by unfold mvAt2 at hmv; rw [ho] at hmv; exact hmv) hA ho hn hsel hQ hs hc hm him inv hr h3 h fun fr' a' hg' hA' hs' => ih _ _ _ fr' a' w (hg.trans hg') hA' (inv.set hr him) h4 hs'
      · exact h.elim
    · exact h.elim
  | turn i r ih =>
    intro f D listed fr a w hg hA inv hB h
    simp only [otB, Bool.and_eq_true, decide_eq_true_eq] at hB
    obtain ⟨h0, ⟨h1, h2⟩, h4⟩ := hB
    have h0 : 0 < f := by simpa using h0
    obtain ⟨f', rfl⟩ : ∃ f', f = f' + 1 := ⟨f - 1, by omega⟩
    rw [Nat.add_sub_cancel] at h4
    rw [show f' + 1 + (ops.size - m) = (f' + (ops.size - m)) + 1 by omega]
    have him : i < m := by simpa using h1
    have hr : i ∈ Region.ready .any ops listed := by rw [h2]; simp
    simp only [execOT] at h
    refine ⟨fun h0 => (by rw [h0] at hr; cases hr), fun j hj => ?_⟩
    have hji : j = i := by rw [h2] at hj; simpa using hj
    subst hji
    exact turnT_of hA h fun fr' a' w' hg' hA' hs' => ih _ _ _ fr' a' w' (hg.trans hg') hA' (inv.set hr him) h4 hs'
  | fork i j r1 r2 ih1 ih2 =>
    intro f D listed fr a w hg hA inv hB h
    simp only [otB, Bool.and_eq_true, decide_eq_true_eq] at hB
    obtain ⟨h0, ⟨⟨h1, h1'⟩, h2⟩, h4, h5⟩ := hB
    have h0 : 0 < f := by simpa using h0
    obtain ⟨f', rfl⟩ : ∃ f', f = f' + 1 := ⟨f - 1, by omega⟩
    rw [Nat.add_sub_cancel] at h4 h5
    rw [show f' + 1 + (ops.size - m) = (f' + (ops.size - m)) + 1 by omega]
    have him : i < m := by simpa using h1
    have hjm : j < m := by simpa using h1'
    have hri : i ∈ Region.ready .any ops listed := by rw [h2]; simp
    have hrj : j ∈ Region.ready .any ops listed := by rw [h2]; simp
    simp only [execOT] at h
    obtain ⟨ha, hb⟩ := h
    refine ⟨fun h0 => (by rw [h0] at hri; cases hri), fun x hx => ?_⟩
    have hx' : x = i ∨ x = j := by rw [h2] at hx; simpa using hx
    rcases hx' with rfl | rfl
    · exact turnT_of hA ha fun fr' a' w' hg' hA' hs' => ih1 _ _ _ fr' a' w' (hg.trans hg') hA' (inv.set hri him) h4 hs'
    · exact turnT_of hA hb fun fr' a' w' hg' hA' hs' => ih2 _ _ _ fr' a' w' (hg.trans hg') hA' (inv.set hrj hjm) h5 hs'
  | fork3 i j l r1 r2 r3 ih1 ih2 ih3 =>
    intro f D listed fr a w hg hA inv hB h
    simp only [otB, Bool.and_eq_true, decide_eq_true_eq] at hB
    obtain ⟨h0, ⟨⟨⟨h1, h1'⟩, h1''⟩, h2⟩, h4, h5, h6⟩ := hB
    have h0 : 0 < f := by simpa using h0
    obtain ⟨f', rfl⟩ : ∃ f', f = f' + 1 := ⟨f - 1, by omega⟩
    rw [Nat.add_sub_cancel] at h4 h5 h6
    rw [show f' + 1 + (ops.size - m) = (f' + (ops.size - m)) + 1 by omega]
    have him : i < m := by simpa using h1
    have hjm : j < m := by simpa using h1'
    have hlm : l < m := by simpa using h1''
    have hri : i ∈ Region.ready .any ops listed := by rw [h2]; simp
    have hrj : j ∈ Region.ready .any ops listed := by rw [h2]; simp
    have hrl : l ∈ Region.ready .any ops listed := by rw [h2]; simp
    simp only [execOT] at h
    obtain ⟨ha, hb, hc'⟩ := h
    refine ⟨fun h0 => (by rw [h0] at hri; cases hri), fun x hx => ?_⟩
    have hx' : x = i ∨ x = j ∨ x = l := by rw [h2] at hx; simpa using hx
    rcases hx' with rfl | rfl | rfl
    · exact turnT_of hA ha fun fr' a' w' hg' hA' hs' => ih1 _ _ _ fr' a' w' (hg.trans hg') hA' (inv.set hri him) h4 hs'
    · exact turnT_of hA hb fun fr' a' w' hg' hA' hs' => ih2 _ _ _ fr' a' w' (hg.trans hg') hA' (inv.set hrj hjm) h5 hs'
    · exact turnT_of hA hc' fun fr' a' w' hg' hA' hs' => ih3 _ _ _ fr' a' w' (hg.trans hg') hA' (inv.set hrl hlm) h6 hs'
theorem wpOT_of {Q : Nat → List Value → World → Prop} {QC : Exit → Act → World → Prop} {ops : Array Oper} {fr : Fr} {k : Fr → T} {a : Act} {w : World} {m : Nat} {l : OT} (hA : Agrees n fr a)
    (hm : (P.follows .mixedOrders && otAll .any ops m l) = true)
    (h : sat P (execOT P n ops l [] fr (fun fr' => execOps P n .loud ops (ops.toList.drop m) fr' k)) Q w.drew)
    (hk : ∀ fr' a' w', Grows fr fr' → Agrees n fr' a' → sat P (k fr') Q w' → QC .normal a' w') (id : Nat) :
    (Code.region id ops true).wp P QC a w := by
  obtain ⟨hm1, hm2⟩ := Bool.and_eq_true_iff.1 hm
  simp only [otAll, Bool.and_eq_true] at hm2
  obtain ⟨⟨⟨⟨hsel, hlt⟩, hs⟩, hc⟩, hB⟩ := hm2
  have hlt' : m < ops.size := by simpa using hlt
  have H := ot_of (P := P) (n := n) (QC := fun e a w => e = .normal ∧ QC .normal a w) (m := m) hsel (fun c a w h => by cases h.1) hs hc hlt' fr (fun fr' a' w' hg hA' hs' => ⟨rfl, hk fr' a' w' hg hA' hs'⟩) l m [] _ fr a w.drew (Grows.refl fr) hA
    ⟨by simp, fun j oj _ hl => (by rw [getD_replicate_false] at hl; cases hl), fun t _ ht => getD_in (by simpa using ht) (getD_replicate_false _ _)⟩ hB h
  rw [show m + (ops.size - m) = ops.size by omega] at H
  refine Code.wp_mono ?_ (wp_region_any hm1 (any_of_B _ _ _ _ _ H))
  rintro e a' w' ⟨rfl, h⟩
  exact h

theorem mvP_run {P : Program} {o : Oper} {a : Act} {v : Value} {w w' : World} (hm : isMvP P o.op = true) (h0 : (execOp a.eval o).run P w = .ok (.value v) w) : (execOp a.eval o).run P w' = .ok (.value v) w' := by
  obtain ⟨dst, op, type, pos, after, guard⟩ := o
  have hm : (isMv2 op || _) = true := hm
  cases op with
  | move x =>
    simp [execOp] at h0 ⊢
    exact h0
  | extract x j =>
    simp only [execOp] at h0 ⊢
    cases hv : a.eval x with
    | tuple vs =>
      rw [hv] at h0
      simp only [Instr.extract] at h0 ⊢
      cases hx : vs[j]? with
      | none => simp [hx] at h0
      | some u => simp [hx] at h0 ⊢; exact h0
    | _ => rw [hv] at h0; simp [Instr.extract] at h0
  | pick c x y =>
    simp only [execOp] at h0 ⊢
    cases hv : a.eval c with
    | bool b => rw [hv] at h0; simp [asBool] at h0 ⊢; exact h0
    | _ => rw [hv] at h0; simp [asBool] at h0
  | binOp bo xT x y yT =>
    simp only [isMv2, Bool.or_false, Bool.and_eq_true] at hm
    obtain ⟨hmo1, hmo2⟩ := hm
    cases y with
    | const c =>
      cases c with
      | int ck cn =>
        simp only [execOp] at h0 ⊢
        have ev : a.eval (.const (.int ck cn)) = .int ck cn := rfl
        rw [ev] at h0 ⊢
        simp only [bind_assoc] at h0 ⊢
        exact ord_pure hmo1 h0
      | _ => exact absurd hmo2 (by simp [constI])
    | _ => exact absurd hmo2 (by simp [constI])
  | fieldAddr t x f =>
    simp only [isMv2, Bool.false_or] at hm
    split at hm
    · rename_i fs hu
      split at hm
      · rename_i fd hf
        split at hm
        · rename_i i hi
          have hne : i.size ≠ 0 := fun e => by rw [e] at hm; exact absurd hm (by decide)
          simp only [execOp] at h0 ⊢
          cases hv : a.eval x with
          | pointer b =>
            cases b with
            | none => rw [hv] at h0; simp [Instr.fieldAt, Instr.sureAddr, run_und hu, hf] at h0
            | some b =>
              rw [hv] at h0
              simp [Instr.fieldAt, Instr.sureAddr, fieldPlace, run_und hu, run_size hi, hf, hne] at h0 ⊢
              exact h0
          | _ => rw [hv] at h0; simp [Instr.fieldAt, Instr.sureAddr, run_und hu, hf] at h0
        · cases hm
      · cases hm
    · cases hm
  | call c =>
    obtain ⟨callee, cargs, ats⟩ := c
    simp only [isMv2, Bool.false_or] at hm
    cases callee with
    | builtin bb =>
      cases bb with
      | len =>
        cases hats : ats.toList with
        | nil => simp only [hats] at hm; exact absurd hm (by decide)
        | cons t r =>
          cases r with
          | cons _ _ => simp only [hats] at hm; exact absurd hm (by decide)
          | nil =>
            simp only [hats] at hm
            split at hm
            · rename_i e hu
              obtain ⟨cs, hex⟩ := exec_builtin (a := a) (o := { dst := dst, op := Op.call { callee := Callee.builtin .len, args := cargs, argTypes := ats }, type := type, pos := pos, after := after, guard := guard }) (args := (cargs.map a.eval).toList) rfl (by rw [Array.toArray_toList])
              rw [hex] at h0 ⊢
              have hat : ats = #[t] := Array.toList_inj.1 (by rw [hats])
              subst hat
              cases hl : (cargs.map a.eval).toList with
              | nil => rw [hl] at h0; simp [builtin, Builtin.len_] at h0
              | cons y r =>
                rw [hl] at h0
                cases y with
                | slice b m c =>
                  simp [builtin, Builtin.len_, run_und hu] at h0 ⊢
                  exact h0
                | _ => simp [builtin, Builtin.len_, run_und hu] at h0
            · cases hm
      | _ => exact absurd hm (by simp)
    | _ => exact absurd hm (by simp)
  | _ => simp [isMv2] at hm
theorem takeF_of {Q : Nat → List Value → World → Prop} {QC : Exit → Act → World → Prop} {ops : Array Oper} {fr : Fr} {k : Fr → T} {a : Act} {w : World} {i f : Nat} {listed : Array Bool} {o : Oper} (hmv : isMvP P o.op = true) (hA : Agrees n fr a)
    (hi : ops[i]? = some o) (hn : noCall o.op = true) (hsel : Region.noSelect ops = true) (hQ : ∀ c a w, ¬ QC (.panic c) a w)
    (inv : HeadInv .any ops ops.size listed) (hr : i ∈ Region.ready .any ops listed) (hf : Region.free .any ops listed i = true)
    (h : sat P (execOps P n .quiet ops [o] fr k) Q w)
    (hk : ∀ fr' a', Grows fr fr' → Agrees n fr' a' → sat P (k fr') Q w → anyB P .any ops QC (fun w' => RowKit.Below w.heap.size w w') f [] (listed.setIfInBounds i true) a' w) :
    anyB P .any ops QC (fun w' => RowKit.Below w.heap.size w w') (f + 1) [] listed a w := by
  have first : ∀ (v : Value) (a : Act), YieldsIf P ops (fun w' => RowKit.Below w.heap.size w w') o v a → anyB P .any ops QC (fun w' => RowKit.Below w.heap.size w w') f [] (listed.setIfInBounds i true) (a.put o.dst v) w →
      anyB P .any ops QC (fun w' => RowKit.Below w.heap.size w w') (f + 1) [] listed a w := by
    intro v a hy H
    have hy' : YieldsIf P ops (fun _ => True) o v a := by
      rcases hy with ⟨h1, h2⟩ | h3
      · exact .inl ⟨h1, fun w' _ => mvP_run hmv (h2 w (RowKit.Below.refl _ _))⟩
      · exact .inr h3
    exact anyB_moveF (P := P) (Q := QC) hi (Region.noSelect_spec hsel) hQ f [] listed a w inv (Region.free_spec hi hf) hr hy' (fun h => absurd rfl h) H
  have key := ops_sound (P := P) (n := n) (md := .quiet) ops (fun l a w' => w' = w → (l = [] → anyB P .any ops QC (fun w' => RowKit.Below w.heap.size w w') f [] (listed.setIfInBounds i true) a w) ∧ (l = [o] → anyB P .any ops QC (fun w' => RowKit.Below w.heap.size w w') (f + 1) [] listed a w))
    ?_ ?_ ?_ [o] fr k a w hA h (fun fr' a' w' hg hA' hs hw => by subst hw; exact ⟨fun _ => hk fr' a' hg hA' hs, fun e => (by cases e)⟩)
  · exact (key rfl).2 rfl
  · rintro o' l a w1 kk ⟨sv, h1, h2⟩ hw h3 he
    subst he
    refine ⟨fun e => (by cases e), fun e => ?_⟩
    cases e
    exact first sv.val a (.inl ⟨hw, fun w' hb => h1 w' hb⟩) ((h3 sv _ h2 rfl).1 rfl)
  · intro o' l a w1 hw h2 he
    subst he
    refine ⟨fun e => (by cases e), fun e => ?_⟩
    cases e
    exact first undef a (.inr ⟨hw, rfl⟩) ((h2 rfl).1 rfl)
  · intro o' l a w1 f args s kk hn' _ _ _ _ he
    refine ⟨fun e => (by cases e), fun e => ?_⟩
    cases e
    rw [hn] at hn'; cases hn'
theorem otF_of {Q : Nat → List Value → World → Prop} {QC : Exit → Act → World → Prop} {ops : Array Oper} {k : Fr → T} (hsel : Region.noSelect ops = true) (hQ : ∀ c a w, ¬ QC (.panic c) a w) (fr0 : Fr)
    (hk : ∀ fr' a' w', Grows fr0 fr' → Agrees n fr' a' → sat P (k fr') Q w' → QC .normal a' w') :
    ∀ (l : OT) (f : Nat) (listed : Array Bool) (fr : Fr) (a : Act) (w : World), Grows fr0 fr → Agrees n fr a → HeadInv .any ops ops.size listed → otF P .any ops l f listed = true →
      sat P (execOTF P n ops l fr k) Q w → anyB P .any ops QC (fun w' => RowKit.Below w.heap.size w w') f [] listed a w := by
  have lt_of : ∀ {listed : Array Bool} {i : Nat}, i ∈ Region.ready .any ops listed → i < ops.size := fun {listed i} h => by
    obtain ⟨_, oj, hoj, _⟩ := mem_ready.1 h
    exact (Array.getElem?_eq_some_iff.1 hoj).1
  intro l
  induction l with
  | done =>
    intro f listed fr a w hg hA inv hB h
    simp only [otF, Bool.and_eq_true, decide_eq_true_eq] at hB
    obtain ⟨hf, hr⟩ := hB
    have hf : f = 0 := by simpa using hf
    subst hf
    exact ⟨hr, hk fr a w hg hA h⟩
  | first i r ih =>
    intro f listed fr a w hg hA inv hB h
    simp only [otF, Bool.and_eq_true] at hB
    obtain ⟨h0, ⟨⟨h2, h3⟩, hmv⟩, h4⟩ := hB
    have h0 : 0 < f := by simpa using h0
    obtain ⟨f', rfl⟩ : ∃ f', f = f' + 1 := ⟨f - 1, by omega⟩
    rw [Nat.add_sub_cancel] at h4
    have hr : i ∈ Region.ready .any ops listed := by simpa using h2
    simp only [execOTF] at h
    split at h
    · rename_i o ho
      split at h
      · rename_i hn
        exact takeF_of (by unfold mvAtP at hmv; rw [ho] at hmv; exact hmv) hA ho hn hsel hQ inv hr h3 h fun fr' a' hg' hA' hs' => ih _ _ fr' a' w (hg.trans hg') hA' (inv.set hr (lt_of hr)) h4 hs'
      · exact h.elim
    · exact h.elim
  | turn i r ih =>
    intro f listed fr a w hg hA inv hB h
    simp only [otF, Bool.and_eq_true, decide_eq_true_eq] at hB
    obtain ⟨h0, h2, h4⟩ := hB
    have h0 : 0 < f := by simpa using h0
    obtain ⟨f', rfl⟩ : ∃ f', f = f' + 1 := ⟨f - 1, by omega⟩
    rw [Nat.add_sub_cancel] at h4
    have hr : i ∈ Region.ready .any ops listed := by rw [h2]; simp
    simp only [execOTF] at h
    refine ⟨fun h0 => (by rw [h0] at hr; cases hr), fun j hj => ?_⟩
    have hji : j = i := by rw [h2] at hj; simpa using hj
    subst hji
    exact turnT_of (D := []) hA h fun fr' a' w' hg' hA' hs' => ih _ _ fr' a' w' (hg.trans hg') hA' (inv.set hr (lt_of hr)) h4 hs'
  | fork i j r1 r2 ih1 ih2 =>
    intro f listed fr a w hg hA inv hB h
    simp only [otF, Bool.and_eq_true, decide_eq_true_eq] at hB
    obtain ⟨h0, h2, h4, h5⟩ := hB
    have h0 : 0 < f := by simpa using h0
    obtain ⟨f', rfl⟩ : ∃ f', f = f' + 1 := ⟨f - 1, by omega⟩
    rw [Nat.add_sub_cancel] at h4 h5
    have hri : i ∈ Region.ready .any ops listed := by rw [h2]; simp
    have hrj : j ∈ Region.ready .any ops listed := by rw [h2]; simp
    simp only [execOTF] at h
    obtain ⟨ha, hb⟩ := h
    refine ⟨fun h0 => (by rw [h0] at hri; cases hri), fun x hx => ?_⟩
    have hx' : x = i ∨ x = j := by rw [h2] at hx; simpa using hx
    rcases hx' with rfl | rfl
    · exact turnT_of (D := []) hA ha fun fr' a' w' hg' hA' hs' => ih1 _ _ fr' a' w' (hg.trans hg') hA' (inv.set hri (lt_of hri)) h4 hs'
    · exact turnT_of (D := []) hA hb fun fr' a' w' hg' hA' hs' => ih2 _ _ fr' a' w' (hg.trans hg') hA' (inv.set hrj (lt_of hrj)) h5 hs'
  | fork3 i j l r1 r2 r3 ih1 ih2 ih3 =>
    intro f listed fr a w hg hA inv hB h
    simp only [otF, Bool.and_eq_true, decide_eq_true_eq] at hB
    obtain ⟨h0, h2, h4, h5, h6⟩ := hB
    have h0 : 0 < f := by simpa using h0
    obtain ⟨f', rfl⟩ : ∃ f', f = f' + 1 := ⟨f - 1, by omega⟩
    rw [Nat.add_sub_cancel] at h4 h5 h6
    have hri : i ∈ Region.ready .any ops listed := by rw [h2]; simp
    have hrj : j ∈ Region.ready .any ops listed := by rw [h2]; simp
    have hrl : l ∈ Region.ready .any ops listed := by rw [h2]; simp
    simp only [execOTF] at h
    obtain ⟨ha, hb, hc'⟩ := h
    refine ⟨fun h0 => (by rw [h0] at hri; cases hri), fun x hx => ?_⟩
    have hx' : x = i ∨ x = j ∨ x = l := by rw [h2] at hx; simpa using hx
    rcases hx' with rfl | rfl | rfl
    · exact turnT_of (D := []) hA ha fun fr' a' w' hg' hA' hs' => ih1 _ _ fr' a' w' (hg.trans hg') hA' (inv.set hri (lt_of hri)) h4 hs'
    · exact turnT_of (D := []) hA hb fun fr' a' w' hg' hA' hs' => ih2 _ _ fr' a' w' (hg.trans hg') hA' (inv.set hrj (lt_of hrj)) h5 hs'
    · exact turnT_of (D := []) hA hc' fun fr' a' w' hg' hA' hs' => ih3 _ _ fr' a' w' (hg.trans hg') hA' (inv.set hrl (lt_of hrl)) h6 hs'
theorem wpOTF_of {Q : Nat → List Value → World → Prop} {QC : Exit → Act → World → Prop} {ops : Array Oper} {fr : Fr} {k : Fr → T} {a : Act} {w : World} {l : OT} (hA : Agrees n fr a)
    (hm : (P.follows .mixedOrders && otFull P .any ops l) = true)
    (h : sat P (execOTF P n ops l fr k) Q w.drew)
    (hk : ∀ fr' a' w', Grows fr fr' → Agrees n fr' a' → sat P (k fr') Q w' → QC .normal a' w') (id : Nat) :
    (Code.region id ops true).wp P QC a w := by
  obtain ⟨hm1, hm2⟩ := Bool.and_eq_true_iff.1 hm
  simp only [otFull, Bool.and_eq_true] at hm2
  obtain ⟨hsel, hB⟩ := hm2
  have H := otF_of (P := P) (n := n) (QC := fun e a w => e = .normal ∧ QC .normal a w) hsel (fun c a w h => by cases h.1) fr (fun fr' a' w' hg hA' hs' => ⟨rfl, hk fr' a' w' hg hA' hs'⟩) l ops.size _ fr a w.drew (Grows.refl fr) hA
    ⟨by simp, fun j oj _ hl => (by rw [getD_replicate_false] at hl; cases hl), fun t ht h2 => absurd h2 (Nat.not_lt.2 ht)⟩ hB h
  refine Code.wp_mono ?_ (wp_region_any hm1 (any_of_B _ _ _ _ _ H))
  rintro e a' w' ⟨rfl, h⟩
  exact h

theorem wpStill_of {Q : Nat → List Value → World → Prop} {QC : Exit → Act → World → Prop} {ops : Array Oper} {fr : Fr} {k : Fr → T} {a : Act} {w : World} (hA : Agrees n fr a)
    (hm : (P.follows .mixedOrders && Region.lexB .any ops) = true)
    (h : sat P (execOps P n .still ops ops.toList fr k) Q w.drew) (hk : ∀ fr' a' w', Grows fr fr' → Agrees n fr' a' → sat P (k fr') Q w' → QC .normal a' w') (id : Nat) :
    (Code.region id ops true).wp P QC a w := by
  obtain ⟨hm1, hm2⟩ := Bool.and_eq_true_iff.1 hm
  refine wp_region_still hm1 hm2 ?_
  have key := ops_sound (P := P) (n := n) (md := .still) ops (fun l a w' => w' = w.drew → wpStill P ops w.drew (fun a' => QC .normal a' w.drew) l a) ?_ ?_ ?_ ops.toList fr k a w.drew hA h
    (fun fr' a' w' hg hA' hs hw => by subst hw; exact hk fr' a' _ hg hA' hs)
  · exact key rfl
  · rintro o l a w1 kk ⟨sv, h1, h2⟩ hw h3 he
    subst he
    have h2 := h3 sv _ h2 rfl
    show wpStill P ops w.drew _ (o :: l) a
    unfold wpStill
    rw [if_pos hw]
    unfold Oper.still
    rw [h1]; exact ⟨rfl, h2⟩
  · intro o l a w1 hw h2 he
    show wpStill P ops w.drew _ (o :: l) a
    unfold wpStill
    rw [if_neg (by simp [hw])]
    exact h2 he
  · intro o l a w1 f args s kk _ _ h2 _ _ _
    exact h2.elim

theorem wpQuiet_of {Q : Nat → List Value → World → Prop} {QC : Exit → Act → World → Prop} {ops : Array Oper} {fr : Fr} {k : Fr → T} {a : Act} {w : World} (hA : Agrees n fr a)
    (hm : (P.follows .mixedOrders && Region.lexB .any ops) = true)
    (h : sat P (execOps P n .quiet ops ops.toList fr (fun fr' => .grown (k fr'))) Q w.drew) (hk : ∀ fr' a' w', Grows fr fr' → Agrees n fr' a' → sat P (k fr') Q w' → QC .normal a' w') (id : Nat) :
    (Code.region id ops true).wp P QC a w := by
  obtain ⟨hm1, hm2⟩ := Bool.and_eq_true_iff.1 hm
  refine wp_region_quiet (C := fun w' => RowKit.Below w.drew.heap.size w.drew w') hm1 hm2 (RowKit.Below.refl _ _) ?_
  have key := ops_sound (P := P) (n := n) (md := .quiet) ops
    (fun l a w' => w' = w.drew → wpQuiet P ops (fun w' => RowKit.Below w.drew.heap.size w.drew w') (fun a' => ∀ w', RowKit.Below w.drew.heap.size w.drew w' → QC .normal a' w') l a) ?_ ?_ ?_ ops.toList fr _ a w.drew hA h
    (fun fr' a' w' hg hA' hs hw => by subst hw; exact fun w'' hb => hk fr' a' _ hg hA' (hs w'' hb))
  · exact key rfl
  · rintro o l a w1 kk ⟨sv, h1, h2⟩ hw h3 he
    subst he
    have h2 := h3 sv _ h2 rfl
    show wpQuiet P ops _ _ (o :: l) a
    unfold wpQuiet
    rw [if_pos hw]
    refine ⟨sv.val, fun w' hb => ?_, h2⟩
    unfold Oper.quietAt
    rw [h1 w' hb]
    exact ⟨rfl, rfl⟩
  · intro o l a w1 hw h2 he
    show wpQuiet P ops _ _ (o :: l) a
    unfold wpQuiet
    rw [if_neg (by simp [hw])]
    exact h2 he
  · rintro o l a w1 f args s kk _ h1 ⟨x, h2, h3⟩ hw h4 he
    subst he
    have h5 := h4 _ _ h3 rfl
    rw [Sh.sv_val] at h5
    show wpQuiet P ops _ _ (o :: l) a
    unfold wpQuiet
    rw [if_pos hw]
    refine ⟨s.val x, fun w' hb => ?_, h5⟩
    unfold Oper.quietAt
    rw [h1 w']
    exact ⟨rfl, h2 w' hb⟩

theorem memB_iff {l : List Nat} {t : Nat} : memB l t = true ↔ t ∈ l := by
  simp only [memB, List.any_eq_true]
  constructor
  · rintro ⟨x, hx, h⟩; have := Nat.eq_of_beq_eq_true h; subst this; exact hx
  · intro h; exact ⟨t, h, by simp⟩
theorem look_append {l fr : Fr} {t : Nat} (h : ∀ p ∈ l, p.1 ≠ t) : look (l ++ fr) t = look fr t := by
  induction l with
  | nil => rfl
  | cons p l ih =>
    have h1 : p.1 ≠ t := h p (by simp)
    show (if Nat.beq p.1 t = true then _ else look (l ++ fr) t) = _
    rw [if_neg (by simpa using h1)]
    exact ih fun q hq => h q (by simp [hq])
theorem look_killed {D : List Nat} {fr : Fr} {t : Nat} {s : SV} (h : look (D.map (fun d => (d, none)) ++ fr) t = some s) : t ∉ D ∧ look fr t = some s := by
  induction D with
  | nil => exact ⟨by simp, h⟩
  | cons d D ih =>
    simp only [List.map_cons, List.cons_append, look] at h
    by_cases e : d = t
    · subst e; rw [if_pos (by simp)] at h; cases h
    · rw [if_neg (by simpa using e)] at h
      obtain ⟨h1, h2⟩ := ih h
      exact ⟨by simp only [List.mem_cons, not_or]; exact ⟨fun h => e h.symm, h1⟩, h2⟩
/-- What a leaf of a cut says, and that the frame behind the cut fits. -/
theorem leaf_fits {L : Live} {D : List Nat} {fr0 fr : Fr} {a : Act} {w : World} {l : Nat} {Q : Nat → List Value → World → Prop} (hg : Grows fr0 fr) (hA : Agrees n fr a)
    (h : sat P (leafAt l L D fr0 fr) Q w) : ∃ vs, Q l vs w ∧ ∀ x, vs = (liveSh L).vals x → Agrees n (headFr L x D fr0) a := by
  unfold leafAt at h
  split at h
  · rename_i hall
    split at h
    · rename_i vs hvs
      refine ⟨vs, h, fun x hx => ⟨hA.size, hA.defers, ?_⟩⟩
      obtain ⟨l', rfl⟩ := hg
      have htake : (l' ++ fr0).take ((l' ++ fr0).length - fr0.length) = l' := by
        rw [List.length_append, Nat.add_sub_cancel, List.take_left']; rfl
      rw [htake] at hall
      have hD : ∀ p ∈ l', p.1 ∈ D := fun p hp => memB_iff.1 (List.all_eq_true.1 hall p hp)
      -- the listed slots
      have hlist : ∀ (L' : Live) (ss : List SV) (vs : List Value), L'.mapM (fun p => (look (l' ++ fr0) p.1).map SV.val) = some vs → vs = ss.map SV.val →
          ∀ t s, look ((List.zipWith (fun p s => (p.1, some s)) L' ss) ++ (D.map (fun d => (d, none)) ++ fr0)) t = some s → a.tmps[t]? = some s.val := by
        intro L'
        induction L' with
        | nil =>
          intro ss vs _ _ t s hl
          simp only [List.zipWith_nil_left, List.nil_append] at hl
          obtain ⟨h1, h2⟩ := look_killed hl
          refine hA.at_ t s ?_
          rw [look_append (fun p hp he => h1 (by rw [← he]; exact hD p hp))]
          exact h2
        | cons p L' ih =>
          intro ss vs hm hvs t s hl
          simp only [List.mapM_cons, Option.pure_def, Option.bind_eq_bind, Option.bind_eq_some_iff, Option.map_eq_some_iff] at hm
          obtain ⟨v, ⟨s1, hs1, rfl⟩, r, hr, hv⟩ := hm
          simp only [Option.some.injEq] at hv
          subst hv
          cases ss with
          | nil => simp at hvs
          | cons s0 ss =>
            simp only [List.map_cons, List.cons.injEq] at hvs
            simp only [List.zipWith_cons_cons, List.cons_append, look] at hl
            by_cases e : p.1 = t
            · subst e
              rw [if_pos (by simp)] at hl
              simp only [Option.some.injEq] at hl
              subst hl
              rw [← hvs.1]
              exact hA.at_ _ _ hs1
            · rw [if_neg (by simpa using e)] at hl
              exact ih ss r hr hvs.2 t s hl
      exact hlist L _ vs hvs (by rw [Sh.svs_vals]; exact hx)
    · exact h.elim
  · exact h.elim
theorem headFr_grows (L : Live) (x : (liveSh L).Ty) (D : List Nat) (fr : Fr) : Grows fr (headFr L x D fr) := ⟨_, by unfold headFr; rw [← List.append_assoc]⟩

/-- What is asked of the continuation, at level d. -/
def Kont (P : Program) (n d : Nat) (Q : Nat → List Value → World → Prop) (QC : Exit → Act → World → Prop) (fr : Fr) (k : Ex → Fr → T) : Prop :=
  ∀ Q' : Nat → List Value → World → Prop, (∀ l, l ≤ d → ∀ vs w, Q' l vs w → Q l vs w) → ∀ e fr' a' w', Grows fr fr' → Agrees n fr' a' → sat P (k e fr') Q' w' → QC e.to a' w'

def cutQ (P : Program) (l : Nat) (s : Sh) (k : s.Ty → T) (Q : Nat → List Value → World → Prop) : Nat → List Value → World → Prop :=
  fun l' vs w' => if l' = l then ∃ x, vs = s.vals x ∧ sat P (k x) Q w' else Q l' vs w'

/-- The continuation within a cut. -/
theorem Kont.cut {d : Nat} {Q : Nat → List Value → World → Prop} {QC : Exit → Act → World → Prop} {fr : Fr} {k : Ex → Fr → T} (hk : Kont P n d Q QC fr k) (L : Live) (D : List Nat)
    (k' : Ex → Fr → T) (QC' : Exit → Act → World → Prop)
    (h : ∀ e fr', k' e fr' = leafAt (d + 1) L D fr fr' ∧ (∀ a w, QC .normal a w → QC' e.to a w) ∨ k' e fr' = k e fr' ∧ (∀ a w, QC e.to a w → QC' e.to a w)) :
    Kont P n (d + 1) (cutQ P (d + 1) (liveSh L) (fun z => k .normal (headFr L z D fr)) Q) QC' fr k' := by
  intro Q' hQ e fr' a' w' hg hA hs
  rcases h e fr' with ⟨h1, h2⟩ | ⟨h1, h2⟩
  · rw [h1] at hs
    obtain ⟨vs, hl, hf⟩ := leaf_fits hg hA hs
    have := hQ (d + 1) (Nat.le_refl _) vs w' hl
    simp only [cutQ, if_true] at this
    obtain ⟨x, hx, hs'⟩ := this
    exact h2 _ _ (hk Q (fun _ _ _ _ h => h) .normal _ a' w' (headFr_grows L x D fr) (hf x hx) hs')
  · rw [h1] at hs
    refine h2 _ _ (hk Q' (fun l hl vs w hq => ?_) e fr' a' w' hg hA hs)
    have := hQ l (by omega) vs w hq
    simp only [cutQ, show ¬ l = d + 1 by omega, if_false] at this
    exact this

theorem exec_sound (h : Hints) : ∀ (c : Code) (d : Nat) (fr : Fr) (k : Ex → Fr → T) (Q : Nat → List Value → World → Prop) (QC : Exit → Act → World → Prop) (a : Act) (w : World),
    Agrees n fr a → sat P (exec P h n c d fr k) Q w → Kont P n d Q QC fr k → c.wp P QC a w := by
  intro c
  induction c with
  | skip => intro d fr k Q QC a w hA hs hk; exact wp_skip (hk Q (fun _ _ _ _ h => h) .normal fr a w (Grows.refl _) hA hs)
  | ret => intro d fr k Q QC a w hA hs hk; exact wp_ret (hk Q (fun _ _ _ _ h => h) .ret fr a w (Grows.refl _) hA hs)
  | exit id => intro d fr k Q QC a w hA hs hk; exact wp_exit (hk Q (fun _ _ _ _ h => h) (.exit id) fr a w (Grows.refl _) hA hs)
  | seq x y ihx ihy =>
    intro d fr k Q QC a w hA hs hk
    refine wp_seq (ihx d fr _ Q _ a w hA hs ?_)
    intro Q' hQ e fr' a' w' hg hA' hs'
    cases e with
    | normal => exact ihy d fr' k Q' QC a' w' hA' hs' fun Q'' hQ' e fr'' a'' w'' hg' hA'' hs'' => hk Q'' (fun l hl vs w hq => hQ l hl vs w (hQ' l hl vs w hq)) e fr'' a'' w'' (hg.trans hg') hA'' hs''
    | exit id => exact hk Q' hQ (.exit id) fr' a' w' hg hA' hs'
    | ret => exact hk Q' hQ .ret fr' a' w' hg hA' hs'
  | cond c x y ihx ihy =>
    intro d fr k Q QC a w hA hs hk
    simp only [exec] at hs
    split at hs
    · rename_i hc; exact wp_cond_true (hA.opv hc) (ihx d fr k Q QC a w hA hs hk)
    · rename_i hc; exact wp_cond_false (hA.opv hc) (ihy d fr k Q QC a w hA hs hk)
    · rename_i b hc
      refine wp_cond (t := b) (hA.opv hc) ?_
      split at hs
      · have hs := Rx.sat_ite hs
        cases b
        · exact ihy d fr k Q QC a w hA (by simpa using hs) hk
        · exact ihx d fr k Q QC a w hA (by simpa using hs) hk
      · rename_i L _
        have hs : sat P _ (cutQ P (d + 1) (liveSh L) (fun z => k .normal (headFr L z (dsts x ++ dsts y ++ L.map (·.1)) fr)) Q) w := hs
        have hs := Rx.sat_ite hs
        have hK : Kont P n (d + 1) (cutQ P (d + 1) (liveSh L) (fun z => k .normal (headFr L z (dsts x ++ dsts y ++ L.map (·.1)) fr)) Q) QC fr
            (fun e fr' => match e with | .normal => leafAt (d + 1) L (dsts x ++ dsts y ++ L.map (·.1)) fr fr' | e => k e fr') :=
          hk.cut L (dsts x ++ dsts y ++ L.map (·.1)) _ QC fun e fr' => by cases e <;> first | exact .inl ⟨rfl, fun _ _ h => h⟩ | exact .inr ⟨rfl, fun _ _ h => h⟩
        cases b
        · exact ihy (d + 1) fr _ _ QC a w hA (by simpa using hs) hK
        · exact ihx (d + 1) fr _ _ QC a w hA (by simpa using hs) hK
    · exact hs.elim
  | block id c ih =>
    intro d fr k Q QC a w hA hs hk
    refine wp_block ?_
    simp only [exec] at hs
    split at hs
    · refine ih d fr _ Q _ a w hA hs ?_
      intro Q' hQ e fr' a' w' hg hA' hs'
      cases e with
      | normal => exact hk Q' hQ .normal fr' a' w' hg hA' hs'
      | ret => exact hk Q' hQ .ret fr' a' w' hg hA' hs'
      | exit i =>
        simp only at hs'
        show Exit.inBlock id QC (.exit i) a' w'
        simp only [Exit.inBlock]
        by_cases e : i = id
        · rw [if_pos (by simpa using e)] at hs'; rw [if_pos e]; exact hk Q' hQ .normal fr' a' w' hg hA' hs'
        · rw [if_neg (by simpa using e)] at hs'; rw [if_neg e]; exact hk Q' hQ (.exit i) fr' a' w' hg hA' hs'
    · rename_i L _
      have hs : sat P _ (cutQ P (d + 1) (liveSh L) (fun z => k .normal (headFr L z (dsts c) fr)) Q) w := hs
      refine ih (d + 1) fr _ _ _ a w hA hs (hk.cut L (dsts c) _ _ fun e fr' => ?_)
      cases e with
      | normal => exact .inl ⟨rfl, fun _ _ h => h⟩
      | ret => exact .inr ⟨rfl, fun _ _ h => h⟩
      | exit i =>
        by_cases e : i = id
        · refine .inl ⟨by simp only; rw [if_pos (by simpa using e)], fun a w h => ?_⟩
          show Exit.inBlock id QC (.exit i) a w
          simp only [Exit.inBlock, if_pos e]; exact h
        · refine .inr ⟨by simp only; rw [if_neg (by simpa using e)], fun a w h => ?_⟩
          show Exit.inBlock id QC (.exit i) a w
          simp only [Exit.inBlock, if_neg e]; exact h
  | loop c ih =>
    intro d fr k Q QC a w hA hs hk
    simp only [exec] at hs
    split at hs
    · exact hs.elim
    · rename_i L _
      split at hs
      · exact hs.elim
      · rename_i init hinit
        obtain ⟨I, n0, x0, hx0, hI0, hbody⟩ := hs
        refine wp_loop_ghost (fun m a w => ∃ x, I m x w ∧ Agrees n (headFr L x (dsts c) fr) a) n0 ⟨x0, hI0, ?_⟩ ?_
        · -- the head's frame fits at the start
          have hl : sat P (leafAt 0 L (dsts c) fr fr) (fun _ vs _ => vs = init) w := by
            unfold leafAt
            rw [if_pos (by simp), hinit]
            exact rfl
          obtain ⟨vs, h1, h2⟩ := leaf_fits (Grows.refl fr) hA hl
          exact h2 x0 (by rw [h1, hx0])
        · rintro m a1 w1 ⟨x, hI, hA1⟩
          refine ih (d + 1) _ _ _ _ a1 w1 hA1 (hbody m x w1 hI) ?_
          intro Q' hQ e fr' a' w' hg hA' hs'
          have other : ∀ e : Ex, (e = .normal → False) → sat P (k e fr') Q' w' → QC e.to a' w' := fun e _ hs' =>
            hk Q' (fun l hl vs w hq => by
              have := hQ l (by omega) vs w hq
              simp only [show ¬ l = d + 1 by omega, if_false] at this
              exact this) e fr' a' w' ((headFr_grows L x (dsts c) fr).trans hg) hA' hs'
          cases e with
          | normal =>
            have hs' : sat P (leafAt (d + 1) L (dsts c) fr fr') Q' w' := hs'
            obtain ⟨vs, hl, hf⟩ := leaf_fits ((headFr_grows L x (dsts c) fr).trans hg) hA' hs'
            have := hQ (d + 1) (Nat.le_refl _) vs w' hl
            simp only [if_true] at this
            obtain ⟨m', x', hx', hlt, hI'⟩ := this
            exact ⟨m', hlt, x', hI', hf x' hx'⟩
          | exit id => exact other (.exit id) (by intro h; cases h) hs'
          | ret => exact other .ret (by intro h; cases h) hs'
  | region id ops draw =>
    intro d fr k Q QC a w hA hs hk
    have core : ∀ (Q1 : Nat → List Value → World → Prop) (k' : Fr → T), sat P (if draw then
        (match hint h.blocks (100000 + id) with
        | some _ => if P.follows .mixedOrders && otFull P .any ops (otFork P ops) then .drew (execOTF P n ops (otFork P ops) fr k') else .fail 73
        | none => match cutOf P ops with
        | (1, m) => if P.follows .mixedOrders && Region.lexTailB .any ops.toList.toArray m then .drew (execOps P n .still ops.toList.toArray (ops.toList.take m) fr (fun fr' => execOps P n .loud ops.toList.toArray (ops.toList.drop m) fr' k')) else .fail 65
        | (2, m) => if P.follows .mixedOrders && tailB .any ops m then .drew (execOps P n .quiet (headOf ops m) (headOf ops m).toList fr (fun fr' => .grown (execOps P n .loud ops (ops.toList.drop m) fr' k'))) else .fail 66
        | (3, m) => if P.follows .mixedOrders && ordAll .any ops m (ordHere P ops m) then .drew (execOrd P n ops (ordHere P ops m) [] fr (fun fr' => execOps P n .loud ops (ops.toList.drop m) fr' k')) else .fail 68
        | (4, m) => if P.follows .mixedOrders && otAll .any ops m (otHere P ops m) then .drew (execOT P n ops (otHere P ops m) [] fr (fun fr' => execOps P n .loud ops (ops.toList.drop m) fr' k')) else .fail 69
        | _ => if P.follows .mixedOrders && Region.lexB .any ops then .drew (if callsIn ops then execOps P n .quiet ops ops.toList fr (fun fr' => .grown (k' fr')) else execOps P n .still ops ops.toList fr k') else .fail 63)
      else execOps P n .loud ops ops.toList fr k') Q1 w → (∀ fr' a' w', Grows fr fr' → Agrees n fr' a' → sat P (k' fr') Q1 w' → QC .normal a' w') → (Code.region id ops draw).wp P QC a w := by
      intro Q1 k' h1 h2
      cases draw
      · exact wpOps_of hA (by simpa using h1) h2 id
      · rw [if_pos rfl] at h1
        split at h1
        · by_cases hm : (P.follows .mixedOrders && otFull P .any ops (otFork P ops)) = true
          · rw [if_pos hm] at h1; exact wpOTF_of hA hm h1 h2 id
          · rw [if_neg hm] at h1; exact h1.elim
        split at h1
        · rename_i m _
          by_cases hm : (P.follows .mixedOrders && Region.lexTailB .any ops.toList.toArray m) = true
          · rw [if_pos hm] at h1; exact wpStillT_of hA hm h1 h2 id
          · rw [if_neg hm] at h1; exact h1.elim
        · rename_i m _
          by_cases hm : (P.follows .mixedOrders && tailB .any ops m) = true
          · rw [if_pos hm] at h1; exact wpQuietT_of hA hm h1 h2 id
          · rw [if_neg hm] at h1; exact h1.elim
        · rename_i m _
          by_cases hm : (P.follows .mixedOrders && ordAll .any ops m (ordHere P ops m)) = true
          · rw [if_pos hm] at h1; exact wpOrd_of hA hm h1 h2 id
          · rw [if_neg hm] at h1; exact h1.elim
        · rename_i m _
          by_cases hm : (P.follows .mixedOrders && otAll .any ops m (otHere P ops m)) = true
          · rw [if_pos hm] at h1; exact wpOT_of hA hm h1 h2 id
          · rw [if_neg hm] at h1; exact h1.elim
        · by_cases hm : (P.follows .mixedOrders && Region.lexB .any ops) = true
          · rw [if_pos hm] at h1
            by_cases hc : callsIn ops = true
            · rw [if_pos hc] at h1; exact wpQuiet_of hA hm h1 h2 id
            · rw [if_neg hc] at h1; exact wpStill_of hA hm h1 h2 id
          · rw [if_neg hm] at h1; exact h1.elim
    simp only [exec] at hs
    split at hs
    · exact core Q _ hs fun fr' a' w' hg hA' hs' => hk Q (fun _ _ _ _ h => h) .normal fr' a' w' hg hA' hs'
    · rename_i L _
      have hK := hk.cut L (opDsts ops.toList) (fun e fr' => match e with | .normal => leafAt (d + 1) L (opDsts ops.toList) fr fr' | e => k e fr') QC
        fun e fr' => by cases e <;> first | exact .inl ⟨rfl, fun _ _ h => h⟩ | exact .inr ⟨rfl, fun _ _ h => h⟩
      exact core (cutQ P (d + 1) (liveSh L) (fun z => k .normal (headFr L z (opDsts ops.toList) fr)) Q) _ hs fun fr' a' w' hg hA' hs' =>
        hK _ (fun _ _ _ _ h => h) .normal fr' a' w' hg hA' hs'
  | _ => intro d fr k Q QC a w hA hs hk; exact hs.elim

theorem frArgs_at : ∀ (args : List SV) (i t : Nat) (s : SV), look (frArgs i args) t = some s → i ≤ t ∧ args[t - i]? = some s
  | [], _, _, _, h => by cases h
  | v :: r, i, t, s, h => by
    simp only [frArgs, look] at h
    by_cases e : i = t
    · subst e; rw [if_pos (by simp)] at h; cases h; simp
    · rw [if_neg (by simpa using e)] at h
      obtain ⟨h1, h2⟩ := frArgs_at r (i + 1) t s h
      refine ⟨by omega, ?_⟩
      rw [show t - i = (t - (i + 1)) + 1 by omega]
      simpa using h2
def resV (a : Act) : ResultVar → Sem Value
  | .tmp t => pure (a.tmps.getD t undef)
  | .cell b t => do loadVar t (← asAddr (a.tmps.getD b undef))
theorem resK_run {a : Act} {fr : Fr} {Q : Nat → List Value → World → Prop} {w : World} (hA : Agrees n fr a) : ∀ {l : List ResultVar} {k : List Value → T}, sat P (resK P l fr k) Q w →
    ∃ vs, (l.mapM (resV a)).run P w = .ok vs w ∧ sat P (k vs) Q w := by
  intro l
  induction l with
  | nil => intro k h; exact ⟨[], by simp, h⟩
  | cons r l ih =>
    intro k h
    cases r with
    | tmp t =>
      simp only [resK] at h
      split at h
      · rename_i s hs
        obtain ⟨vs, h1, h2⟩ := ih h
        have h3 : a.tmps.getD t undef = s.val := by simp [hA.at_ t s hs]
        exact ⟨s.val :: vs, by simp [List.mapM_cons, resV, h3, h1], h2⟩
      · exact h.elim
    | cell b t =>
      simp only [resK] at h
      split at h
      · rename_i s hs
        obtain ⟨c, hc, h⟩ := asP_sat h
        have h3 : a.tmps.getD b undef = .pointer (some c) := by simp [hA.at_ b s hs, hc]
        split at h
        · obtain ⟨x, h4, h⟩ := h
          obtain ⟨vs, h1, h2⟩ := ih h
          rw [Sh.sv_val] at h2
          refine ⟨(shOf P t).val x :: vs, ?_, h2⟩
          have h5 : (loadVar t c).run P w = .ok ((shOf P t).val x) w := by simpa [Instr.loadAt, Instr.sureAddr] using h4
          simp [List.mapM_cons, resV, h3, asAddr, h5, h1]
        · rename_i hag
          obtain ⟨x, h4, h⟩ := h
          obtain ⟨vs, h1, h2⟩ := ih h
          refine ⟨(shOf P t).val x :: vs, ?_, h2⟩
          have h5 : (loadVar t c).run P w = .ok ((shOf P t).val x) w := by simpa [Instr.loadAt, Instr.sureAddr] using run_loadVar hag h4
          simp [List.mapM_cons, resV, h3, asAddr, h5, h1]
        · exact h.elim
      · exact h.elim
/-- WHAT THE TREE SAYS, THE CALL DOES. -/
theorem calls_of_tree {h : Hints} {f : FuncId} {fn : Func} {c : Code} {args : List SV} {w : World} {R : Ending → World → Prop} {t : T} (hf : P.funcs[f]? = some fn) (hb : fn.body = some c)
    (hn : args.length ≤ fn.ntmps) (ht : fnT P h fn c args = t) (hs : sat P t (fun l vs w' => l = 0 ∧ R (.returned (retVal vs)) w') w) : Calls P f (args.map SV.val).toArray w R := by
  refine calls_of_wp hf hb ?_
  subst ht
  refine exec_sound (n := fn.ntmps) h c 0 _ _ _ _ _ w ?_ hs ?_
  · refine ⟨by simp; omega, rfl, fun t s hl => ?_⟩
    obtain ⟨_, h2⟩ := frArgs_at args 0 t s hl
    simp only [Nat.sub_zero] at h2
    have hlt : t < args.length := by
      rcases Nat.lt_or_ge t args.length with g | g
      · exact g
      · rw [List.getElem?_eq_none g] at h2; cases h2
    rw [Array.getElem?_append_left (by simpa using hlt)]
    simp [h2]
  · intro Q' hQ e fr a w' _ hA hs'
    have key : ∀ (e : Ex), (∀ i, e ≠ .exit i) → sat P (resK P fn.results.toList fr (fun vs => .leaf 0 vs)) Q' w' → bodyPost P fn R e.to a w' := by
      intro e he hs'
      obtain ⟨vs, h1, hs'⟩ := resK_run hA hs'
      obtain ⟨_, hR⟩ := hQ 0 (Nat.le_refl _) vs w' hs'
      have hr : (results fn a.tmps).run P w' = .ok (retVal vs) w' := by
        have h2 : (fn.results.mapM (resV a)).run P w' = .ok vs.toArray w' := by
          rw [Array.mapM_eq_mapM_toList]
          simp only [Sem.run_map, h1, Result.andThen_ok]
        show (do let vs ← fn.results.mapM (resV a); pure (if h : vs.size = 1 then vs[0] else .tuple vs) : Sem Value).run P w' = _
        simp only [Sem.run_bind, h2, Result.andThen_ok, Sem.run_pure]
        congr 1
        match vs with
        | [] => rfl
        | [v] => rfl
        | _ :: _ :: _ => rfl
      cases e with
      | exit i => exact absurd rfl (he i)
      | normal => exact ⟨hA.defers, _, hr, hR⟩
      | ret => exact ⟨hA.defers, _, hr, hR⟩
    cases e with
    | exit i => exact hs'.elim
    | normal => exact key .normal (by intro i h; cases h) hs'
    | ret => exact key .ret (by intro i h; cases h) hs'
end
end Go.Proofs.YtkpnomdmnhhaoaaGreatDoor.Rx
