/- A reader of loaded code, second part: each operation that 'opT' lays out does what the machine does. No statement of the set is proved here. -/
import Derived.Test.YtkpnomdmnhhaoaaGreatDoorRx
namespace Go.Proofs.YtkpnomdmnhhaoaaGreatDoor.Rx
open Go

section
variable {P : Program} {Q : Nat → List Value → World → Prop} {n : Nat} {fr : Fr} {a : Act} {kk : SV → T} {w : World} {st : Md}

def noCall : Op → Bool
  | .call { callee := .value _, .. } => false
  | .call { callee := .invoke _ _, .. } => false
  | _ => true

theorem run_mkI {t : TypeId} {d : TypeDesc} {x : Value} (hu : P.underlying t = some d) (hn : ∀ ms, d = .interface ms → False) : (Instr.makeInterface t x).run P w = .ok (.iface t x) w := by
  simp only [Instr.makeInterface, Sem.run_bind, run_und hu, Result.andThen_ok]
  rfl
theorem run_loadVar {t : TypeId} {b : Addr} {v : Value} (ha : aggT P t = some false) (hc : w.cell? b = some v) : (Instr.loadAt t (.pointer (some b))).run P w = .ok v w := by
  simp [Instr.loadAt, Instr.sureAddr, loadVar, run_agg ha, hc]
theorem run_storeVar {t : TypeId} {b : Addr} {v u : Value} {i : TypeInfo} (hi : P.info? t = some i) (h1 : i.size = 1) (hv : one v = true) (hc : w.cell? b = some u) (hf : w.frozen? b = false) :
    (Instr.storeAt t (.pointer (some b)) v).run P w = .ok () (w.setCell b v) := by
  have hcells : v.cells = #[v] := by cases v <;> first | rfl | (simp [one] at hv)
  have ho : v.oneCell' = true := by cases v <;> first | rfl | (simp [one] at hv)
  have hadd : b.add 0 = b := by simp [Addr.add]
  simp only [Instr.storeAt, Instr.sureAddr, storeVar, Sem.run_bind, Sem.run_pure, Result.andThen_ok, run_size hi, hcells, h1]
  simp [storeCells, hadd, run_store, ho, hc, hf]
theorem sb_run (hA : Agrees n fr a) {y : Operand} {k : IntKind} {q : Int} {c : BoundsCode} {m : Nat} (hq : opv fr y = some (.v (.int k q))) (h1 : 0 ≤ q) (h2 : q ≤ (m : Int)) :
    (Instr.sliceBound (a.eval y) m c).run P w = .ok q.toNat w := by
  simp only [hA.opv hq, SV.val, Instr.sliceBound, asIntOf, Sem.run_bind, Sem.run_pure, Result.andThen_ok]
  rw [if_pos ⟨h1, h2⟩]
  rfl
theorem bnd_some {d : Int} {y : Operand} {l : Int} (h : bnd fr d (some y) = some l) : ∃ k, opv fr y = some (.v (.int k l)) := by
  simp only [bnd] at h
  split at h
  · rename_i k q hq; simp only [Option.some.injEq] at h; subst h; exact ⟨k, hq⟩
  · cases h
theorem bounds_run {isS : Bool} (hA : Agrees n fr a) {lo hi : Option Operand} {len cap : Nat} {l h : Int} (hl : bnd fr 0 lo = some l) (hh : bnd fr len hi = some h)
    (h1 : 0 ≤ l) (h2 : l ≤ h) (h3 : h ≤ (cap : Int)) :
    (Instr.sliceBounds isS len cap (lo.map a.eval) (hi.map a.eval) none).run P w = .ok (l.toNat, h.toNat, cap) w := by
  have h4 : l ≤ ((h.toNat : Nat) : Int) := by omega
  cases lo with
  | none =>
    simp only [bnd, Option.some.injEq] at hl
    subst hl
    cases hi with
    | none =>
      simp only [bnd, Option.some.injEq] at hh
      subst hh
      simp [Instr.sliceBounds]
    | some y =>
      obtain ⟨k, hq⟩ := bnd_some hh
      simp [Instr.sliceBounds, sb_run hA hq (by omega) h3]
  | some x =>
    obtain ⟨k', hx⟩ := bnd_some hl
    cases hi with
    | none =>
      simp only [bnd, Option.some.injEq] at hh
      subst hh
      simp [Instr.sliceBounds, sb_run hA hx h1 h2]
    | some y =>
      obtain ⟨k, hq⟩ := bnd_some hh
      simp [Instr.sliceBounds, sb_run hA hq (by omega) h3, sb_run (m := h.toNat) hA hx h1 h4]
theorem exec_builtin {o : Oper} {b : Builtin} {cargs : Array Operand} {ats : Array TypeId} {args : List Value} (ho : o.op = .call ⟨.builtin b, cargs, ats⟩) (he : cargs.map a.eval = args.toArray) :
    ∃ cs, execOp a.eval o = builtin b ats o.type cs args.toArray := by
  refine ⟨cargs.map fun | .const _ => true | _ => false, ?_⟩
  unfold execOp
  rw [ho]
  simp only [resolve, he]
  rfl
set_option linter.unusedSimpArgs false
set_option maxHeartbeats 2000000 in
theorem opT_run (hA : Agrees n fr a) (o : Oper) (hn : noCall o.op = true) (h : sat P (opT P st fr o kk) Q w) : Goes P Q st kk w (execOp a.eval o) := by
  obtain ⟨dst, op, type, pos, after, guard⟩ := o
  cases op
  case move x =>
    simp only [opT] at h
    split at h
    · rename_i s hs; exact Goes.val s (fun w => by simp [execOp, hA.opv hs]) h
    · exact h.elim
  case assign x =>
    simp only [opT] at h
    split at h
    · rename_i s hs; exact Goes.val s (fun w => by simp [execOp, hA.opv hs]) h
    · exact h.elim
  case pick c x y =>
    simp only [opT] at h
    split at h
    · rename_i hc
      split at h
      · rename_i s hs; exact Goes.val s (fun w => by simp [execOp, asBool, hA.opv hs, hA.opv hc, SV.val]) h
      · exact h.elim
    · rename_i hc
      split at h
      · rename_i s hs; exact Goes.val s (fun w => by simp [execOp, asBool, hA.opv hs, hA.opv hc, SV.val]) h
      · exact h.elim
    · rename_i b hc
      split at h
      · rename_i s s' hs hs'
        have h := Rx.sat_ite h
        cases b
        · exact Goes.val s' (fun w => by simp [execOp, asBool, hA.opv hs', hA.opv hc, SV.val]) (by simpa using h)
        · exact Goes.val s (fun w => by simp [execOp, asBool, hA.opv hs, hA.opv hc, SV.val]) (by simpa using h)
      · exact h.elim
    · exact h.elim
  case nilCheck x =>
    simp only [opT] at h
    split at h
    · rename_i s hs
      refine Goes.of (fun w x w' hr => ?_) h
      have := nilV_run hr
      simp only [execOp, hA.opv hs, SV.val] at this ⊢
      exact this
    · rename_i s _ hs
      obtain ⟨b, hb, h⟩ := asP_sat h
      exact Goes.val (.p b) (fun w => by simp [execOp, (hA.opv hs).trans hb]; rfl) h
    · exact h.elim
  case binOp op t x y yt =>
    simp only [opT] at h
    split at h
    · rename_i hx hy
      obtain ⟨sv, h1, h2⟩ := arith_run (t := t) (x := x) (y := y) h
      exact Goes.val sv (fun w => by simp only [execOp, hA.opv hx, hA.opv hy, SV.val]; exact run_value (h1 w)) h2
    · rename_i hx hy
      obtain ⟨sv, h1, h2⟩ := strOp_run (t := t) (x := x) (y := y) h
      exact Goes.val sv (fun w => by simp only [execOp, hA.opv hx, hA.opv hy, SV.val]; exact run_value (h1 w)) h2
    · rename_i hx hy
      split at h
      · rename_i hu
        exact Goes.val .ff (fun w => by simp only [execOp, hA.opv hx, hA.opv hy, SV.val]; exact run_value (ptr_run hu).1) h
      · rename_i hu
        exact Goes.val .tt (fun w => by simp only [execOp, hA.opv hx, hA.opv hy, SV.val]; exact run_value (ptr_run hu).2) h
      · exact h.elim
    · rename_i hx hy
      split at h
      · rename_i hu
        exact Goes.val _ (fun w => by simp only [execOp, hA.opv hx, hA.opv hy, SV.val]; exact run_value (ptr_run hu).1) h
      · rename_i hu
        exact Goes.val _ (fun w => by simp only [execOp, hA.opv hx, hA.opv hy, SV.val]; exact run_value (ptr_run hu).2) h
      · exact h.elim
    · rename_i hx hy
      split at h
      · rename_i hu
        exact Goes.val _ (fun w => by simp only [execOp, hA.opv hx, hA.opv hy, SV.val]; exact run_value (slc_run hu).1) h
      · rename_i hu
        exact Goes.val _ (fun w => by simp only [execOp, hA.opv hx, hA.opv hy, SV.val]; exact run_value (slc_run hu).2) h
      · exact h.elim
    · rename_i a b hx hy
      split at h
      · rename_i hu
        exact Goes.val _ (fun w => by simp only [execOp, hA.opv hx, hA.opv hy, SV.val]; exact run_value (bool_run hu).1) h
      · rename_i hu
        exact Goes.val _ (fun w => by simp only [execOp, hA.opv hx, hA.opv hy, SV.val]; exact run_value (bool_run hu).2) h
      · exact h.elim
    · rename_i a hx hy
      split at h
      · rename_i hu
        exact Goes.val _ (fun w => by simp only [execOp, hA.opv hx, hA.opv hy, SV.val]; rw [run_value (bool_run hu).1]; cases a <;> rfl) h
      · rename_i hu
        exact Goes.val _ (fun w => by simp only [execOp, hA.opv hx, hA.opv hy, SV.val]; rw [run_value (bool_run hu).2]; cases a <;> rfl) h
      · exact h.elim
    · rename_i a hx hy
      split at h
      · rename_i hu
        exact Goes.val _ (fun w => by simp only [execOp, hA.opv hx, hA.opv hy, SV.val]; rw [run_value (bool_run hu).1]; cases a <;> rfl) h
      · rename_i hu
        exact Goes.val _ (fun w => by simp only [execOp, hA.opv hx, hA.opv hy, SV.val]; rw [run_value (bool_run hu).2]; cases a <;> rfl) h
      · exact h.elim
    · rename_i hx hy
      split at h
      · rename_i hu
        exact Goes.val _ (fun w => by simp only [execOp, hA.opv hx, hA.opv hy, SV.val]; exact run_value (iface_run hu h.1).1) h.2
      · rename_i hu
        exact Goes.val _ (fun w => by simp only [execOp, hA.opv hx, hA.opv hy, SV.val]; exact run_value (iface_run hu h.1).2) h.2
      · exact h.elim
    · have g := Goes.eff h
      simp only [execOp, hA.opv (x := x) (by assumption), hA.opv (x := y) (by assumption)]
      exact g
    · exact h.elim
  case unOp op t x =>
    simp only [opT] at h
    split at h
    · rename_i hx; exact Goes.val _ (fun w => by simp [execOp, Op.unary, hA.opv hx, SV.val]) h
    · rename_i hx; exact Goes.val _ (fun w => by simp [execOp, Op.unary, hA.opv hx, SV.val]) h
    · rename_i hx; exact Goes.val _ (fun w => by simp [execOp, Op.unary, hA.opv hx, SV.val]) h
    · rename_i hx; exact Goes.val _ (fun w => by simp [execOp, Op.unary, Op.intArith, hA.opv hx, SV.val]) h
    · have g := Goes.eff h; simp only [execOp, hA.opv (x := x) (by assumption)]; exact g
    · exact h.elim
  case convert src dst x =>
    simp only [opT] at h
    split at h
    · rename_i h1 h2 hx
      exact Goes.val _ (fun w => by simp [execOp, convert, underlying, h1, h2, Conv.intToInt, hA.opv hx, SV.val]) h
    · rename_i h1 h2 hx
      refine Goes.val _ (fun w => ?_) h
      simp only [execOp, hA.opv hx, SV.val]
      refine run_value ?_
      simp [convert, underlying, h1, h2]
    · have g := Goes.eff h; simp only [execOp, hA.opv (x := x) (by assumption)]; exact g
    · exact h.elim
  case fieldAddr t x f =>
    simp only [opT] at h
    split at h
    · rename_i hu hx
      split at h
      · rename_i fd hf
        split at h
        · rename_i i hi
          split at h
          · exact h.elim
          · rename_i hne
            obtain ⟨b, hb, h⟩ := asP_sat h
            refine Goes.val _ (fun w => ?_) h
            simp only [execOp, (hA.opv hx).trans hb]
            refine run_value ?_
            simp [Instr.fieldAt, Instr.sureAddr, fieldPlace, run_und hu, run_size hi, hf, hne, SV.val]
        · exact h.elim
      · exact h.elim
    · exact h.elim
  case field t x f =>
    simp only [opT] at h
    split at h
    · rename_i hu hx
      split at h
      · rename_i fd hf
        split at h
        · rename_i hag
          split at h
          · rename_i i hi
            refine Goes.val _ (fun w => ?_) h
            simp only [execOp, hA.opv hx, SV.val]
            refine run_value ?_
            simp [Instr.field, part, asAgg, run_und hu, run_agg hag, run_size hi, hf]
          · exact h.elim
        · rename_i hag
          split at h
          · rename_i v hv
            have key : ∀ w, (execOp a.eval { dst := dst, op := Op.field t x f, type := type, pos := pos, after := after, guard := guard }).run P w = .ok (.value v) w := by
              intro w
              simp only [execOp, hA.opv hx, SV.val]
              refine run_value ?_
              simp [Instr.field, part, asAgg, run_und hu, run_agg hag, hf, hv]
            split at h
            · exact Goes.val (.o v) key h
            · exact Goes.val (.v v) key h
          · exact h.elim
        · exact h.elim
      · exact h.elim
    · exact h.elim
  case indexAddr t x ix =>
    simp only [opT] at h
    split at h
    · rename_i hu hx hi
      split at h
      · rename_i d hd
        obtain ⟨⟨h1, h2⟩, b, rfl, h⟩ := h
        refine Goes.val _ (fun w => ?_) h
        simp only [execOp, hA.opv hx, hA.opv hi, SV.val]
        refine run_value ?_
        simp [Instr.indexAt, asIntOf, run_und hu, run_size hd, h1, h2]
      · exact h.elim
    · rename_i hu hx hi
      split at h
      · rename_i d hd
        obtain ⟨⟨h1, h2⟩, h⟩ := h
        obtain ⟨b, hb, h⟩ := asP_sat h
        refine Goes.val _ (fun w => ?_) h
        simp only [execOp, (hA.opv hx).trans hb, hA.opv hi]
        refine run_value ?_
        simp [Instr.indexAt, Instr.sureAddr, asIntOf, run_und hu, run_size hd, h1, h2, SV.val]
      · exact h.elim
    · exact h.elim
  case index t x ix =>
    simp only [opT] at h
    split at h
    · rename_i s _ i hu hx hi
      obtain ⟨⟨h1, h2⟩, h⟩ := h
      refine Goes.val _ (fun w => ?_) h
      simp only [execOp, hA.opv hx, hA.opv hi, SV.val]
      refine run_value ?_
      have h3 : i.toNat < s.size := by omega
      have h4 : i.toNat < s.data.size := h3
      simp [Instr.index, asIntOf, run_und hu, h1, h3, bt, List.getD]
      rfl
    · have g := Goes.eff h; simp only [execOp, hA.opv (x := x) (by assumption), hA.opv (x := ix) (by assumption)]; exact g
    · exact h.elim
  case extract x i =>
    simp only [opT] at h
    split at h
    · rename_i vs hx
      split at h
      · rename_i v hv
        have hv' : vs[i]? = some v := by simpa using hv
        have key : ∀ w, (execOp a.eval { dst := dst, op := Op.extract x i, type := type, pos := pos, after := after, guard := guard }).run P w = .ok (.value v) w := by
          intro w
          simp only [execOp, hA.opv hx, SV.val]
          refine run_value ?_
          simp [Instr.extract, hv']
        split at h
        · exact Goes.val (.o v) key h
        · exact Goes.val (.v v) key h
      · exact h.elim
    · exact h.elim
  case makeInterface t x =>
    simp only [opT] at h
    split at h
    · exact h.elim
    · refine Goes.val _ (fun w => ?_) h
      simp only [execOp, hA.opv (x := x) (by assumption)]
      exact run_value (run_mkI (by assumption) (by assumption))
    · exact h.elim
  case load t x =>
    simp only [opT] at h
    split at h
    · rename_i s hx
      obtain ⟨b, hb, h⟩ := asP_sat h
      simp only [execOp, (hA.opv hx).trans hb]
      split at h
      · exact Goes.eff h
      · rename_i hag
        obtain ⟨y, h1, h2⟩ := h
        exact Goes.load _ h1 (fun w hc => run_value (by rw [Sh.sv_val]; exact run_loadVar hag hc)) h2
      · exact h.elim
    · exact h.elim
  case store t x y =>
    simp only [opT] at h
    split at h
    · rename_i p s hx hy
      obtain ⟨rfl, h0⟩ := loud_sat h
      clear h
      obtain ⟨b, hb, h⟩ := asP_sat h0
      simp only [execOp, (hA.opv hx).trans hb, hA.opv hy]
      cases s with
      | v v =>
        cases hi : P.info? t with
        | none => simp only [hi] at h; exact h.elim
        | some i =>
          simp only [hi] at h
          by_cases hc : (one v && i.size == 1) = true
          · rw [if_pos hc] at h
            obtain ⟨hv, h1⟩ := Bool.and_eq_true_iff.1 hc
            obtain ⟨⟨u, hu⟩, hf, h⟩ := h
            exact ⟨_, _, .inr ⟨run_skip (run_storeVar hi (by simpa using h1) hv hu hf), rfl⟩, h⟩
          · rw [if_neg hc] at h
            obtain ⟨w', h1, h⟩ := h
            exact ⟨_, _, .inr ⟨run_skip h1, rfl⟩, h⟩
      | o v =>
        obtain ⟨w', h1, h⟩ := h
        exact ⟨_, _, .inr ⟨run_skip h1, rfl⟩, h⟩
      | p c =>
        cases hi : P.info? t with
        | none => simp only [hi] at h; exact h.elim
        | some i =>
          simp only [hi] at h
          by_cases hc : i.size = 1
          · rw [if_pos hc] at h
            obtain ⟨⟨u, hu⟩, hf, h⟩ := h
            exact ⟨_, _, .inr ⟨run_skip (run_storeVar hi hc rfl hu hf), rfl⟩, h⟩
          · rw [if_neg hc] at h; exact h.elim
      | tt =>
        cases hi : P.info? t with
        | none => simp only [hi] at h; exact h.elim
        | some i =>
          simp only [hi] at h
          by_cases hc : i.size = 1
          · rw [if_pos hc] at h
            obtain ⟨⟨u, hu⟩, hf, h⟩ := h
            exact ⟨_, _, .inr ⟨run_skip (run_storeVar hi hc rfl hu hf), rfl⟩, h⟩
          · rw [if_neg hc] at h; exact h.elim
      | ff =>
        cases hi : P.info? t with
        | none => simp only [hi] at h; exact h.elim
        | some i =>
          simp only [hi] at h
          by_cases hc : i.size = 1
          · rw [if_pos hc] at h
            obtain ⟨⟨u, hu⟩, hf, h⟩ := h
            exact ⟨_, _, .inr ⟨run_skip (run_storeVar hi hc rfl hu hf), rfl⟩, h⟩
          · rw [if_neg hc] at h; exact h.elim
    · exact h.elim
  case alloc t =>
    simp only [opT] at h
    split at h
    · rename_i i hi
      split at h
      · rename_i z hz
        obtain ⟨rfl, h⟩ := loud_sat h
        refine ⟨_, _, .inl ?_, h⟩
        simp only [execOp, SV.val]
        refine run_value ?_
        simp [Instr.alloc, zeroValue, typeInfo, hi, hz, newVar, newRow]
      · exact h.elim
    · exact h.elim
  case box t x =>
    simp only [opT] at h
    split at h
    · rename_i s hs
      obtain ⟨rfl, h⟩ := loud_sat h
      refine ⟨_, _, .inl ?_, h⟩
      simp only [execOp, SV.val, hA.opv hs]
      refine run_value ?_
      simp [Instr.box, newVar, newRow]
    · exact h.elim
  case build t parts =>
    simp only [opT] at h
    split at h
    · rename_i ps hps
      have e : (parts.map fun p => (p.1, a.eval p.2)) = ps.toArray := by
        have := mapM_parts hA hps
        exact Array.toList_inj.1 (by simpa using this)
      simp only [execOp]
      rw [e]
      split at h
      · exact Goes.eff h
      split at h
      · rename_i cs hcs
        exact Goes.val _ (fun w => run_value (build_run hcs)) h
      · exact h.elim
    · exact h.elim
  case buildSlice t m parts =>
    simp only [opT] at h
    split at h
    · rename_i ps hps
      have e : (parts.map fun p => (p.1, a.eval p.2)) = ps.toArray := by
        have := mapM_parts hA hps
        exact Array.toList_inj.1 (by simpa using this)
      simp only [execOp]
      have g := Goes.eff h
      rw [← e] at g
      exact g
    · exact h.elim
  case makeSlice t l c =>
    simp only [opT] at h
    split at h
    · have g := Goes.eff h; simp only [execOp, hA.opv (x := l) (by assumption), hA.opv (x := c) (by assumption)]; exact g
    · exact h.elim
  case typeAssert x t u ok =>
    simp only [opT] at h
    split at h
    · have g := Goes.eff h; simp only [execOp, hA.opv (x := x) (by assumption)]; exact g
    · exact h.elim
  case slice t x lo hi mx =>
    cases mx with
    | some m =>
      simp only [opT] at h
      split at h
      · rename_i s s' lo' hi' hx hm hlo hhi
        have g := Goes.eff h
        have e1 : lo.map a.eval = lo' := by
          cases lo with
          | none => simpa using hlo
          | some y =>
            simp only [Option.map_eq_some_iff] at hlo
            obtain ⟨s, hs, rfl⟩ := hlo
            simp [hA.opv hs]
        have e2 : hi.map a.eval = hi' := by
          cases hi with
          | none => simpa using hhi
          | some y =>
            simp only [Option.map_eq_some_iff] at hhi
            obtain ⟨s, hs, rfl⟩ := hhi
            simp [hA.opv hs]
        simp only [execOp, hA.opv hx, e1, e2, Option.map_some, hA.opv hm]; exact g
      · exact h.elim
    | none =>
      simp only [opT] at h
      split at h
      · rename_i s hu hx
        split at h
        · rename_i l q hl hq
          obtain ⟨⟨h1, h2, h3⟩, h⟩ := h
          refine Goes.val _ (fun w => ?_) h
          simp only [execOp, hA.opv hx, SV.val]
          refine run_value ?_
          have g := bounds_run (P := P) (w := w) (isS := false) hA (len := s.size) (cap := s.size) hl hq h1 h2 h3 
          simp [Instr.sliceAt, Instr.slice, run_und hu, g]
        · exact h.elim
      · rename_i e p len cap hu hx
        split at h
        · rename_i l q i hl hq hi
          obtain ⟨⟨h1, h2, h3⟩, h⟩ := h
          refine Goes.val _ (fun w => ?_) h
          simp only [execOp, hA.opv hx, SV.val]
          refine run_value ?_
          have g := bounds_run (P := P) (w := w) (isS := true) hA (len := len) (cap := cap) hl hq h1 h2 h3
          simp [Instr.sliceAt, Instr.slice, run_und hu, run_size hi, g]
        · exact h.elim
      · split at h
        · rename_i lo' hi' hlo hhi
          have g := Goes.eff h
          have e1 : lo.map a.eval = lo' := by
            cases lo with
            | none => simpa using hlo
            | some y =>
              simp only [Option.map_eq_some_iff] at hlo
              obtain ⟨s, hs, rfl⟩ := hlo
              simp [hA.opv hs]
          have e2 : hi.map a.eval = hi' := by
            cases hi with
            | none => simpa using hhi
            | some y =>
              simp only [Option.map_eq_some_iff] at hhi
              obtain ⟨s, hs, rfl⟩ := hhi
              simp [hA.opv hs]
          simp only [execOp, hA.opv (x := x) (by assumption), e1, e2, Option.map_none]
          exact g
        · exact h.elim
      · exact h.elim
  case makeFunc fn first caps =>
    simp only [opT] at h
    split at h
    · rename_i fs cs hfs hcs
      have e1 : (first.map a.eval) = fs.toArray := Array.toList_inj.1 (by simpa using mapM_opv hA hfs)
      have e2 : (caps.map a.eval) = cs.toArray := Array.toList_inj.1 (by simpa using mapM_opv hA hcs)
      refine Goes.val _ (fun w => ?_) h
      simp [execOp, e1, e2, Instr.makeFunc, SV.val]
    · exact h.elim
  case call c =>
    simp only [opT] at h
    split at h
    · rename_i args hargs
      have e : (c.args.map a.eval) = args.toArray := by
        have := mapM_opv hA hargs
        exact Array.toList_inj.1 (by simpa using this)
      obtain ⟨callee, cargs, argTypes⟩ := c
      simp only at h e hargs
      cases callee with
      | value f => simp [noCall] at hn
      | invoke r m => simp [noCall] at hn
      | builtin b =>
        obtain ⟨cs, hex⟩ := exec_builtin (o := { dst := dst, op := Op.call { callee := Callee.builtin b, args := cargs, argTypes := argTypes }, type := type, pos := pos, after := after, guard := guard }) rfl e
        rw [hex]
        cases b
        case len =>
          simp only at h
          split at h
          · rename_i t _ s _ hts
            have ht : argTypes[0]? = some t := by rw [← Array.getElem?_toList, hts]; rfl
            split at h
            · rename_i hu
              refine Goes.val _ (fun w => run_value ?_) h
              simp [Builtin.len_, ht, run_und hu, goInt, SV.val]
            · exact h.elim
          · rename_i t _ p m c _ hts
            have ht : argTypes[0]? = some t := by rw [← Array.getElem?_toList, hts]; rfl
            split at h
            · rename_i hu
              refine Goes.val _ (fun w => run_value ?_) h
              simp [Builtin.len_, ht, run_und hu, goInt, SV.val]
            · exact h.elim
          · exact Goes.eff h
        case cap =>
          simp only at h
          split at h
          · rename_i t _ p m c _ hts
            have ht : argTypes[0]? = some t := by rw [← Array.getElem?_toList, hts]; rfl
            split at h
            · rename_i hu
              refine Goes.val _ (fun w => run_value ?_) h
              simp [Builtin.cap_, ht, run_und hu, goInt, SV.val]
            · exact h.elim
          · exact h.elim
        case append => exact Goes.eff h
        case copy => exact Goes.eff h
        case clear => exact Goes.eff h
        case max => exact Goes.eff h
        case min => exact Goes.eff h
        all_goals exact h.elim
    · exact h.elim
  all_goals exact h.elim
end
end Go.Proofs.YtkpnomdmnhhaoaaGreatDoor.Rx
