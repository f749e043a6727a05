/- Structs of a call back compared; rows of strings put together. No statement of the set is proved here. -/
import Derived.Test.YtcjphnppedmbdaaGreatDoorLy
import Derived.Laws.StructEq
import Derived.Deep.Upon
namespace Go.Proofs.YtcjphnppedmbdaaGreatDoor.Ka
open Go Go.Proofs Go.RowKit Go.Proofs.YtcjphnppedmbdaaGreatDoor.Rx Go.Proofs.YtcjphnppedmbdaaGreatDoor.Tr Go.Proofs.YtcjphnppedmbdaaGreatDoor.Pl

noncomputable def fAt (j : Nat) : Field := (Tryz.prog.fieldsOf tAt).toList.getD j default
theorem fAt_all : (Tryz.prog.fieldsOf tAt).toList = [fAt 0, fAt 1, fAt 2] := by kernel_rfl
theorem fAt_names : ((fAt 0).name == "_") = false ∧ ((fAt 1).name == "_") = false ∧ ((fAt 2).name == "_") = false := ⟨by kernel_rfl, by kernel_rfl, by kernel_rfl⟩
theorem fAt_0 : (fAt 0).type = 3 ∧ (fAt 0).offset = 0 := ⟨by kernel_rfl, by kernel_rfl⟩
theorem fAt_1 : (fAt 1).type = 9 ∧ (fAt 1).offset = 1 := ⟨by kernel_rfl, by kernel_rfl⟩
theorem fAt_2 : (fAt 2).type = 3 ∧ (fAt 2).offset = 2 := ⟨by kernel_rfl, by kernel_rfl⟩
theorem part_run {w : World} {t : TypeId} {cs : Array Value} {o : Nat} {v : Value} (ha : aggT Tryz.prog t = some false) (h : cs[o]? = some v) : (part t cs o).run Tryz.prog w = .ok v w := by
  unfold part
  simp only [Sem.run_bind, run_agg ha, Result.andThen_ok]
  simp [h]
/-- Two of the same differ in nothing. -/
theorem at_neq {w : World} (a : Int) (t : ByteArray) (k : Int) (x y : Operand) :
    (do eqGuard .neq tAt x y (.agg #[.int .i64 a, .string t, .int .i64 k]) (.agg #[.int .i64 a, .string t, .int .i64 k]); binOp .neq tAt (.agg #[.int .i64 a, .string t, .int .i64 k]) (.agg #[.int .i64 a, .string t, .int .i64 k]) : Sem Value).run Tryz.prog w = .ok (.bool false) w := by
  have hm : Tryz.prog.eqGuardType Tryz.prog.depth tAt = false := by kernel_rfl
  have ht : Tryz.prog.underlying tAt = some (.struct (Tryz.prog.fieldsOf tAt)) := by kernel_rfl
  have hp : Tryz.prog.stoodInHeld tAt = false := by kernel_rfl
  have hI : aggT Tryz.prog 3 = some false := by kernel_rfl
  have hS : aggT Tryz.prog 9 = some false := by kernel_rfl
  have n0 : (fAt 0).name ≠ "_" := by have := fAt_names.1; simpa using this
  have n1 : (fAt 1).name ≠ "_" := by have := fAt_names.2.1; simpa using this
  have n2 : (fAt 2).name ≠ "_" := by have := fAt_names.2.2; simpa using this
  simp only [Sem.run_bind, run_eqGuard_agg w _ tAt x y _ _ hm, Result.andThen_ok, run_neq_struct]
  rw [show (10000 : Nat) = 9998 + 1 + 1 from rfl, run_equalIn_agg w (9998 + 1) tAt _ _ ht hp, fAt_all]
  simp only [Op.eqFields, n0, n1, n2, ne_eq, not_false_eq_true, if_true, fAt_0.1, fAt_0.2, fAt_1.1, fAt_1.2, fAt_2.1, fAt_2.2, Sem.run_bind,
    part_run (w := w) hI (show (#[Value.int .i64 a, .string t, .int .i64 k] : Array Value)[0]? = some (.int .i64 a) from rfl), part_run (w := w) hS (show (#[Value.int .i64 a, .string t, .int .i64 k] : Array Value)[1]? = some (.string t) from rfl), part_run (w := w) hI (show (#[Value.int .i64 a, .string t, .int .i64 k] : Array Value)[2]? = some (.int .i64 k) from rfl), Result.andThen_ok,
    run_equalIn_int w 9998 3 .i64 .i64 a a Tryz.underlying3, run_equalIn_int w 9998 3 .i64 .i64 k k Tryz.underlying3, run_equalIn_string w 9998 9 t t Tryz.underlying9, beq_self_eq_true, Bool.not_true, Bool.false_eq_true, if_false, Sem.run_pure]
theorem at_run {w : World} {g o : Nat} {a : Int} {t : ByteArray} {k : Int} (h : ∀ j, j < 3 → w.cell? ⟨g, o + j, none⟩ = ([.int .i64 a, .string t, .int .i64 k] : List Value)[j]?) :
    (Instr.loadAt tAt (.pointer (some ⟨g, o, none⟩))).run Tryz.prog w = .ok (.agg #[.int .i64 a, .string t, .int .i64 k]) w := by
  have hi := info_some (P := Tryz.prog) (t := tAt) (by kernel_rfl)
  have hs : ((Tryz.prog.info? tAt).get (by kernel_rfl)).size = 3 := by kernel_rfl
  have ha : aggT Tryz.prog tAt = some true := by kernel_rfl
  have h0 : w.cell? ⟨g, o, none⟩ = some (.int .i64 a) := h 0 (by decide)
  have h1 : w.cell? ⟨g, o + 1, none⟩ = some (.string t) := h 1 (by decide)
  have h2 : w.cell? ⟨g, o + 2, none⟩ = some (.int .i64 k) := h 2 (by decide)
  simp only [Instr.loadAt, Instr.sureAddr, loadVar, Sem.run_bind, Sem.run_pure, Result.andThen_ok, run_agg ha, if_true, run_size hi, loadCells, hs]
  simp [loadCellsFrom, h0, h1, h2]
abbrev tKs : TypeId := 22
abbrev tSt : TypeId := 9
theorem bs0_gen {P : Program} {w : World} {t e : TypeId} {i : TypeInfo} (hu : P.underlying t = some (.slice e)) (hi : P.info? e = some i) : (Instr.buildSlice t 0 #[]).run P w = .ok (.slice (some ⟨w.heap.size, 0, none⟩) 0 0) (w.alloc (.cells #[] e (0, 0))) := by
  simp [Instr.buildSlice, run_underlying hu, sizeOf, typeInfo, hi, newRow, Instr.fill]
  exact congrArg (fun a => w.alloc (.cells a e (0, 0))) (Array.eq_empty_of_size_eq_zero (by simp))
theorem app0_gen {P : Program} {w : World} {t e : TypeId} {i : TypeInfo} (hu : P.underlying t = some (.slice e)) (hi : P.info? e = some i) {b : Addr} {a : Option Addr} {c : Nat} : (Builtin.append_ #[t, t] t #[.slice (some b) 0 0, .slice a 0 c]).run P w = .ok (.slice (some b) 0 0) w := by
  cases a with
  | none => exact Go.run_append_nothing w t t t e i hu hi (some b) 0 0 (Nat.le_refl _) _ (Go.Src.ofNil w hu c)
  | some a => exact Go.run_append_nothing w t t t e i hu hi (some b) 0 0 (Nat.le_refl _) _ (Go.Src.ofSlice w hu a 0 c [] (by simp) (fun j u h => by simp at h) (fun u h => by cases h))
theorem bs0_run {w : World} : (Instr.buildSlice tKs 0 #[]).run Tryz.prog w = .ok (.slice (some ⟨w.heap.size, 0, none⟩) 0 0) (w.alloc (.cells #[] tSt (0, 0))) := bs0_gen Tryz.underlying22 (info_some (by kernel_rfl))
theorem app0_run {w : World} {b : Addr} {a : Option Addr} {c : Nat} : (Builtin.append_ #[tKs, tKs] tKs #[.slice (some b) 0 0, .slice a 0 c]).run Tryz.prog w = .ok (.slice (some b) 0 0) w := app0_gen Tryz.underlying22 (info_some (by kernel_rfl))
/-- A row of one's own that holds strings. -/
theorem kx_own {w : World} {base n : Nat} {q : Sl} {l : List ByteArray} (h : w.ownsRow base tSt 1 (slV q) n (l.map Value.string)) : Kx w q l := by
  obtain ⟨h1, ⟨h2, h3⟩ | ⟨g, cap, cur, h2, hb, hg, hn, hm, hsz, htk⟩⟩ := h
  · have h2 : Value.slice q.1 q.2.1 q.2.2 = .slice none 0 0 := h2
    simp only [Value.slice.injEq] at h2
    have hl : l = [] := by
      rw [List.length_map] at h1
      exact List.eq_nil_of_length_eq_zero (by omega)
    exact ⟨by rw [h2.2.1, hl]; rfl, by rw [h2.2.1, h2.2.2]; exact Nat.le_refl _, .inl hl⟩
  · have h2 : Value.slice q.1 q.2.1 q.2.2 = .slice (some ⟨g, 0, none⟩) n cap := h2
    simp only [Value.slice.injEq] at h2
    rw [List.length_map, Nat.mul_one] at h1
    refine ⟨by rw [h2.2.1, h1], by rw [h2.2.1, h2.2.2]; exact hn, .inr ⟨g, 0, h2.1, ?_, fun j key hj => ?_⟩⟩
    · rcases Nat.lt_or_ge g w.heap.size with h' | h'
      · exact h'
      · rw [Array.getElem?_eq_none h'] at hg; cases hg
    · have hjl := (List.getElem?_eq_some_iff.1 hj).1
      simp only [World.cell?, hg]
      rw [Nat.zero_add]
      have hm' : (l.map Value.string)[j]? = some (.string key) := by rw [List.getElem?_map, hj]; rfl
      rw [← htk, List.getElem?_take_of_lt (by omega)] at hm'
      simpa using hm'
/-- The keys, and one more behind them, in a row of their own. -/
theorem more_run {w : World} {q : Sl} {keys : List ByteArray} (hK : Kx w q keys) (hkl : keys.length ≤ 2147483647) (key : ByteArray) :
    ∃ (w1 w2 w3 w4 : World) (v : Sl) (v' : Sl), (Instr.buildSlice tKs 0 #[]).run Tryz.prog w = .ok (.slice (some ⟨w.heap.size, 0, none⟩) 0 0) w1 ∧ (Builtin.append_ #[tKs, tKs] tKs #[.slice (some ⟨w.heap.size, 0, none⟩) 0 0, slV q]).run Tryz.prog w1 = .ok (slV v) w2 ∧
      (Instr.buildSlice tKs 1 #[(0, .string key)]).run Tryz.prog w2 = .ok (.slice (some ⟨w2.heap.size, 0, none⟩) 1 1) w3 ∧ (Builtin.append_ #[tKs, tKs] tKs #[slV v, .slice (some ⟨w2.heap.size, 0, none⟩) 1 1]).run Tryz.prog w3 = .ok (slV v') w4 ∧ Kx w4 v' (keys ++ [key]) ∧ Kp Off w w4 := by
  have hu := Tryz.underlying22
  have hi := info_some (P := Tryz.prog) (t := tSt) (by kernel_rfl)
  have hz : ((Tryz.prog.info? tSt).get (by kernel_rfl)).zero = some (.string (ByteArray.mk #[])) := by kernel_rfl
  have hs1 : ((Tryz.prog.info? tSt).get (by kernel_rfl)).size = 1 := by kernel_rfl
  have hb16 : ((Tryz.prog.info? tSt).get (by kernel_rfl)).bytes = 16 := by kernel_rfl
  have k1 : Kp Off w (w.alloc (.cells #[] tSt (0, 0))) := (Kp.refl Off w).alloc _
  have z1 : (w.alloc (.cells #[] tSt (0, 0))).heap.size = w.heap.size + 1 := by simp
  have hK1 := hK.kp k1
  have hql := hK.len
  have ho : (w.alloc (.cells #[] tSt (0, 0))).ownsRow w.heap.size tSt 1 (.slice (some ⟨w.heap.size, 0, none⟩) 0 0) 0 [] :=
    ⟨rfl, .inr ⟨w.heap.size, 0, #[], rfl, Nat.le_refl _, Blk.new w [] tSt, Nat.le_refl _, Nat.zero_le _, rfl, rfl⟩⟩
  obtain ⟨v, w2, h2, ho2, k2⟩ : ∃ (v : Sl) (w2 : World), (Builtin.append_ #[tKs, tKs] tKs #[.slice (some ⟨w.heap.size, 0, none⟩) 0 0, slV q]).run Tryz.prog (w.alloc (.cells #[] tSt (0, 0))) = .ok (slV v) w2 ∧ w2.ownsRow w.heap.size tSt 1 (slV v) keys.length (keys.map Value.string) ∧ Kp Off w w2 := by
    rcases hK1.cell with h0 | ⟨b, o, c1, c2, c3⟩
    · subst h0
      have h0 : q.2.1 = 0 := hql
      refine ⟨(some ⟨w.heap.size, 0, none⟩, 0, 0), _, ?_, ho, k1⟩
      show (Builtin.append_ #[tKs, tKs] tKs #[.slice (some ⟨w.heap.size, 0, none⟩) 0 0, .slice q.1 q.2.1 q.2.2]).run Tryz.prog _ = _
      rw [h0]
      exact app0_run
    · obtain ⟨v', w2, h2, h3, h4, _⟩ := run_append_own (P := Tryz.prog) (w.alloc (.cells #[] tSt (0, 0))) w.heap.size tKs tKs tSt _ (.string (ByteArray.mk #[])) 1 16 hu hi hz hs1 hb16 rfl (by decide) _ 0 [] ho ⟨b, o, none⟩ keys.length q.2.2 (keys.map Value.string) (by simp) (fun j u hj => by
          rw [List.getElem?_map] at hj
          obtain ⟨kk, hk1, rfl⟩ := Option.map_eq_some_iff.1 hj
          rw [addr_add]; exact c3 j kk hk1) (fun u hu => by
          obtain ⟨b, _, rfl⟩ := List.mem_map.1 hu
          rfl) (by simp only [maxLen]; omega) (by omega) (by omega)
      rw [Nat.zero_add, List.nil_append] at h3
      have k2 : Kp Off w w2 := k1.then (Kp.of_grown h4) fun b hb e => by
        have : b = w.heap.size := by simpa [Value.ownBlock] using e
        omega
      obtain ⟨x1, x2, x3, rfl⟩ : ∃ x1 x2 x3, v' = Value.slice x1 x2 x3 := by
        obtain ⟨_, ⟨e, _⟩ | ⟨g, cap, cur, e, _⟩⟩ := h3
        · exact ⟨_, _, _, e⟩
        · exact ⟨_, _, _, e⟩
      refine ⟨(x1, x2, x3), w2, ?_, h3, k2⟩
      show (Builtin.append_ #[tKs, tKs] tKs #[.slice (some ⟨w.heap.size, 0, none⟩) 0 0, .slice q.1 q.2.1 q.2.2]).run Tryz.prog _ = _
      rw [c1, hql]
      exact h2
  obtain ⟨w3, h3, a', c, w4, h4, ho4, k4, _⟩ := push_run (P := Tryz.prog) (t := tKs) (e := tSt) (z0 := .string (ByteArray.mk #[])) hu hi hz hs1 (by rw [hb16]; decide) rfl (by decide) (by decide) ho2 (.string key) [.string key] rfl rfl (by intro u hu; simp at hu; subst hu; rfl) (by omega) k2.size
  refine ⟨_, w2, w3, w4, v, (a', keys.length + 1, c), bs0_run, h2, h3, h4, kx_own (n := keys.length + 1) (base := w.heap.size) ?_, k2.then k4 fun b hb e => ?_⟩
  · rw [List.map_append]; exact ho4
  · have := own_ge ho2 b e
    omega
end Go.Proofs.YtcjphnppedmbdaaGreatDoor.Ka
