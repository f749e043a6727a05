/- A row copied into one of one's own (lines of XVc of this repo); the thin package's reader of pieces; NewReaderParser. No statement of the set is proved here. -/
import Derived.Test.YtlfebfkphgelfaaDoorYk
import Derived.Room.AppendAny
import Derived.Deep.Upon
import Derived.Maps.AppendAt
namespace Go.Proofs.YtlfebfkphgelfaaDoor.Yr
open Go Go.Proofs Go.RowKit Go.Proofs.YtlfebfkphgelfaaDoor.Rx Go.Proofs.YtlfebfkphgelfaaDoor.Tr Go.Proofs.YtlfebfkphgelfaaDoor.Pl Go.Proofs.YtlfebfkphgelfaaDoor.Pw
open Go.Proofs.YtlfebfkphgelfaaDoor.Sr (Sl slV RowIn)

variable {w w' : World} {B : Nat → Prop}
theorem build0 {P : Program} {t e : TypeId} {i : TypeInfo} (ht : P.underlying t = some (.slice e)) (hi : P.info? e = some i) :
    (Instr.buildSlice t 0 #[]).run P w = .ok (.slice (some ⟨w.heap.size, 0, none⟩) 0 0) (w.alloc (.cells #[] e)) := by
  simp [Instr.buildSlice, run_underlying ht, Go.sizeOf, typeInfo, hi, Instr.fill, newRow]
  congr 2
  exact Array.eq_empty_of_size_eq_zero (by simp)
theorem own0 {e : TypeId} {size : Nat} (w : World) (base : Nat) (hb : base ≤ w.heap.size) : (w.alloc (.cells #[] e)).ownsRow base e size (.slice (some ⟨w.heap.size, 0, none⟩) 0 0) 0 [] :=
  World.ownsRow_lit w #[] 0 hb (Nat.zero_le _) (by simp)
/-- A copy of a row behind an empty one of one's own. -/
theorem copy_run {P : Program} {base : Nat} {t e : TypeId} {i : TypeInfo} {z0 : Value} {size : Nat} (ht : P.underlying t = some (.slice e)) (hi : P.info? e = some i) (hz : i.zero = some z0)
    (hsize : i.size = size) (hby : i.bytes ≤ 1024) (hzs : z0.cells.size = size) (h0 : 0 < size) {v : Sl} {n : Nat} {xs : List Value} (hr : RowIn B w v n xs size) (h1 : ∀ u ∈ xs, u.oneCell' = true) (hn : n ≤ 4294967295) {g0 : Nat}
    (hown : w.ownsRow base e size (.slice (some ⟨g0, 0, none⟩) 0 0) 0 []) (hbase : base ≤ w.heap.size) :
    ∃ (v' : Sl) (w2 : World), (Builtin.append_ #[t, t] t #[.slice (some ⟨g0, 0, none⟩) 0 0, slV v]).run P w = .ok (slV v') w2 ∧ w2.ownsRow base e size (slV v') n xs ∧ Kp Off w w2 ∧ v'.2.1 = n ∧ (∀ b, some b = (slV v').ownBlock → b = g0 ∨ w.heap.size ≤ b) := by
  obtain ⟨a, l, c⟩ := v
  obtain ⟨hl, hx, hr⟩ := hr
  have hl : l = n := hl
  subst hl
  rcases Nat.eq_zero_or_pos l with h | h
  · subst h
    have hx0 : xs = [] := List.eq_nil_of_length_eq_zero (by rw [hx, Nat.zero_mul])
    subst hx0
    refine ⟨(some ⟨g0, 0, none⟩, 0, 0), w, ?_, hown, Kp.refl _ _, rfl, fun b hb => .inl (Option.some.inj hb)⟩
    show (Builtin.append_ #[t, t] t #[.slice (some ⟨g0, 0, none⟩) 0 0, .slice a 0 c]).run P w = _
    cases a <;> simp [Builtin.append_, run_underlying ht, Go.sizeOf, typeInfo, hi, Builtin.lenOf, Builtin.firstCells, loadCells, loadCellsFrom, storeCells, slV]
  · rcases hr with hr | ⟨g, hg, _, _, hc⟩
    · omega
    have hg : a = some ⟨g, 0, none⟩ := hg
    subst hg
    subst hsize
    have hbytes : (0 + l) * i.bytes ≤ 140737488355328 := by
      have : (0 + l) * i.bytes ≤ 4294967295 * 1024 := Nat.mul_le_mul (by omega) hby
      omega
    obtain ⟨v', w2, h2, h3, h4, h5, h6⟩ := run_append_own_at (P := P) (w := w) base t t e i z0 i.size i.bytes ht hi hz rfl rfl hzs h0 _ 0 [] hown ⟨g, 0, none⟩ l c xs (by rw [hx]) (fun j u hj => by
      rw [addr_add, Nat.zero_add]; exact hc j u hj) h1 (by simp only [maxLen]; omega) hbytes hbase
    rw [Nat.zero_add, List.nil_append] at h3
    have hko : Kp Off w w2 := by
      have hr := run_append_grow (P := P) (w := w) t t e i z0 ht hi hz ⟨g0, 0, none⟩ 0 0 [] (by simp) (fun j u hj => by simp at hj) ⟨g, 0, none⟩ l c xs (by rw [hx]) (fun j u hj => by
        rw [addr_add, Nat.zero_add]; exact hc j u hj) (by omega) (by omega) (growslice_fits (by omega) hbytes)
      have hr := (Result.ok.inj (h2.symm.trans hr)).2
      subst hr
      exact ((Kp.refl Off w).drew).alloc _
    obtain ⟨q1, ⟨rfl, q2⟩ | ⟨g2, cap, cur, rfl, q3, q4, q5, q6, q7, q8⟩⟩ := h3
    · omega
    · refine ⟨(some ⟨g2, 0, none⟩, l, cap), w2, h2, ⟨q1, .inr ⟨g2, cap, cur, rfl, q3, q4, q5, q6, q7, q8⟩⟩, hko, rfl, fun b hb => ?_⟩
      · have hb : b = g2 := by simpa [slV, Value.ownBlock] using hb
        subst hb
        rcases h6 with h6 | h6
        · left; simpa [Value.ownBlock] using h6
        · right
          have : b = w.heap.size := by simpa [Value.ownBlock] using h6
          omega

abbrev tStr : TypeId := 9
abbrev tSs : TypeId := 22
abbrev tCf : TypeId := 73
abbrev tCfs : TypeId := 106
variable {s : ByteArray} {win : Int} {ps : List ByteArray}
def strV (x : ByteArray) : Value := .string x
def cfC (m : Int) : List Value := [.bool false, .bool false, .int .i64 m]
theorem build_rp (w : World) (h : Nat) (win : Int) : (Instr.build tRP #[(0, .iface tPR (.pointer (some ⟨h, 0, none⟩))), (4, .agg #[.bool false, .bool false, .int .i64 win])]).run Tryd.prog w = .ok (.agg (rc h (none, 0, 0) 0 0 win 0).toArray) w := by kernel_rfl
theorem loadCf {g : Nat} {m : Int} (h : Blk w g (cfC m) tCf) : (Instr.loadAt tCf (.pointer (some ⟨g, 0, none⟩))).run Tryd.prog w = .ok (.agg (cfC m).toArray) w :=
  loadAt_run (by kernel_rfl) (info_some (by kernel_rfl)) (by kernel_rfl) h
theorem storeCf {g : Nat} {cs : List Value} (h : Blk w g cs tCf) (hl : cs.length = 3) (m : Int) :
    ∃ w', (Instr.storeAt tCf (.pointer (some ⟨g, 0, none⟩)) (.agg (cfC m).toArray)).run Tryd.prog w = .ok () w' ∧ Blk w' g (cfC m) tCf ∧ Kp (On g) w w' :=
  storeAt_run (P := Tryd.prog) (t := tCf) (cfC m) h (info_some (by kernel_rfl)) (by kernel_rfl) (by rw [hl]; rfl) rfl
theorem newRP_any {h D : Nat} (hC : Je.Cv w) (hD : Blk w D (cfC win) tCf) :
    Calls Tryd.prog 40 #[.iface tPR (.pointer (some ⟨h, 0, none⟩)), .slice (some ⟨D, 0, none⟩) 1 1] w fun en w' => ∃ g : Nat, en = .returned (.pointer (some ⟨g, 0, none⟩)) ∧ Blk w' g (rc h (none, 0, 0) 0 0 win 0) tRP ∧ w.heap.size ≤ g ∧ Kp Off w w' := by
  refine jsonparser_NewReaderParser.calls _ _ _ _ ?_
  unfold jsonparser_NewReaderParser.t
  refine s_eff (w' := w) (false, false, (0 : Int), ()) (Je.loadAt_cells (cs := Je.cfg) (by kernel_rfl) (info_some (by kernel_rfl)) (by kernel_rfl) (fun j v hj => by rw [addr_add, Nat.zero_add]; exact hC j v hj)) ?_
  refine s_alloc ?_
  have b0 := Blk.new w (cfC 0) tCf
  have k0 : Kp Off w (w.alloc (.cells (cfC 0).toArray tCf (0, 0))) := (Kp.refl Off w).alloc _
  have z0 : (w.alloc (.cells (cfC 0).toArray tCf (0, 0))).heap.size = w.heap.size + 1 := by simp
  show sat _ _ _ (w.alloc (.cells (cfC 0).toArray tCf (0, 0)))
  generalize w.alloc (.cells (cfC 0).toArray tCf (0, 0)) = w1 at b0 k0 z0
  have hDl := hD.lt
  have hD1 := k0.blk hD id
  obtain ⟨w2, h2, c2, k2⟩ := storeCf b0 rfl 0
  refine s_effU h2 (s_iteD (fun _ => ?_) (fun g => absurd (by decide) g))
  have hD2 := k2.blk hD1 (fun e => by have e : D = w.heap.size := e; omega)
  refine s_chk ⟨by omega, by omega⟩ (s_ptr ?_)
  refine s_eff (w' := w2) (false, false, win, ()) (by rw [addr_add]; exact loadCf hD2) ?_
  obtain ⟨w3, h3, c3, k3⟩ := storeCf c2 rfl win
  refine s_effU h3 (s_eff (w' := w3) (false, false, win, ()) (loadCf c3) ?_)
  refine s_eff (w' := w3) (.iface tPR (.pointer (some ⟨h, 0, none⟩)), (none, 0, 0), (0 : Int), (0 : Int), false, false, win, .nilIface, (0 : Int), ()) (build_rp w3 h win) ?_
  refine s_alloc (s_leaf ⟨rfl, w3.heap.size, rfl, Blk.new w3 (rc h (none, 0, 0) 0 0 win 0) tRP, ?_, ?_⟩)
  · have := k2.size; have := k3.size; omega
  · have k23 : Kp (On w.heap.size) w1 w3 := k2.trans k3
    exact (k0.then k23 fun q hq e => by have e : q = w.heap.size := e; omega).alloc _
theorem reader_any {v : Sl} (hC : Je.Cv w) (hr : RowIn B w v ps.length (ps.map strV) 1) (hct : cat ps = s.data.toList) (halt : Alt 0 ps) (hne : ps ≠ []) (hwn : 0 ≤ win ∧ win ≤ 1048576) (hs : s.size ≤ 3000) (hpl : ps.length ≤ 100000) :
    Calls Tryd.prog 22 #[slV v, .int .i64 win] w fun en w' => ∃ g h hp gB : Nat, en = .returned (.pointer (some ⟨g, 0, none⟩)) ∧ RI s win g h hp w' gB 0 0 ∧ w.heap.size ≤ g ∧ w.heap.size ≤ h ∧ w.heap.size ≤ hp ∧ w.heap.size ≤ gB ∧ Kp Off w w' := by
  refine impl_reader.calls _ _ _ _ ?_
  unfold impl_reader.t
  have htS := info_some (P := Tryd.prog) (t := tStr) (by kernel_rfl)
  refine s_eff (w' := w.alloc (.cells #[] tStr)) (some ⟨w.heap.size, 0, none⟩, 0, 0) (build0 Tryd.underlying22 htS) ?_
  have ho := own0 (e := tStr) (size := 1) w w.heap.size (Nat.le_refl _)
  have k1 : Kp Off w (w.alloc (.cells #[] tStr)) := (Kp.refl Off w).alloc _
  have z1 : (w.alloc (.cells #[] tStr)).heap.size = w.heap.size + 1 := by simp
  generalize w.alloc (.cells #[] tStr) = w1 at ho k1 z1
  have hone : ∀ u ∈ ps.map strV, u.oneCell' = true := fun u hu => by
    obtain ⟨y, _, rfl⟩ := List.mem_map.1 hu
    rfl
  obtain ⟨v2, w2, h2, ho2, k2, _, _⟩ := copy_run (P := Tryd.prog) (t := tSs) (z0 := .string (ByteArray.mk #[])) Tryd.underlying22 htS (by kernel_rfl) (by kernel_rfl) (of_decide_eq_true (by kernel_rfl)) rfl (by decide) (Lj.RowIn.any hr k1) hone (by omega) ho (by omega)
  refine s_eff v2 h2 ?_
  obtain ⟨m, hm⟩ : ∃ m, ps.length = m + 1 := ⟨ps.length - 1, by
    have : 0 < ps.length := List.length_pos_iff.2 hne
    omega⟩
  rw [hm] at ho2
  obtain ⟨hp, cap, rfl, hcap, hhp, hhpl⟩ := own_form ho2
  have k02 := k1.trans k2
  -- the reader of pieces
  refine s_alloc ?_
  have b3 := Blk.new w2 [slV (some ⟨hp, 0, none⟩, m + 1, cap)] tPc
  have k3 : Kp Off w2 (w2.alloc (.cells [slV (some ⟨hp, 0, none⟩, m + 1, cap)].toArray tPc (0, 0))) := (Kp.refl Off w2).alloc _
  have z3 : (w2.alloc (.cells [slV (some ⟨hp, 0, none⟩, m + 1, cap)].toArray tPc (0, 0))).heap.size = w2.heap.size + 1 := by simp
  show sat _ _ _ (w2.alloc (.cells [slV (some ⟨hp, 0, none⟩, m + 1, cap)].toArray tPc (0, 0)))
  generalize w2.alloc (.cells [slV (some ⟨hp, 0, none⟩, m + 1, cap)].toArray tPc (0, 0)) = w3 at b3 k3 z3
  refine s_eff (w' := w3.alloc (.cells (cfC win).toArray tCf)) (some ⟨w3.heap.size, 0, none⟩, 1, 1) (build1 (size := 3) (z0 := .agg (cfC 0).toArray) Tryd.underlying106 (info_some (by kernel_rfl)) (by kernel_rfl) (by kernel_rfl) (by decide) (by decide) (.agg (cfC win).toArray) (cfC win) rfl rfl) ?_
  have b4 := Blk.new w3 (cfC win) tCf
  have k4 : Kp Off w3 (w3.alloc (.cells (cfC win).toArray tCf)) := (Kp.refl Off w3).alloc _
  have z4 : (w3.alloc (.cells (cfC win).toArray tCf)).heap.size = w3.heap.size + 1 := by simp
  generalize w3.alloc (.cells (cfC win).toArray tCf) = w4 at b4 k4 z4
  have k24 := k3.trans k4
  have k04 := k02.trans k24
  refine s_call (newRP_any (h := w2.heap.size) (hC.off k04) b4) ?_
  rintro en w5 ⟨g, rfl, b5, hg, k5⟩
  refine ⟨some ⟨g, 0, none⟩, rfl, s_leaf ⟨rfl, g, w2.heap.size, hp, w3.heap.size, rfl, ?_, ?_, ?_, hhp, ?_, k04.trans k5⟩⟩
  · have k25 := k24.trans k5
    have hz2 := k02.size
    refine ⟨0, ps, 0, cap, 0, 0, (none, 0, 0), b5, ⟨?_, by omega, fun j y hj => ?_⟩, rfl, Nat.le_refl _, Nat.zero_le _, .inl rfl, halt, ⟨Nat.le_refl _, Nat.le_refl _, Nat.zero_le _⟩, Nat.lt_of_lt_of_le hhpl k25.size, ?_, ⟨by omega, by omega, by omega, by omega, by omega, by omega⟩, by rw [List.drop_zero]; exact hct, hwn, hs⟩
    · have := k4.blk b3 id
      have := k5.blk this id
      rw [hm]; exact this
    · have hjl := (List.getElem?_eq_some_iff.1 hj).1
      have hoc : w2.ownsRow w.heap.size tStr 1 (.slice (some ⟨hp, 0, none⟩) (m + 1) cap) (m + 1) (ps.map strV) := ho2
      have hc := World.ownsRow.cellAt hoc j (by omega)
      have hB := k25.block hp hhpl id
      obtain ⟨_, ⟨hv, _⟩ | ⟨g', cap', cur, hv, hbg, hg', _⟩⟩ := hoc
      · cases hv
      cases hv
      rw [Nat.zero_add]
      refine ⟨?_, ?_⟩
      · rw [World.cell?_of_block (a := ⟨hp, j, none⟩) hB, hc, List.getElem?_map, hj]; rfl
      · rw [World.frozen?_of_block (a := ⟨hp, j, none⟩) hB]
        simp [World.frozen?, hg']
    · have := k5.size; omega
  · have := k02.size; omega
  · exact k02.size
  · have := k02.size; omega
theorem jqReadArray_any {v : Sl} {p : PT} (hC : Je.Cv w) (hr : RowIn B w v ps.length (ps.map strV) 1) (hct : cat ps = s.data.toList) (halt : Alt 0 ps) (hne : ps ≠ []) (hwn : 0 ≤ win ∧ win ≤ 1048576) (hs : s.size ≤ 3000) (hpl : ps.length ≤ 100000) (hp0 : bl s 0 = p.b) (hw : WfV s p) (h5 : p.k = 5) :
    Calls Tryd.prog 12 #[slV v, .int .i64 win] w fun en w' => ∃ u : Sl, en = .returned (.tuple #[slV u, .bool true]) ∧ w'.ownsRow w.heap.size tF 4 (slV u) p.ks.length (fcs s p.ks) ∧ Kp Off w w' := by
  refine impl_JqReadArray.calls _ _ _ _ ?_
  unfold impl_JqReadArray.t
  refine s_alloc ?_
  have b0 := Blk.new w [slV (none, 0, 0)] tFs
  have k0 : Kp Off w (w.alloc (.cells [slV (none, 0, 0)].toArray tFs (0, 0))) := (Kp.refl Off w).alloc _
  have z0 : (w.alloc (.cells [slV (none, 0, 0)].toArray tFs (0, 0))).heap.size = w.heap.size + 1 := by simp
  show sat _ _ _ (w.alloc (.cells [slV (none, 0, 0)].toArray tFs (0, 0)))
  generalize w.alloc (.cells [slV (none, 0, 0)].toArray tFs (0, 0)) = w1 at b0 k0 z0
  refine s_call (reader_any (hC.off k0) (Lj.RowIn.any hr k0) hct halt hne hwn hs hpl) ?_
  rintro en w2 ⟨g, h, hp, gB, rfl, hRI, z1, z2, z3, z4, k2⟩
  refine ⟨some ⟨g, 0, none⟩, rfl, ?_⟩
  have b2 := k2.blk b0 id
  have A : AE w.heap.size w.heap.size s win g h hp w2 [] gB 0 0 := ⟨hRI, ⟨(none, 0, 0), b2, World.ownsRow_nil _ _ _ _, fun b hb => by cases hb⟩, ⟨by omega, by omega, by omega, by omega⟩, ⟨by omega, by omega, by omega, by omega, Nat.le_refl _⟩⟩
  refine s_call (each_any hs hp0 hw h5 A) ?_
  rintro en w3 ⟨rfl, ⟨u, b3, ho3⟩, k3⟩
  refine ⟨.nilIface, rfl, s_drew ?_⟩
  have kd : Kp Off w3 w3.drew := (Kp.refl Off w3).drew
  have b4 := kd.blk b3 id
  have ho4 := owns_kp ho3 kd fun _ _ e => e
  have k04 : Kp Off w w3.drew := ((k0.trans k2).then k3 fun q hq e => by have e : w.heap.size ≤ q := e; omega).trans kd
  generalize w3.drew = w4 at b4 ho4 k04
  exact s_load u (b4.cell 0) (s_chk rfl (s_leaf ⟨rfl, u, rfl, ho4, k04⟩))
end Go.Proofs.YtlfebfkphgelfaaDoor.Yr
