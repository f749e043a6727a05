/- jsonparser's unescapeConfig: its walk. No statement of the set is proved here. -/
import Derived.Test.YtlhhmgopfilgpaaDoorJh
namespace Go.Proofs.YtlhhmgopfilgpaaDoor.Je
open Go Go.Proofs Go.RowKit Go.Proofs.YtlhhmgopfilgpaaDoor.Rx Go.Proofs.YtlhhmgopfilgpaaDoor.Tr Go.Proofs.YtlhhmgopfilgpaaDoor.Pl Go.Proofs.YtlhhmgopfilgpaaDoor.Ut Go.Proofs.YtlhhmgopfilgpaaDoor.Ch Go.Proofs.YtlhhmgopfilgpaaDoor.Bw Go.Proofs.YtlhhmgopfilgpaaDoor.Uq Go.Proofs.YtlhhmgopfilgpaaDoor.Ql
open Go.Proofs.YtlhhmgopfilgpaaDoor.Sr (s_allocE slV tBs tB)

/-- An error stands in a variable. -/
def Ev (w : World) (g : Nat) : Prop := ∃ t v, w.cell? ⟨g, 0, none⟩ = some (.iface t v)
theorem Ev.kp {S : Nat → Prop} {w w' : World} {g : Nat} (h : Ev w g) (k : Kp S w w') (hS : ¬ S g) : Ev w' g := by
  obtain ⟨t, v, h⟩ := h
  exact ⟨t, v, by rw [k.cell (Ms.cell_lt h) hS]; exact h⟩
theorem sl_at (C k g y : Nat) : (if C = k then (some (⟨g, y, none⟩ : Addr)) else Option.map (fun z : Addr => Addr.add z (k * 1)) (some ⟨g, y, none⟩)) = some ⟨g, if C = k then y else y + k, none⟩ := by
  split
  · rfl
  · simp only [Option.map_some, addr_add, Nat.mul_one]
theorem sl_0 (C g y : Nat) : (if C = 0 then (some (⟨g, y, none⟩ : Addr)) else Option.map (fun z : Addr => Addr.add z 0) (some ⟨g, y, none⟩)) = some ⟨g, y, none⟩ := by
  split
  · rfl
  · simp only [Option.map_some, addr_add, Nat.add_zero]
theorem In.from {w : World} {s : ByteArray} {g y a n C k : Nat} (h : In w s g y a n) (hC : n ≤ C) : In w s g (if C = k then y else y + k) (a + k) (n - k) :=
  ⟨h.row, by have := h.len; omega, fun h0 => by rw [if_neg (by omega)]; have := h.at_ (by omega); omega⟩
theorem made_zero (n : Nat) (z : Array Value) (hz : z = #[.int .u8 0]) : madeCells z n = (cb (List.replicate n 0)).toArray := by
  subst hz
  unfold madeCells
  apply Array.ext
  · simp [cb]
  · intro i h1 h2
    simp [cb, bv, Nat.mod_one]
theorem loadC {w : World} {g : Nat} (h : Blk w g cfg tC) : (Instr.loadAt tC (.pointer (some ⟨g, 0, none⟩))).run Tryd.prog w = .ok (.agg cfg.toArray) w :=
  loadAt_run (by kernel_rfl) (info_some (by kernel_rfl)) (by kernel_rfl) h
def gE : Nat := 8
def UPost (s : ByteArray) (e : Ending) (w' : World) : Prop := match ue s 0 with
  | none => ∃ t v, e = .returned (.tuple #[.slice none 0 0, .iface t v])
  | some r => ∃ x : Sr.Sl, e = .returned (.tuple #[slV x, .nilIface]) ∧ (convert tBs 9 (slV x)).run Tryd.prog w' = .ok (.string ⟨r.toArray⟩) w'
theorem back {w : World} {g cap : Nat} {l : List UInt8} (hc : ∀ j (hj : j < l.length), w.cell? ⟨g, j, none⟩ = some (.int .u8 (l[j].toNat : Int))) : (convert tBs 9 (.slice (some ⟨g, 0, none⟩) l.length cap)).run Tryd.prog w = .ok (.string ⟨l.toArray⟩) w :=
  run_convert_bytes_back w tBs 9 tB ⟨g, 0, none⟩ cap l Tryd.underlying43 Tryd.underlying5 Tryd.underlying9 (fun j hj => by rw [addr_add, Nat.zero_add]; exact hc j hj)
theorem blk_back {w : World} {g cap T' : Nat} {l : List UInt8} (hb : Blk w g (cb l) T') (n : Nat) (hn : n ≤ l.length) : (convert tBs 9 (.slice (some ⟨g, 0, none⟩) n cap)).run Tryd.prog w = .ok (.string ⟨(l.take n).toArray⟩) w := by
  have hlen : (l.take n).length = n := by rw [List.length_take]; omega
  have := back (w := w) (g := g) (cap := cap) (l := l.take n) fun j hj => by
    rw [hb.cell, cb, List.getElem?_map, List.getElem_take, List.getElem?_eq_getElem (by omega)]; rfl
  rw [hlen] at this
  exact this
/-- The loop: from an escape on. -/
theorem loop_any {W : World} {s : ByteArray} {g h z0 co0 T' a0 : Nat} {b0 i0 : Sr.Sl} (hs : s.size ≤ 65536) (hgh : g ≠ h) (hT : h ≠ gT) (hE : h ≠ gE) (hz : h ≠ z0) (hz0 : Blk W z0 cfg tC) (hL : Lt W) (hEv : Ev W gE) (hco : s.size ≤ co0)
    (Q : Nat → List Value → World → Prop) (hQ : ∀ vs w', UPost s (.returned (retVal vs)) w' → Kp (On h) W w' → Q 0 vs w')
    (init : ∃ a c y y2 ci co l, a0 = s.size - a ∧ b0 = (some ⟨h, y2, none⟩, s.size - c, co) ∧ i0 = (some ⟨g, y, none⟩, s.size - a, ci) ∧ c ≤ a ∧ In W s g y a (s.size - a) ∧ s.size - a ≤ ci ∧ (0 < s.size - c → y2 = c) ∧ s.size - c ≤ co ∧ Blk W h (cb l) T' ∧ s.size ≤ l.length ∧ ue s 0 = (ue s a).map (l.take c ++ ·) ∧ a < s.size ∧ bn s a = 92) :
    sat Tryd.prog (.loop 1 (.cons .slice (.cons .slice .nil)) [.slice b0.1 b0.2.1 b0.2.2, .slice i0.1 i0.2.1 i0.2.2] (fun z => jsonparser_unescapeConfig.t2 ⟨z0, 0, none⟩ (some ⟨h, 0, none⟩, s.size, co0) z.1 z.2.1)) Q W := by
  refine s_loop (fun n x w' => ∃ a c y y2 ci co l, n = s.size - a ∧ x = ((some ⟨h, y2, none⟩, s.size - c, co), (some ⟨g, y, none⟩, s.size - a, ci), ()) ∧ c ≤ a ∧ In w' s g y a (s.size - a) ∧ s.size - a ≤ ci ∧ (0 < s.size - c → y2 = c) ∧ s.size - c ≤ co ∧ Blk w' h (cb l) T' ∧ s.size ≤ l.length ∧ ue s 0 = (ue s a).map (l.take c ++ ·) ∧ a < s.size ∧ bn s a = 92 ∧ Kp (On h) W w') a0 (b0, i0, ()) rfl ?_ ?_
  · obtain ⟨a, c, y, y2, ci, co, l, rfl, rfl, rfl, r⟩ := init
    exact ⟨a, c, y, y2, ci, co, l, rfl, rfl, r.1, r.2.1, r.2.2.1, r.2.2.2.1, r.2.2.2.2.1, r.2.2.2.2.2.1, r.2.2.2.2.2.2.1, r.2.2.2.2.2.2.2.1, r.2.2.2.2.2.2.2.2.1, r.2.2.2.2.2.2.2.2.2, Kp.refl _ _⟩
  rintro n x w1 ⟨a, c, y, y2, ci, co, l, rfl, rfl, hca, hI, hci, hy2, hcoc, hb, hl, hue, ha, h92, k1⟩
  simp only [jsonparser_unescapeConfig.t2]
  have ng : ¬ On h g := fun e => hgh e
  have nz : ¬ On h z0 := fun e => by have e : z0 = h := e; exact hz e.symm
  have nE : ¬ On h gE := fun e => by have e : gE = h := e; exact hE e.symm
  refine s_eff (false, false, (0 : Int), ()) (loadC (k1.blk hz0 nz)) ?_
  refine s_call (step_any hI hci (by omega) hb (hL.off k1 hT) (by omega) (by omega) hy2) ?_
  rintro e w2 ⟨rfl, hb2, k2⟩
  have k12 := k1.trans k2
  cases hst : stp s a with
  | none =>
    refine ⟨((-1 : Int), (-1 : Int), ()), rfl, sat_iteT.2 (s_drew ?_)⟩
    obtain ⟨t, v, hv⟩ := hEv.kp k12.drew nE
    refine s_load (Value.iface t v) hv (s_leaf ?_)
    rw [if_neg (by decide)]
    refine hQ _ _ ?_ k12.drew
    unfold UPost
    rw [hue, ue_bad ha h92 hst]
    exact ⟨t, v, rfl⟩
  | some p =>
    obtain ⟨k, o⟩ := p
    have hle := stp_le hst
    rw [hst] at hb2
    have hb2 : Blk w2 h (cb (put l c o)) T' := hb2
    have hpl := put_len l c o
    have hpt := put_take o l c (by omega)
    generalize put l c o = l2 at hb2 hpl hpt
    have hue2 : ue s 0 = (ue s (a + k)).map (l2.take (c + o.length) ++ ·) := by
      rw [hue, ue_esc h92 hst, hpt]
      cases ue s (a + k) <;> simp
    refine ⟨((k : Int), ((o.length : Nat) : Int), ()), rfl, ?_⟩
    refine s_iteE (fun hk => (by have hk : (k : Int) = -1 := hk; omega)) (fun _ => ?_)
    simp only [Int.toNat_natCast, sl_at, Nat.sub_zero, Nat.add_zero, ite_self]
    refine s_chk (by omega) (s_chk (by omega) ?_)
    have hI2 := (hI.kp k2 ng).from (k := k) hci
    refine s_call (index_any hI2) ?_
    rintro e w2 ⟨rfl, rfl⟩
    refine ⟨_, rfl, ?_⟩
    have htl := tl_len s (a + k)
    rcases ix_cases 92 (tl s (a + k)) with ⟨e1, e2⟩ | ⟨m, e1, e2, e3, r, e4⟩
    · rw [e1]
      refine s_iteE (fun _ => ?_) (fun hh => absurd rfl hh)
      refine s_copy hb2 rfl hI2 (Nat.le_refl _) (by omega) (by omega) (c := c + o.length) (fun h0 => by
        rw [if_neg (by omega)]; have := hy2 (by omega); omega) fun w3 hb3 k3 => ?_
      have htk : (tl s (a + k)).take (s.size - a - k) = tl s (a + k) := List.take_of_length_le (by omega)
      rw [htk] at hb3
      have hlaid := take_laid (l := l2) (e := tl s (a + k)) (c := c + o.length) (n := s.size - a - k) (by omega) (by omega)
      generalize hl3 : l2.take (c + o.length) ++ tl s (a + k) ++ l2.drop (c + o.length + (s.size - a - k)) = l3 at hb3 hlaid
      have hw : IntKind.wrap IntKind.i64 (((s.size : Nat) : Int) - (((s.size - c - o.length - (s.size - a - k) : Nat)) : Int)) = ((c + o.length + (s.size - a - k) : Nat) : Int) := by
        rw [wrap_in (by omega) (by omega)]; omega
      refine s_chk (by omega) ?_
      rw [hw]
      refine s_chk (by omega) (s_leaf ?_)
      rw [if_neg (by decide)]
      refine hQ _ _ ?_ (k12.trans k3)
      unfold UPost
      have hue3 : ue s 0 = some (l3.take (c + o.length + (s.size - a - k))) := by
        rw [hue2, ue_run (tl s (a + k)) (a + k) [] (by rw [List.append_nil]) e2, ue_end (by omega), hlaid.1]; simp
      rw [hue3]
      refine ⟨(some ⟨h, 0, none⟩, c + o.length + (s.size - a - k), co0), ?_, blk_back hb3 (c + o.length + (s.size - a - k)) (by have := hlaid.2; omega)⟩
      simp only [Int.toNat_natCast]
      rfl
    · rw [e1]
      refine s_iteE (fun hh => (by have hh : (m : Int) = -1 := hh; omega)) (fun _ => ?_)
      simp only [Int.toNat_natCast]
      refine s_chk (by omega) ?_
      refine s_copy hb2 rfl hI2 (n := m) (by omega) (by omega) (by omega) (c := c + o.length) (fun h0 => by
        rw [if_neg (by omega)]; have := hy2 (by omega); omega) fun w3 hb3 k3 => ?_
      have hlaid := take_laid (l := l2) (e := (tl s (a + k)).take m) (c := c + o.length) (n := m) (by rw [List.length_take]; omega) (by omega)
      generalize hl3 : l2.take (c + o.length) ++ (tl s (a + k)).take m ++ l2.drop (c + o.length + m) = l3 at hb3 hlaid
      refine s_chk (by omega) (s_chk (by omega) (s_leaf ?_))
      rw [if_pos rfl]
      have hsplit : tl s (a + k) = (tl s (a + k)).take m ++ (tl s (a + k)).drop m := (List.take_append_drop _ _).symm
      have h92' : bn s (a + k + m) = 92 := by
        have := tl_drop s (a + k) m
        rw [e4] at this
        exact bn_gb (tl_cons this).2.1
      have hI3 := (hI2.kp k3 ng).from (k := m) (C := ci - k) (by omega)
      refine ⟨s.size - (a + k + m), ((some ⟨h, (if co - o.length = m then (if co = o.length then y2 else y2 + o.length) else (if co = o.length then y2 else y2 + o.length) + m), none⟩, s.size - (c + o.length + m), co - o.length - m), (some ⟨g, (if ci - k = m then (if ci = k then y else y + k) else (if ci = k then y else y + k) + m), none⟩, s.size - (a + k + m), ci - k - m), ()), ?_, by omega, a + k + m, c + o.length + m, (if ci - k = m then (if ci = k then y else y + k) else (if ci = k then y else y + k) + m), (if co - o.length = m then (if co = o.length then y2 else y2 + o.length) else (if co = o.length then y2 else y2 + o.length) + m), ci - k - m, co - o.length - m, l3, rfl, rfl, by omega, ?_, by omega, ?_, by omega, hb3, by have := hlaid.2; omega, ?_, by omega, h92', k12.trans k3⟩
      · show [Value.slice _ _ _, Value.slice _ _ _] = [Value.slice _ _ _, Value.slice _ _ _]
        rw [show s.size - c - o.length - m = s.size - (c + o.length + m) by omega, show s.size - a - k - m = s.size - (a + k + m) by omega]
      · rw [show s.size - a - k - m = s.size - (a + k + m) by omega] at hI3
        exact hI3
      · intro h0
        rw [if_neg (by omega), if_neg (by omega)]
        have := hy2 (by omega); omega
      · rw [hue2, ue_run ((tl s (a + k)).take m) (a + k) _ hsplit e3, hlaid.1, show a + k + ((tl s (a + k)).take m).length = a + k + m by rw [List.length_take]; omega]
        cases ue s (a + k + m) <;> simp
end Go.Proofs.YtlhhmgopfilgpaaDoor.Je
