/- jsonparser's unescapeToUTF8: its walk. No statement of the set is proved here. -/
import Derived.Test.YtlhhmgopfilgpaaDoorJf
namespace Go.Proofs.YtlhhmgopfilgpaaDoor.Je
open Go Go.Proofs Go.RowKit Go.Proofs.YtlhhmgopfilgpaaDoor.Rx Go.Proofs.YtlhhmgopfilgpaaDoor.Tr Go.Proofs.YtlhhmgopfilgpaaDoor.Pl Go.Proofs.YtlhhmgopfilgpaaDoor.Ut Go.Proofs.YtlhhmgopfilgpaaDoor.Ch Go.Proofs.YtlhhmgopfilgpaaDoor.Bw Go.Proofs.YtlhhmgopfilgpaaDoor.Uq
open Go.Proofs.YtlhhmgopfilgpaaDoor.Sr (s_allocE isX_ask)

abbrev tC : TypeId := 96
/-- The configuration that is taken where none is given. -/
def cfg : List Value := [.bool false, .bool false, .int .i64 0]
theorem new_blk {w w1 : World} {cs : List Value} {t : TypeId} (h : w.alloc (.cells cs.toArray t (0, 0)) = w1) : Blk w1 w.heap.size cs t ∧ Kp Off w w1 ∧ w1.heap.size = w.heap.size + 1 :=
  ⟨by rw [← h]; exact Blk.new w cs t, by rw [← h]; exact (Kp.refl _ w).alloc _, by rw [← h]; simp⟩
theorem Lt.off {w w' : World} {h : Nat} (hL : Lt w) (k : Kp (On h) w w') (hh : h ≠ gT) : Lt w' := fun b hb => by
  have h1 := hL b hb
  rw [k.cell (Ms.cell_lt h1) (fun e => by have e : gT = h := e; omega)]; exact h1
theorem Lt.off' {w w' : World} (hL : Lt w) (k : Kp Off w w') : Lt w' := fun b hb => by
  have h1 := hL b hb
  rw [k.cell (Ms.cell_lt h1) id]; exact h1
theorem step_any {w : World} {s : ByteArray} {g y a n cap h c m cap2 y2 T' : Nat} {l : List UInt8} (hI : In w s g y a n) (hcap : n ≤ cap) (hs : s.size < 1000000000) (hb : Blk w h (cb l) T') (hL : Lt w) (hm : n ≤ m) (hc : c + m ≤ l.length) (hy2 : 0 < m → y2 = c) :
    Calls Tryd.prog 62 #[.agg cfg.toArray, .slice (some ⟨g, y, none⟩) n cap, .slice (some ⟨h, y2, none⟩) m cap2] w
      fun e w' => e = .returned (stV (stp s a)) ∧ Blk w' h (cb (stL l c (stp s a))) T' ∧ Kp (On h) w w' := by
  refine jsonparser_unescapeToUTF8Config.calls _ _ _ _ _ _ _ _ _ ?_
  unfold jsonparser_unescapeToUTF8Config.t
  have hlen := hI.len
  obtain ⟨w1, hw1⟩ : ∃ w1, w.alloc (.cells cfg.toArray tC (0, 0)) = w1 := ⟨_, rfl⟩
  obtain ⟨b0, k1, z1⟩ := new_blk hw1
  have hI1 := hI.kp k1 id
  have hb1 := k1.blk hb id
  have hL1 := hL.off' k1
  have k1' : Kp (On h) w w1 := k1.mono fun _ _ c => c.elim
  refine s_allocE w.heap.size rfl w1 hw1 ?_
  have cell : ∀ j, j < n → w1.cell? (Addr.add ⟨g, y, none⟩ j) = some (.int .u8 (bn s (a + j))) := fun j hj => by
    rw [addr_add]; exact hI1.cell hj
  have none_ : stp s a = none → ∀ w', Kp Off w1 w' → (Ending.returned (retVal [.int .i64 (-1), .int .i64 (-1)]) = .returned (stV (stp s a)) ∧ Blk w' h (cb (stL l c (stp s a))) T' ∧ Kp (On h) w w') := fun e w' k => by
    rw [e]; exact ⟨rfl, k.blk hb1 id, k1'.trans (k.mono fun _ _ c => c.elim)⟩
  refine s_cut (fun x w' => x = (decide (¬ (a + 2 ≤ s.size ∧ bn s a = 92)), ()) ∧ w1 = w') ?_ ?_
  · refine s_iteD (fun h1 => s_leaf ?_) (fun h1 => s_chk (by omega) (s_ptr (s_load ((bn s a : Nat) : Int) (cell 0 (by omega)) (s_leaf ?_))))
    · rw [if_pos rfl]
      have e : true = decide (¬ (a + 2 ≤ s.size ∧ bn s a = 92)) := (decide_eq_true (by omega)).symm
      exact ⟨(true, ()), rfl, congrArg (fun b => (b, ())) e, rfl⟩
    · rw [if_pos rfl]
      refine ⟨(((bn s a : Nat) : Int) != 92, ()), rfl, bpair ?_, rfl⟩
      simp only [bne_iff_ne, ne_eq, decide_eq_true_eq]; omega
  rintro x w1' ⟨rfl, rfl⟩
  simp only [jsonparser_unescapeToUTF8Config.t1]
  refine s_iteD (fun h1 => s_leaf ⟨rfl, none_ (by unfold stp; rw [if_neg h1]) _ (Kp.refl _ _)⟩) (fun h1 => ?_)
  have h1 : a + 2 ≤ s.size ∧ bn s a = 92 := Decidable.not_not.1 h1
  have st0 : stp s a = if isX (bt s ((a + 1 : Nat) : Int)) then some (2, [sh (gb s (a + 1))]) else if bn s (a + 1) = 117 then (due s a).map fun p => (p.1, enc p.2) else none := by unfold stp; rw [if_pos h1]
  refine s_chk (by omega) (s_ptr (s_load ((bn s (a + 1) : Nat) : Int) (cell 1 (by omega)) ?_))
  have hbt : bt s ((a + 1 : Nat) : Int) = ((bn s (a + 1) : Nat) : Int) := bt_bn s (a + 1)
  have hy2 := hy2 (by omega)
  subst hy2
  refine s_cut (fun _ w' => stp s a = none ∧ w1 = w') ?_ ?_
  rotate_left
  · rintro x w1' ⟨e, rfl⟩
    simp only [jsonparser_unescapeToUTF8Config.t11, addr_add, Nat.zero_add]
    refine s_load false (b0.cell 1) (sat_iteF.2 (s_leaf ⟨rfl, none_ e _ (Kp.refl _ _)⟩))
  refine s_cut (fun x w' => x = (isX (bt s ((a + 1 : Nat) : Int)), ()) ∧ w1 = w') ?_ ?_
  · rw [hbt]
    generalize ((bn s (a + 1) : Nat) : Int) = c
    have y1 : isX c = true → (∃ x, [Value.bool true] = (Sh.cons .bool .nil).vals x ∧ x = (isX c, ()) ∧ w1 = w1) := fun h => ⟨(true, ()), rfl, by rw [h]; rfl, rfl⟩
    refine isX_ask (fun h => ?_) (fun h1 => ?_)
    · rw [if_pos rfl]; exact y1 (by subst h; rfl)
    refine s_cut (fun x w' => x = (isX c, ()) ∧ w1 = w') ?_ (by rintro x w' ⟨rfl, rfl⟩; refine s_leaf ?_; rw [if_pos rfl]; exact ⟨(_, ()), rfl, rfl, rfl⟩)
    refine isX_ask (fun h => ?_) (fun h2 => ?_)
    · rw [if_pos rfl]; exact y1 (by subst h; rfl)
    refine s_cut (fun x w' => x = (isX c, ()) ∧ w1 = w') ?_ (by rintro x w' ⟨rfl, rfl⟩; refine s_leaf ?_; rw [if_pos rfl]; exact ⟨(_, ()), rfl, rfl, rfl⟩)
    refine isX_ask (fun h => ?_) (fun h3 => ?_)
    · rw [if_pos rfl]; exact y1 (by subst h; rfl)
    refine s_cut (fun x w' => x = (isX c, ()) ∧ w1 = w') ?_ (by rintro x w' ⟨rfl, rfl⟩; refine s_leaf ?_; rw [if_pos rfl]; exact ⟨(_, ()), rfl, rfl, rfl⟩)
    refine isX_ask (fun h => ?_) (fun h4 => ?_)
    · rw [if_pos rfl]; exact y1 (by subst h; rfl)
    refine s_cut (fun x w' => x = (isX c, ()) ∧ w1 = w') ?_ (by rintro x w' ⟨rfl, rfl⟩; refine s_leaf ?_; rw [if_pos rfl]; exact ⟨(_, ()), rfl, rfl, rfl⟩)
    refine isX_ask (fun h => ?_) (fun h5 => ?_)
    · rw [if_pos rfl]; exact y1 (by subst h; rfl)
    refine s_cut (fun x w' => x = (isX c, ()) ∧ w1 = w') ?_ (by rintro x w' ⟨rfl, rfl⟩; refine s_leaf ?_; rw [if_pos rfl]; exact ⟨(_, ()), rfl, rfl, rfl⟩)
    refine isX_ask (fun h => ?_) (fun h6 => ?_)
    · rw [if_pos rfl]; exact y1 (by subst h; rfl)
    refine s_cut (fun x w' => x = (isX c, ()) ∧ w1 = w') ?_ (by rintro x w' ⟨rfl, rfl⟩; refine s_leaf ?_; rw [if_pos rfl]; exact ⟨(_, ()), rfl, rfl, rfl⟩)
    refine isX_ask (fun h => ?_) (fun h7 => ?_)
    · rw [if_pos rfl]; exact y1 (by subst h; rfl)
    refine s_leaf ?_
    rw [if_pos rfl]
    refine ⟨(c == 116, ()), rfl, ?_, rfl⟩
    have : isX c = (c == 116) := by simp [isX, h1, h2, h3, h4, h5, h6, h7]
    rw [this]; rfl
  rintro x w1' ⟨rfl, rfl⟩
  simp only [jsonparser_unescapeToUTF8Config.t8]
  refine s_cut (fun _ w' => stp s a = none ∧ w1 = w') ?_ (fun _ w' hh => by
    unfold jsonparser_unescapeToUTF8Config.t10; refine s_leaf ?_; rw [if_pos rfl]; exact ⟨(), rfl, hh⟩)
  cases hX : isX (bt s ((a + 1 : Nat) : Int)) with
  | true =>
    rw [hX, if_pos rfl] at st0
    refine sat_iteT.2 (s_chk ?_ ?_)
    · have := isX_iff.1 hX
      rw [hbt] at this; omega
    refine s_load ((sh (gb s (a + 1))).toNat : Int) ?_ (s_chk (by omega) (s_ptr ?_))
    · rw [Int.toNat_natCast, Nat.mul_one, addr_add, Nat.zero_add]
      exact hL1 (gb s (a + 1)) (by rw [gb_bn, ← hbt]; exact hX)
    refine s_stb (sh (gb s (a + 1))) hb1 (by omega) rfl fun w2 b2 k2 => s_leaf ?_
    rw [if_neg (by decide), if_neg (by decide), st0]
    exact ⟨rfl, rfl, b2, k1'.trans k2⟩
  | false =>
    rw [hX, if_neg (by decide)] at st0
    refine sat_iteF.2 ?_
    refine s_cut (fun _ w' => stp s a = none ∧ w1 = w') ?_ (fun _ w' hh => by
      unfold jsonparser_unescapeToUTF8Config.t9; refine s_leaf ?_; rw [if_pos rfl]; exact ⟨(false, ()), rfl, hh⟩)
    refine s_iteE (fun h39 => ?_) (fun h39 => ?_)
    · simp only [addr_add, Nat.zero_add]
      refine s_load false (b0.cell 0) (sat_iteF.2 (s_leaf ?_))
      rw [if_pos rfl]
      exact ⟨(), rfl, by rw [st0, if_neg (by omega)], rfl⟩
    refine s_iteE (fun hu => ?_) (fun hu => s_leaf ?_)
    rotate_left
    · rw [if_pos rfl]
      exact ⟨(), rfl, by rw [st0, if_neg (by omega)], rfl⟩
    rw [if_pos (by omega)] at st0
    refine s_call (decode_any hI1 hs hcap) ?_
    rintro e w2 ⟨rfl, k2⟩
    have k2' : Kp (On h) w w2 := k1'.trans (k2.mono fun _ _ c => c.elim)
    cases hd : due s a with
    | none =>
      rw [hd] at st0
      refine ⟨((65533 : Int), (-1 : Int), ()), rfl, sat_iteT.2 (s_leaf ?_)⟩
      rw [if_neg (by decide), if_neg (by decide), if_neg (by decide)]
      exact ⟨rfl, none_ st0 _ k2⟩
    | some p =>
      obtain ⟨k, r⟩ := p
      rw [hd] at st0
      have hle := due_le hd
      have stl : stp s a = some (k, enc r) := st0
      have hsl := stp_le stl
      refine ⟨((r : Int), (k : Int), ()), rfl, ?_⟩
      refine s_iteE (fun hk => (by have hk : (k : Int) = -1 := hk; omega)) (fun _ => ?_)
      refine s_call (encode_any (k2.blk hb1 id) hle.2.2.1 hle.2.2.2.1 (by omega) hc) ?_
      rintro e w3 ⟨rfl, b3, k3⟩
      refine ⟨(((enc r).length : Nat) : Int), rfl, s_leaf ?_⟩
      rw [if_neg (by decide), if_neg (by decide), if_neg (by decide), stl]
      exact ⟨rfl, rfl, b3, k2'.trans k3⟩
end Go.Proofs.YtlhhmgopfilgpaaDoor.Je
