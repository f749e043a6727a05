/- jsonparser's ArrayEach without keys, and the rounds of its search (the texts Kg Kh Ki Kj Kl Km Kn Ko Kp Kq Kr Ks Kt of this repo put together). No statement of the set is proved here. -/
import Derived.Test.YtlfebfkphgelfaaDoorMB
namespace Go.Proofs.YtlfebfkphgelfaaDoor.Ka
open Go Go.Proofs Go.RowKit Go.Proofs.YtlfebfkphgelfaaDoor.Rx Go.Proofs.YtlfebfkphgelfaaDoor.Tr Go.Proofs.YtlfebfkphgelfaaDoor.Pl Go.Proofs.YtlfebfkphgelfaaDoor.Pw Go.Proofs.YtlfebfkphgelfaaDoor.Sk Go.Proofs.YtlfebfkphgelfaaDoor.Sw

variable {w w' : World} {x : Sl} {s : ByteArray} {i e : Nat} {S : Nat → Prop}
/-- A slice's block. -/
def TB (x : Sl) (q : Nat) : Prop := ∃ o, x.1 = some ⟨q, o, none⟩
theorem Tx.kpS (h : Tx w x s i e) (k : Kp S w w') (hS : ∀ q, TB x q → ¬ S q) : Tx w' x s i e := by
  obtain ⟨b, o, h1, h2, h3⟩ := h.cell
  refine ⟨h.len, h.ie, h.es, h.cap, b, o, h1, Nat.lt_of_lt_of_le h2 k.size, fun j hj => ?_⟩
  rw [k.cell (a := ⟨b, o + j, none⟩) h2 (hS b ⟨o, h1⟩)]; exact h3 j hj
/-- What is left of an array's elements at place c. -/
def Rem (s : ByteArray) (c : Nat) (f : Nat) : List PT → Prop
  | [] => False
  | p :: ks => bl s c = p.b ∧ WfV s p ∧ WfE s false p.e ks f
theorem isE_behind {c : Nat} (h : bt s (bl s c : Int) = 44 ∨ bt s (bl s c : Int) = 93) : isE (bt s (c : Int)) := by
  rcases Nat.lt_or_ge c (bl s c) with g | g
  · have := isB_or (bl_blank s c c (Nat.le_refl c) g)
    unfold isE; omega
  · have e : bl s c = c := by have := bl_ge s c; omega
    rw [e] at h
    unfold isE; omega
theorem each_loop {Q : Nat → List Value → World → Prop} {m : Int} {z0 : Nat} {base : World} {cf : FuncId} {first caps : Array Value} {Inv : Nat → World → Prop} {all : List PT} {f : Nat} (hg : goB Tryd.prog cf = true) (hs : s.size ≤ 9000000000) (hf : f ≤ e)
    (hSb : ¬ S z0) (hxS : ∀ q, TB x q → ¬ S q) (hst : ∀ k w w', Inv k w → Kp Off w w' → Inv k w')
    (hcb : ∀ (k : Nat) (w' : World) (y : Sl) (p : PT), all[k]? = some p → Kp S base w' → Inv k w' → z0 < w'.heap.size → Tx w' y s (rb p) (re p) → y.2.2 = y.2.1 → i ≤ p.b → p.e ≤ e → WfV s p →
      Calls Tryd.prog cf (first ++ #[slV y, .int .i64 (jk p.k), .int .i64 ((p.e - i - (re p - rb p) : Nat) : Int), .nilIface] ++ caps) w' fun en w'' => en = .returned (.tuple #[]) ∧ Inv (k + 1) w'' ∧ Kp S w' w'')
    (hQ : ∀ w', Kp S base w' → Inv all.length w' → Q 0 [.int .i64 ((f - 1 - i : Nat) : Int), .nilIface] w') :
    ∀ (w : World) (c k : Nat), Tx w x s i e → Rem s c f (all.drop k) → i ≤ c → Kp S base w → Inv k w → Blk w z0 (cfC m) tCf →
      sat Tryd.prog (.loop 1 (.cons (.int .i64) .nil) [(Value.int IntKind.i64 ((c - i : Nat) : Int))] (fun z => jsonparser_arrayEachConfig.t3 x.1 x.2.1 x.2.2 (.func (.func cf) first caps) ⟨z0, 0, none⟩ z.1)) Q w := by
  intro w c k h hR hic hK hI hB
  refine s_loop (fun n z w' => ∃ c k : Nat, n = all.length - k ∧ z = (((c - i : Nat) : Int), ()) ∧ Tx w' x s i e ∧ Rem s c f (all.drop k) ∧ i ≤ c ∧ Kp S base w' ∧ Inv k w' ∧ Blk w' z0 (cfC m) tCf) (all.length - k) (((c - i : Nat) : Int), ()) rfl ⟨c, k, rfl, rfl, h, hR, hic, hK, hI, hB⟩ ?_
  clear h hR hic hK hI hB
  rintro n z w1 ⟨c, k, rfl, rfl, h, hR, hic, hK, hI, hB⟩
  show sat _ (jsonparser_arrayEachConfig.t3 x.1 x.2.1 x.2.2 (.func (.func cf) first caps) ⟨z0, 0, none⟩ ((c - i : Nat) : Int)) _ _
  obtain ⟨p, rest, hd⟩ : ∃ p rest, all.drop k = p :: rest := by
    cases hh : all.drop k with
    | nil => rw [hh] at hR; exact hR.elim
    | cons p rest => exact ⟨p, rest, rfl⟩
  rw [hd] at hR
  obtain ⟨hb, hw, hE⟩ := hR
  have hk : all[k]? = some p := by
    have := congrArg (·[0]?) hd
    simpa using this
  have hklt : k < all.length := (List.getElem?_eq_some_iff.1 hk).1
  have hd1 : all.drop (k + 1) = rest := by
    have := congrArg (List.drop 1) hd
    simpa [List.drop_drop] using this
  have hlt := hw.lt
  have hge := bl_ge s c
  have hpe := Gk.wfE_le _ _ _ _ hE
  have hbp := bl_ge s p.e
  have hes := h.es
  have hl := h.len
  have hcap := h.cap
  have hch : (rest = [] ∧ bt s (bl s p.e : Int) = 93 ∧ f = bl s p.e + 1) ∨ (rest ≠ [] ∧ bt s (bl s p.e : Int) = 44 ∧ Rem s (bl s p.e + 1) f rest ∧ bl s p.e < f) := by
    cases rest with
    | nil => unfold WfE at hE; exact .inl ⟨rfl, hE⟩
    | cons q rest =>
      have hE' := hE
      unfold WfE at hE
      obtain ⟨h0, hv, hE2⟩ := hE
      have h0 : bt s (bl s p.e : Int) = 44 ∧ q.b = bl s (bl s p.e + 1) := h0
      have a1 := Gk.wfE_le _ _ _ _ hE2
      have a2 := hv.lt
      have a3 := bl_ge s (bl s p.e + 1)
      exact .inr ⟨by simp, h0.1, ⟨h0.2.symm, hv, hE2⟩, by omega⟩
  have hbe : isE (bt s (p.e : Int)) := isE_behind (by rcases hch with ⟨_, g, _⟩ | ⟨_, g, _⟩ <;> omega)
  have hbf : bl s p.e < f := by rcases hch with ⟨_, _, g⟩ | ⟨_, _, _, g⟩ <;> omega
  have offS : ∀ {v v' : World}, Kp Off v v' → Kp S v v' := fun k' => k'.off
  have zS := hSb
  unfold jsonparser_arrayEachConfig.t3
  refine s_drew ?_
  have kd : Kp Off w1 w1.drew := (Kp.refl Off w1).drew
  have hI1 := hst _ _ _ hI kd
  have hB1 := kd.blk hB id
  have h1 := h.kp kd
  have hK1 := hK.trans (offS kd)
  generalize w1.drew = w2 at kd hI1 hB1 h1 hK1
  refine ⟨(false, false, m, ()), fun w'' hw'' => cfg_run ((Kp.of_below (S := Off) hw'').blk hB1 id), ?_⟩
  refine s_chk ⟨by omega, by omega, by omega⟩ ?_
  have hfr := h1.from (c - i) (by omega)
  rw [show i + (c - i) = c by omega] at hfr
  have hfe : p.e ≤ e := by omega
  have hcg := cget_any (m := m) (q := none) (c := 0) hfr hs hw hb hfe (.inr hbe)
  rw [Int.toNat_natCast, Int.toNat_natCast]
  refine s_call hcg ?_
  rintro en w3 ⟨y, rfl, hT, hy, k3⟩
  refine ⟨(y, jk p.k, ((p.e - c : Nat) : Int), Value.nilIface, ()), rfl, ?_⟩
  refine s_iteE (fun g => absurd g (by show ¬ ((p.e - c : Nat) : Int) = 0; omega)) (fun _ => ?_)
  have hI3 := hst _ _ _ hI1 k3
  have hK3 := hK1.trans (offS k3)
  have hB3 := k3.blk hB1 id
  have h3 := h1.kp k3
  have ylen := hT.len
  have hrb : p.b ≤ rb p ∧ rb p ≤ re p ∧ re p ≤ p.e := by
    unfold rb re
    split
    · have := str_len hw (by assumption); omega
    · omega
  have e0 : IntKind.wrap IntKind.i64 (((c - i : Nat) : Int) + ((p.e - c : Nat) : Int)) = ((p.e - i : Nat) : Int) := by
    rw [wad _ _ (by omega)]
    have : c - i + (p.e - c) = p.e - i := by omega
    rw [this]
  have e1 : IntKind.wrap IntKind.i64 (((p.e - i : Nat) : Int) - ((y.2.1 : Nat) : Int)) = ((p.e - i - (re p - rb p) : Nat) : Int) := by
    rw [wsu _ _ (by omega) (by omega), ylen]
  refine ⟨cf, first, caps, rfl, hg, ?_⟩
  have hc := hcb k w3 y p hk hK3 hI3 hB3.lt hT hy (by omega) (by omega) hw
  rw [← e1, ← e0] at hc
  refine Calls.mono hc ?_
  rintro en w4 ⟨rfl, hI4, k4⟩
  refine ⟨(), rfl, s_chk rfl (s_ite (fun g => absurd (show (false : Bool) = true from g) (by decide)) (fun _ => s_drew ?_))⟩
  have h4 := h3.kpS k4 hxS
  have hB4 := k4.blk hB3 zS
  have hK4 := hK3.trans k4
  have kd4 : Kp Off w4 w4.drew := (Kp.refl Off w4).drew
  have hI5 := hst _ _ _ hI4 kd4
  have hB5 := kd4.blk hB4 id
  have h5 := h4.kp kd4
  have hK5 := hK4.trans (offS kd4)
  generalize w4.drew = w5 at kd4 hI5 hB5 h5 hK5
  refine s_effS (false, false, m, ()) (cfg_run hB5) ?_
  rw [e0]
  have hcap5 := h5.cap
  refine s_chk ⟨by omega, by omega, by omega⟩ ?_
  have hfr5 := h5.from (p.e - i) (by omega)
  rw [show i + (p.e - i) = p.e by omega] at hfr5
  have hble : bl s p.e < e := by omega
  have hnx := next_any (m := m) hfr5 (by omega) hble
  rw [Int.toNat_natCast]
  refine s_call hnx ?_
  rintro en w6 ⟨rfl, k6⟩
  refine ⟨((bl s p.e - p.e : Nat) : Int), rfl, s_iteE (fun g => absurd g (by omega)) (fun _ => ?_)⟩
  have hI6 := hst _ _ _ hI5 k6
  have hK6 := hK5.trans (offS k6)
  have hB6 := k6.blk hB5 id
  have h6 := h5.kp k6
  have e2 : IntKind.wrap IntKind.i64 (((p.e - i : Nat) : Int) + ((bl s p.e - p.e : Nat) : Int)) = ((bl s p.e - i : Nat) : Int) := by
    rw [wad _ _ (by omega)]
    have : p.e - i + (bl s p.e - p.e) = bl s p.e - i := by omega
    rw [this]
  rw [e2]
  have ei : i + (bl s p.e - i) = bl s p.e := by omega
  refine s_at h6 (by omega) ?_
  rw [ei]
  rcases hch with ⟨hr, h93, hf1⟩ | ⟨hr, h44, hRem, _⟩
  · refine s_iteE (fun _ => s_leaf ?_) (fun g => absurd h93 g)
    rw [if_neg (by decide)]
    subst hr
    have hlen : all.length = k + 1 := by
      have := congrArg List.length hd
      rw [List.length_drop] at this
      simp at this; omega
    have : bl s p.e - i = f - 1 - i := by omega
    rw [this]
    exact hQ w6 hK6 (by rw [hlen]; exact hI6)
  · refine s_iteE (fun g => absurd (h44.symm.trans g) (by decide)) (fun _ => s_at h6 (by omega) ?_)
    rw [ei]
    refine s_iteN (fun g => absurd h44 g) (fun _ => s_leaf ?_)
    rw [if_pos rfl, wup _ (by omega)]
    have : bl s p.e - i + 1 = bl s p.e + 1 - i := by omega
    rw [this]
    exact ⟨all.length - (k + 1), (((bl s p.e + 1 - i : Nat) : Int), ()), rfl, by omega, bl s p.e + 1, k + 1, rfl, rfl, h6, by rw [hd1]; exact hRem, by omega, hK6, hI6, hB6⟩
end Go.Proofs.YtlfebfkphgelfaaDoor.Ka
namespace Go.Proofs.YtlfebfkphgelfaaDoor.Ka
open Go Go.Proofs Go.RowKit Go.Proofs.YtlfebfkphgelfaaDoor.Rx Go.Proofs.YtlfebfkphgelfaaDoor.Tr Go.Proofs.YtlfebfkphgelfaaDoor.Pl Go.Proofs.YtlfebfkphgelfaaDoor.Pw Go.Proofs.YtlfebfkphgelfaaDoor.Sk Go.Proofs.YtlfebfkphgelfaaDoor.Sw

variable {w w' : World} {x : Sl} {s : ByteArray} {i e : Nat} {S : Nat → Prop}
theorem first_ne {p : PT} (h : WfV s p) : bt s (p.b : Int) ≠ 93 := by
  obtain ⟨k, b, f, ns, ks⟩ := p
  show bt s (b : Int) ≠ 93
  unfold WfV at h
  obtain ⟨hlt, _, ⟨_, _, hL⟩ | ⟨_, _, _, h1, _⟩ | ⟨_, _, h1, _⟩ | ⟨_, h1, _⟩⟩ := h
  · have := isL_iff.1 (hL.1 b (Nat.le_refl b) hlt); omega
  · omega
  · omega
  · omega
/-- From behind an array's bracket on. -/
theorem each_t2 {Q : Nat → List Value → World → Prop} {m : Int} {z0 : Nat} {base : World} {cf : FuncId} {first caps : Array Value} {Inv : Nat → World → Prop} {ks : List PT} {b f : Nat} (hg : goB Tryd.prog cf = true) (hs : s.size ≤ 9000000000) (hf : f ≤ e)
    (hSb : ¬ S z0) (hxS : ∀ q, TB x q → ¬ S q) (hst : ∀ k w w', Inv k w → Kp Off w w' → Inv k w')
    (hcb : ∀ (k : Nat) (w' : World) (y : Sl) (p : PT), ks[k]? = some p → Kp S base w' → Inv k w' → z0 < w'.heap.size → Tx w' y s (rb p) (re p) → y.2.2 = y.2.1 → i ≤ p.b → p.e ≤ e → WfV s p →
      Calls Tryd.prog cf (first ++ #[slV y, .int .i64 (jk p.k), .int .i64 ((p.e - i - (re p - rb p) : Nat) : Int), .nilIface] ++ caps) w' fun en w'' => en = .returned (.tuple #[]) ∧ Inv (k + 1) w'' ∧ Kp S w' w'')
    (hQ : ∀ w', Kp S base w' → Inv ks.length w' → Q 0 [.int .i64 ((f - 1 - i : Nat) : Int), .nilIface] w')
    (hE : WfE s true (b + 1) ks f) (hib : i ≤ b) (h : Tx w x s i e) (hK : Kp S base w) (hI : Inv 0 w) (hB : Blk w z0 (cfC m) tCf) :
    sat Tryd.prog (jsonparser_arrayEachConfig.t2 x.1 x.2.1 x.2.2 (.func (.func cf) first caps) ⟨z0, 0, none⟩ ((b + 1 - i : Nat) : Int)) Q w := by
  have hes := h.es
  have hl := h.len
  have hcap := h.cap
  have hle := Gk.wfE_le _ _ _ _ hE
  have hge := bl_ge s (b + 1)
  have hbf : bl s (b + 1) < f := by
    cases ks with
    | nil => unfold WfE at hE; omega
    | cons p ks =>
      unfold WfE at hE
      have h0 : p.b = bl s (b + 1) := hE.1
      have := hE.2.1.lt
      have := Gk.wfE_le _ _ _ _ hE.2.2
      omega
  have offS : ∀ {v v' : World}, Kp Off v v' → Kp S v v' := fun k' => k'.off
  unfold jsonparser_arrayEachConfig.t2
  refine s_drew ?_
  have kd : Kp Off w w.drew := (Kp.refl Off w).drew
  have hI1 := hst _ _ _ hI kd
  have hB1 := kd.blk hB id
  have h1 := h.kp kd
  have hK1 := hK.trans (offS kd)
  generalize w.drew = w1 at kd hI1 hB1 h1 hK1
  refine s_effS (false, false, m, ()) (cfg_run hB1) (s_chk ⟨by omega, by omega, by omega⟩ ?_)
  have hfr := h1.from (b + 1 - i) (by omega)
  rw [show i + (b + 1 - i) = b + 1 by omega] at hfr
  have hbe : bl s (b + 1) < e := by omega
  have hnx := next_any (m := m) hfr (by omega) hbe
  rw [Int.toNat_natCast, Int.toNat_natCast]
  refine s_call hnx ?_
  rintro en w2 ⟨rfl, k2⟩
  refine ⟨((bl s (b + 1) - (b + 1) : Nat) : Int), rfl, s_iteE (fun g => absurd g (by omega)) (fun _ => ?_)⟩
  have hI2 := hst _ _ _ hI1 k2
  have hK2 := hK1.trans (offS k2)
  have hB2 := k2.blk hB1 id
  have h2 := h1.kp k2
  have e2 : IntKind.wrap IntKind.i64 (((b + 1 - i : Nat) : Int) + ((bl s (b + 1) - (b + 1) : Nat) : Int)) = ((bl s (b + 1) - i : Nat) : Int) := by
    rw [wad _ _ (by omega)]
    have : b + 1 - i + (bl s (b + 1) - (b + 1)) = bl s (b + 1) - i := by omega
    rw [this]
  rw [e2]
  refine s_at h2 (by omega) ?_
  rw [show i + (bl s (b + 1) - i) = bl s (b + 1) by omega]
  cases ks with
  | nil =>
    unfold WfE at hE
    refine s_iteE (fun _ => s_leaf ?_) (fun g => absurd hE.1 g)
    have : bl s (b + 1) - i = f - 1 - i := by omega
    rw [this]
    exact hQ w2 hK2 hI2
  | cons p ks =>
    unfold WfE at hE
    have h0 : p.b = bl s (b + 1) := hE.1
    have hne := first_ne hE.2.1
    rw [h0] at hne
    refine s_iteE (fun g => absurd g hne) (fun _ => ?_)
    refine each_loop hg hs hf hSb hxS hst hcb hQ w2 (bl s (b + 1)) 0 h2 ⟨by rw [h0]; exact Gk.bl_bl _, hE.2.1, hE.2.2⟩ (by omega) hK2 hI2 hB2
/-- ArrayEach over the array that stands there: no keys. -/
theorem each0_any {m : Int} {q : Option Addr} {c : Nat} {cf : FuncId} {first caps : Array Value} {Inv : Nat → World → Prop} {ns : List (Nat × Nat)} {ks : List PT} {b f : Nat} (hg : goB Tryd.prog cf = true) (hs : s.size ≤ 9000000000) (hw : WfV s (.mk 5 b f ns ks)) (hb : bl s i = b) (hf : f ≤ e)
    (hSb : ¬ S w.heap.size) (hxS : ∀ q, TB x q → ¬ S q) (hst : ∀ k w w', Inv k w → Kp Off w w' → Inv k w')
    (hcb : ∀ (k : Nat) (w' : World) (y : Sl) (p : PT), ks[k]? = some p → Kp S w w' → Inv k w' → w.heap.size < w'.heap.size → Tx w' y s (rb p) (re p) → y.2.2 = y.2.1 → i ≤ p.b → p.e ≤ e → WfV s p →
      Calls Tryd.prog cf (first ++ #[slV y, .int .i64 (jk p.k), .int .i64 ((p.e - i - (re p - rb p) : Nat) : Int), .nilIface] ++ caps) w' fun en w'' => en = .returned (.tuple #[]) ∧ Inv (k + 1) w'' ∧ Kp S w' w'')
    (h : Tx w x s i e) (hI : Inv 0 w) :
    Calls Tryd.prog 75 #[cfg m, slV x, .func (.func cf) first caps, .slice q 0 c] w fun en w' => en = .returned (.tuple #[.int .i64 ((f - 1 - i : Nat) : Int), .nilIface]) ∧ Inv ks.length w' ∧ Kp S w w' := by
  have hes := h.es
  have hl := h.len
  obtain ⟨w1, w2, w3, w4⟩ := Gk.wf_arr hw
  have hge := bl_ge s i
  refine jsonparser_arrayEachConfig.calls _ _ _ _ _ _ _ _ _ _ ?_
  unfold jsonparser_arrayEachConfig.t
  refine s_alloc ?_
  have b0 := Blk.new w (cfC m) tCf
  have k0 : Kp Off w (w.alloc (.cells (cfC m).toArray tCf (0, 0))) := (Kp.refl Off w).alloc _
  show sat _ _ _ (w.alloc (.cells (cfC m).toArray tCf (0, 0)))
  generalize w.alloc (.cells (cfC m).toArray tCf (0, 0)) = v1 at k0 b0
  refine s_iteE (fun g => absurd g (by omega)) (fun _ => ?_)
  refine s_eff (w' := v1) (false, false, m, ()) (cfg_run b0) ?_
  have h1 := h.kp k0
  have hbe : bl s i < e := by omega
  refine s_call (next_any (m := m) h1 (by omega) hbe) ?_
  rintro en v2 ⟨rfl, k2⟩
  have h2 := h1.kp k2
  have b2 := k2.blk b0 id
  refine ⟨((bl s i - i : Nat) : Int), rfl, s_iteE (fun g => absurd g (by omega)) (fun _ => ?_)⟩
  refine s_cut (fun z w' => z = (false, ()) ∧ v2 = w') (s_iteE (fun _ => s_at h2 (by omega) (s_leaf ?_)) (fun g => absurd rfl g)) ?_
  · rw [if_pos rfl]
    refine ⟨(false, ()), ?_, rfl, rfl⟩
    have : bt s ((i + (bl s i - i) : Nat) : Int) = 91 := by rw [show i + (bl s i - i) = b by omega]; exact w3
    rw [this]; rfl
  rintro z w' ⟨rfl, rfl⟩
  show sat _ (jsonparser_arrayEachConfig.t1 x.1 x.2.1 x.2.2 (.func (.func cf) first caps) q 0 c ⟨w.heap.size, 0, none⟩ ((bl s i - i : Nat) : Int) false) _ _
  unfold jsonparser_arrayEachConfig.t1
  refine sat_iteF.2 (s_cut (fun z w' => z = (((b + 1 - i : Nat) : Int), ()) ∧ v2 = w') (s_iteD (fun g => absurd g (by decide)) (fun _ => s_leaf ?_)) ?_)
  · rw [if_pos rfl, wup _ (by omega)]
    have : bl s i - i + 1 = b + 1 - i := by omega
    rw [this]
    exact ⟨(((b + 1 - i : Nat) : Int), ()), rfl, rfl, rfl⟩
  rintro z w' ⟨rfl, rfl⟩
  have k02 := k0.trans k2
  refine each_t2 (base := w) (Inv := Inv) hg hs hf hSb hxS hst hcb (fun w' hK hI => ⟨rfl, rfl, hI, hK⟩) w4 (by omega) h2 (k02.off) (hst _ _ _ hI k02) b2
end Go.Proofs.YtlfebfkphgelfaaDoor.Ka
namespace Go.Proofs.YtlfebfkphgelfaaDoor.Ka
open Go Go.Proofs Go.RowKit Go.Proofs.YtlfebfkphgelfaaDoor.Rx Go.Proofs.YtlfebfkphgelfaaDoor.Tr Go.Proofs.YtlfebfkphgelfaaDoor.Pl Go.Proofs.YtlfebfkphgelfaaDoor.Pw Go.Proofs.YtlfebfkphgelfaaDoor.Sk Go.Proofs.YtlfebfkphgelfaaDoor.Sw

variable {w w' : World} {x y : Sl} {s : ByteArray} {i0 i e n k : Nat} {ks : List PT} {z1 z66 z67 z68 z69 z70 : Nat}
abbrev tI : TypeId := 3
/-- A slice that holds a byte at least lies apart from a block of one cell that is none. -/
theorem Tx.tbS {a b q : Nat} {v : Value} {t : TypeId} (h : Tx w y s a b) (hab : a < b) (hB : Blk w q [v] t) (hv : ∀ c, v ≠ .int .u8 c) : ¬ TB y q := by
  rintro ⟨o, ho⟩
  obtain ⟨b', o', h1, _, h3⟩ := h.cell
  rw [ho] at h1
  simp only [Option.some.injEq, Addr.mk.injEq, and_true] at h1
  obtain ⟨rfl, rfl⟩ := h1
  have h0 := h3 0 (by omega)
  rw [Nat.add_zero, hB.cell] at h0
  cases o with
  | zero => simp at h0; exact hv _ h0
  | succ o => simp at h0
/-- What the search's closure keeps: k elements seen, the n-th sought. -/
structure IX (w : World) (x : Sl) (s : ByteArray) (i0 e i n : Nat) (ks : List PT) (z1 z66 z67 z68 z69 z70 : Nat) (k : Nat) : Prop where
  c67 : Blk w z67 [.int .i64 (k : Int)] tI
  c66 : Blk w z66 [.int .i64 (n : Int)] tI
  c1 : Blk w z1 [slV x] tBs
  c70 : Blk w z70 [.int .i64 ((i - i0 : Nat) : Int)] tI
  data : Tx w x s i0 e
  c68 : ∃ y : Sl, Blk w z68 [slV y] tBs ∧ (k ≤ n → y = (none, 0, 0)) ∧ (n < k → ∃ p, ks[n]? = some p ∧ Tx w y s p.b p.e ∧ p.b < p.e)
  c69 : ∃ v : Int, Blk w z69 [.int .i64 v] tI ∧ (n < k → ∃ p, ks[n]? = some p ∧ v = ((p.b - i : Nat) : Int))
theorem IX.kp (h : IX w x s i0 e i n ks z1 z66 z67 z68 z69 z70 k) (kp : Kp Off w w') : IX w' x s i0 e i n ks z1 z66 z67 z68 z69 z70 k := by
  obtain ⟨y, a1, a2, a3⟩ := h.c68
  obtain ⟨v, b1, b2⟩ := h.c69
  exact ⟨kp.blk h.c67 id, kp.blk h.c66 id, kp.blk h.c1 id, kp.blk h.c70 id, h.data.kp kp, ⟨y, kp.blk a1 id, a2, fun g => by
    obtain ⟨p, p1, p2, p3⟩ := a3 g
    exact ⟨p, p1, p2.kp kp, p3⟩⟩, ⟨v, kp.blk b1 id, b2⟩⟩
def S3 (z67 z68 z69 : Nat) (q : Nat) : Prop := q = z67 ∨ q = z68 ∨ q = z69
theorem ce3 {i0 i b : Nat} (h1 : i0 ≤ i) (h2 : i ≤ b) (h3 : b ≤ 9000000000) : IntKind.wrap IntKind.i64 (((i - i0 : Nat) : Int) + ((b - i : Nat) : Int)) = ((b - i0 : Nat) : Int) := by
  rw [wad _ _ (by omega)]
  have : i - i0 + (b - i) = b - i0 := by omega
  rw [this]
theorem ce4 {i0 b e l : Nat} (hl : l = e - 1 - (b + 1)) (h1 : i0 ≤ b) (h2 : b + 2 ≤ e) (h3 : e ≤ 9000000000) : IntKind.wrap IntKind.i64 (IntKind.wrap IntKind.i64 (((b - i0 : Nat) : Int) + ((l : Nat) : Int)) + 2) = ((e - i0 : Nat) : Int) := by
  rw [wad _ _ (by omega), show (2 : Int) = ((2 : Nat) : Int) from rfl, wad _ _ (by omega)]
  have : b - i0 + l + 2 = e - i0 := by omega
  rw [this]
theorem ce5 {i0 b e : Nat} (h1 : i0 ≤ b) (h2 : b ≤ e) : e - b = e - i0 - (b - i0) := by omega
theorem clo_any {p : PT} (h : IX w x s i0 e i n ks z1 z66 z67 z68 z69 z70 k) (hs : s.size ≤ 9000000000) (hkn : k ≤ 9000000000) (hp : ks[k]? = some p) (hw : WfV s p) (hi0 : i0 ≤ i) (hi : i ≤ p.b) (hpe : p.e ≤ e) (hT : Tx w y s (rb p) (re p))
    (ho : z1 < z66 ∧ z66 < z67 ∧ z67 < z68 ∧ z68 < z69 ∧ z69 < z70) :
    Calls Tryd.prog 76 (#[] ++ #[slV y, .int .i64 (jk p.k), .int .i64 ((p.e - i - (re p - rb p) : Nat) : Int), .nilIface] ++ #[.pointer (some ⟨z67, 0, none⟩), .pointer (some ⟨z66, 0, none⟩), .pointer (some ⟨z68, 0, none⟩), .pointer (some ⟨z69, 0, none⟩), .pointer (some ⟨z1, 0, none⟩), .pointer (some ⟨z70, 0, none⟩)]) w
      fun en w'' => en = .returned (.tuple #[]) ∧ IX w'' x s i0 e i n ks z1 z66 z67 z68 z69 z70 (k + 1) ∧ Kp (S3 z67 z68 z69) w w'' := by
  have hlt := hw.lt
  have hdl := h.data.len
  have hdc := h.data.cap
  have q2 : p.b - i0 ≤ p.e - i0 := by omega
  have hb5 : p.b ≤ 9000000000 := by omega
  have he5 : p.e ≤ 9000000000 := by omega
  have q3 : p.e - i0 ≤ x.2.2 := by omega
  obtain ⟨y0, a1, a2, a3⟩ := h.c68
  obtain ⟨v0, b1, b2⟩ := h.c69
  have S7 : ∀ q, On z67 q → S3 z67 z68 z69 q := fun q h => .inl h
  have S8 : ∀ q, On z68 q → S3 z67 z68 z69 q := fun q h => .inr (.inl h)
  have S9 : ∀ q, On z69 q → S3 z67 z68 z69 q := fun q h => .inr (.inr h)
  have nS : ∀ {q : Nat}, q ≠ z67 → q ≠ z68 → q ≠ z69 → ¬ S3 z67 z68 z69 q := fun g1 g2 g3 g => by
    rcases g with g | g | g
    · exact g1 g
    · exact g2 g
    · exact g3 g
  -- the slices lie apart
  have ap : ∀ {u : Sl} {a b : Nat}, Tx w u s a b → a < b → ∀ q, TB u q → ¬ S3 z67 z68 z69 q := by
    intro u a b hu hab q hq g
    rcases g with rfl | rfl | rfl
    · exact hu.tbS hab h.c67 (fun c => by simp) hq
    · exact hu.tbS hab a1 (fun c => by simp) hq
    · exact hu.tbS hab b1 (fun c => by simp) hq
  refine jsonparser_searchKeysConfig_1.calls _ _ _ _ _ _ _ _ _ _ _ _ ?_
  unfold jsonparser_searchKeysConfig_1.t
  refine s_ptr (s_load (k : Int) (h.c67.cell 0) (s_ptr (s_load (n : Int) (h.c66.cell 0) ?_)))
  -- the count goes up: what is left when k is another
  have up : ∀ (w1 : World) (y1 : Sl) (v1 : Int), Kp (S3 z67 z68 z69) w w1 → Blk w1 z67 [.int .i64 (k : Int)] tI → Blk w1 z68 [slV y1] tBs → Blk w1 z69 [.int .i64 v1] tI → (k + 1 ≤ n → y1 = (none, 0, 0)) → (n < k + 1 → ∃ p, ks[n]? = some p ∧ Tx w y1 s p.b p.e ∧ p.b < p.e) → (n < k + 1 → ∃ p, ks[n]? = some p ∧ v1 = ((p.b - i : Nat) : Int)) →
      sat Tryd.prog (.ptr (some (⟨z67, 0, none⟩ : Addr)) fun (z27 : Addr) => .load z27 (.int .i64) fun (i28 : Int) => .ptr (some (⟨z67, 0, none⟩ : Addr)) fun (z29 : Addr) => .store z29 (Value.int IntKind.i64 (IntKind.wrap IntKind.i64 (i28 + (1 : Int)))) <| .leaf 0 [])
        (fun l vs w'' => l = 0 ∧ Ending.returned (retVal vs) = .returned (.tuple #[]) ∧ IX w'' x s i0 e i n ks z1 z66 z67 z68 z69 z70 (k + 1) ∧ Kp (S3 z67 z68 z69) w w'') w1 := by
    intro w1 y1 v1 k1 c67 c68 c69 hy hy2 hv2
    refine s_ptr (s_load (k : Int) (c67.cell 0) (s_ptr (s_store (c67.cell 0) (c67.free 0) (s_leaf ?_))))
    rw [wup k (by omega)]
    have k2 : Kp (S3 z67 z68 z69) w (w1.setCell ⟨z67, 0, none⟩ (.int .i64 ((k + 1 : Nat) : Int))) := k1.set (a := ⟨z67, 0, none⟩) (.inl rfl) _
    refine ⟨rfl, rfl, ⟨c67.set 0 _, k2.blk h.c66 (nS (by omega) (by omega) (by omega)), k2.blk h.c1 (nS (by omega) (by omega) (by omega)), k2.blk h.c70 (nS (by omega) (by omega) (by omega)), h.data.kpS k2 (ap h.data (by omega)), ⟨y1, ?_, hy, fun g => ?_⟩, ⟨v1, ?_, hv2⟩⟩, k2⟩
    · exact c68.setOther (a := ⟨z67, 0, none⟩) (by show z67 ≠ z68; omega) _
    · obtain ⟨p, p1, p2, p3⟩ := hy2 g
      exact ⟨p, p1, p2.kpS k2 (ap p2 p3), p3⟩
    · exact c69.setOther (a := ⟨z67, 0, none⟩) (by show z67 ≠ z69; omega) _
  refine s_iteE (fun hkn' => ?_) (fun hkn' => ?_)
  · have hkn2 : k = n := by omega
    subst hkn2
    refine s_ptr (s_store (a1.cell 0) (a1.free 0) ?_)
    have k1 : Kp (S3 z67 z68 z69) w (w.setCell ⟨z68, 0, none⟩ (slV y)) := (Kp.refl _ w).set (a := ⟨z68, 0, none⟩) (.inr (.inl rfl)) _
    have c68 : Blk (w.setCell ⟨z68, 0, none⟩ (slV y)) z68 [slV y] tBs := a1.set 0 _
    have c69 : Blk (w.setCell ⟨z68, 0, none⟩ (slV y)) z69 [.int .i64 v0] tI := b1.setOther (a := ⟨z68, 0, none⟩) (by show z68 ≠ z69; omega) _
    have c67 : Blk (w.setCell ⟨z68, 0, none⟩ (slV y)) z67 [.int .i64 (k : Int)] tI := h.c67.setOther (a := ⟨z68, 0, none⟩) (by show z68 ≠ z67; omega) _
    show sat _ _ _ (w.setCell ⟨z68, 0, none⟩ (slV y))
    generalize w.setCell ⟨z68, 0, none⟩ (slV y) = w1 at k1 c68 c69 c67
    refine s_ptr (s_store (c69.cell 0) (c69.free 0) ?_)
    have k2 := k1.set (a := ⟨z69, 0, none⟩) (.inr (.inr rfl)) (.int .i64 ((p.e - i - (re p - rb p) : Nat) : Int))
    have d68 := c68.setOther (a := ⟨z69, 0, none⟩) (by show z69 ≠ z68; omega) (.int .i64 ((p.e - i - (re p - rb p) : Nat) : Int))
    have d69 : Blk (w1.setCell ⟨z69, 0, none⟩ (.int .i64 ((p.e - i - (re p - rb p) : Nat) : Int))) z69 [.int .i64 ((p.e - i - (re p - rb p) : Nat) : Int)] tI := c69.set 0 _
    have d67 := c67.setOther (a := ⟨z69, 0, none⟩) (by show z69 ≠ z67; omega) (.int .i64 ((p.e - i - (re p - rb p) : Nat) : Int))
    generalize w1.setCell ⟨z69, 0, none⟩ (.int .i64 ((p.e - i - (re p - rb p) : Nat) : Int)) = w2 at k2 d68 d69 d67
    refine s_iteE (fun hk1 => ?_) (fun hk1 => ?_)
    · -- a string: its marks too
      have hk4 := jk_str.1 hk1
      have hsl := str_len hw hk4
      have hrb : rb p = p.b + 1 := by unfold rb; rw [if_pos hk4]
      have hre : re p = p.e - 1 := by unfold re; rw [if_pos hk4]
      have hyl := hT.len
      rw [hrb, hre] at hyl
      have eo : p.e - i - (re p - rb p) = p.b - i + 2 := by omega
      rw [eo] at d69
      have e2 : IntKind.wrap IntKind.i64 (((p.b - i + 2 : Nat) : Int) - 2) = ((p.b - i : Nat) : Int) := wsu (p.b - i + 2) 2 (by omega) (by omega)
      refine s_ptr (s_load ((p.b - i + 2 : Nat) : Int) (d69.cell 0) (s_ptr (s_store (d69.cell 0) (d69.free 0) ?_)))
      rw [e2]
      have k3 := k2.set (a := ⟨z69, 0, none⟩) (.inr (.inr rfl)) (.int .i64 ((p.b - i : Nat) : Int))
      have f68 := d68.setOther (a := ⟨z69, 0, none⟩) (by show z69 ≠ z68; omega) (.int .i64 ((p.b - i : Nat) : Int))
      have f69 : Blk (w2.setCell ⟨z69, 0, none⟩ (.int .i64 ((p.b - i : Nat) : Int))) z69 [.int .i64 ((p.b - i : Nat) : Int)] tI := d69.set 0 _
      have f67 := d67.setOther (a := ⟨z69, 0, none⟩) (by show z69 ≠ z67; omega) (.int .i64 ((p.b - i : Nat) : Int))
      generalize w2.setCell ⟨z69, 0, none⟩ (.int .i64 ((p.b - i : Nat) : Int)) = w3 at k3 f68 f69 f67
      have f1 : Blk w3 z1 [slV x] tBs := k3.blk h.c1 (nS (by omega) (by omega) (by omega))
      have f70 : Blk w3 z70 [.int .i64 ((i - i0 : Nat) : Int)] tI := k3.blk h.c70 (nS (by omega) (by omega) (by omega))
      refine s_ptr (s_load x (f1.cell 0) (s_ptr (s_load ((i - i0 : Nat) : Int) (f70.cell 0) (s_ptr (s_load ((p.b - i : Nat) : Int) (f69.cell 0) (s_ptr (s_load ((i - i0 : Nat) : Int) (f70.cell 0) (s_ptr (s_load ((p.b - i : Nat) : Int) (f69.cell 0) ?_)))))))))
      have e3 := ce3 hi0 hi hb5
      have e4 := ce4 hyl (Nat.le_trans hi0 hi) hsl he5
      rw [e3, e4]
      refine s_chk ⟨Int.natCast_nonneg _, Int.ofNat_le.2 q2, Int.ofNat_le.2 q3⟩ (s_ptr (s_store (f68.cell 0) (f68.free 0) ?_))
      rw [Int.toNat_natCast, Int.toNat_natCast]
      have hS := h.data.sub (k := p.b) (f := p.e) (Nat.le_trans hi0 hi) (Nat.le_of_lt hlt.1) hpe
      rw [ce5 (Nat.le_trans hi0 hi) (Nat.le_of_lt hlt.1)] at hS
      have k4 := k3.set (a := ⟨z68, 0, none⟩) (.inr (.inl rfl)) (.slice (if x.2.2 = p.b - i0 then x.1 else x.1.map fun y => y.add ((p.b - i0) * 1)) (p.e - i0 - (p.b - i0)) (x.2.2 - (p.b - i0)))
      refine up _ ((if x.2.2 = p.b - i0 then x.1 else x.1.map fun y => y.add ((p.b - i0) * 1)), p.e - i0 - (p.b - i0), x.2.2 - (p.b - i0)) ((p.b - i : Nat) : Int) k4 ?_ ?_ ?_ (fun g => by omega) (fun _ => ⟨p, hp, hS, hlt.1⟩) (fun _ => ⟨p, hp, rfl⟩)
      · exact f67.setOther (a := ⟨z68, 0, none⟩) (by show z68 ≠ z67; omega) _
      · exact f68.set 0 _
      · exact f69.setOther (a := ⟨z68, 0, none⟩) (by show z68 ≠ z69; omega) _
    · have hk4 : p.k ≠ 4 := fun g => hk1 (jk_str.2 g)
      have hrb : rb p = p.b := by unfold rb; rw [if_neg hk4]
      have hre : re p = p.e := by unfold re; rw [if_neg hk4]
      rw [hrb, hre] at hT
      have eo : p.e - i - (re p - rb p) = p.b - i := by rw [hrb, hre]; omega
      rw [eo] at d69
      exact up w2 y ((p.b - i : Nat) : Int) k2 d67 d68 d69 (fun g => by omega) (fun _ => ⟨p, hp, hT, hlt.1⟩) (fun _ => ⟨p, hp, rfl⟩)
  · have hkn2 : k ≠ n := fun g => hkn' (by rw [g])
    refine up w y0 v0 (Kp.refl _ w) h.c67 a1 b1 (fun g => a2 (by omega)) (fun g => a3 (by omega)) (fun g => b2 (by omega))
end Go.Proofs.YtlfebfkphgelfaaDoor.Ka
namespace Go.Proofs.YtlfebfkphgelfaaDoor.Ka
open Go Go.Proofs Go.RowKit Go.Proofs.YtlfebfkphgelfaaDoor.Rx Go.Proofs.YtlfebfkphgelfaaDoor.Tr Go.Proofs.YtlfebfkphgelfaaDoor.Pl Go.Proofs.YtlfebfkphgelfaaDoor.Pw Go.Proofs.YtlfebfkphgelfaaDoor.Sk Go.Proofs.YtlfebfkphgelfaaDoor.Sw

variable {w w' : World} {x y : Sl} {s : ByteArray} {i0 i e n k : Nat} {ks : List PT} {z1 z66 z67 z68 z69 z70 : Nat}
theorem wfE_len : ∀ (ks : List PT) (first : Bool) (j e : Nat), WfE s first j ks e → ks.length + j < e
  | [], first, j, e, h => by unfold WfE at h; have := bl_ge s j; simp; omega
  | p :: ks, first, j, e, h => by
    unfold WfE at h
    have a0 := wfE_len ks false p.e e h.2.2
    have a1 := h.2.1.lt
    have g := bl_ge s j
    have g2 := bl_ge s (bl s j + 1)
    have h0 := h.1
    have : j ≤ p.b := by split at h0 <;> omega
    rw [List.length_cons]; omega
theorem find_any {m : Int} {ns : List (Nat × Nat)} {f : Nat} (h : IX w x s i0 e i n ks z1 z66 z67 z68 z69 z70 0) (hs : s.size ≤ 9000000000) (hi0 : i0 ≤ i) (hw : WfV s (.mk 5 i f ns ks)) (hf : f ≤ e) (ho : z1 < z66 ∧ z66 < z67 ∧ z67 < z68 ∧ z68 < z69 ∧ z69 < z70) :
    Calls Tryd.prog 75 #[cfg m, .slice (if x.2.2 = i - i0 then x.1 else x.1.map fun y => y.add ((i - i0) * 1)) (x.2.1 - (i - i0)) (x.2.2 - (i - i0)), .func (.func 76) #[] #[.pointer (some ⟨z67, 0, none⟩), .pointer (some ⟨z66, 0, none⟩), .pointer (some ⟨z68, 0, none⟩), .pointer (some ⟨z69, 0, none⟩), .pointer (some ⟨z1, 0, none⟩), .pointer (some ⟨z70, 0, none⟩)], .slice none 0 0] w
      fun en w' => en = .returned (.tuple #[.int .i64 ((f - 1 - i : Nat) : Int), .nilIface]) ∧ IX w' x s i0 e i n ks z1 z66 z67 z68 z69 z70 ks.length ∧ Kp (S3 z67 z68 z69) w w' := by
  obtain ⟨w1, w2, w3, w4⟩ := Gk.wf_arr hw
  have hlen := wfE_len _ _ _ _ w4
  have hes := h.data.es
  have hx := h.data.from (i - i0) (by omega)
  rw [show i0 + (i - i0) = i by omega] at hx
  have hbl : bl s i = i := Gk.bl_self (by
    cases hb : isB (bt s (i : Int)) with
    | false => rfl
    | true => have := isB_or hb; omega)
  obtain ⟨y0, a1, _, _⟩ := h.c68
  obtain ⟨v0, b1, _⟩ := h.c69
  have l7 := h.c67.lt
  have l8 := a1.lt
  have l9 := b1.lt
  have hie : i < e := by omega
  have hg : goB Tryd.prog 76 = true := by kernel_rfl
  have hSb : ¬ S3 z67 z68 z69 w.heap.size := by
    rintro (g | g | g) <;> omega
  have hxS : ∀ q, TB ((if x.2.2 = i - i0 then x.1 else x.1.map fun y => y.add ((i - i0) * 1)), x.2.1 - (i - i0), x.2.2 - (i - i0)) q → ¬ S3 z67 z68 z69 q := by
    intro q hq g
    rcases g with rfl | rfl | rfl
    · exact hx.tbS hie h.c67 (fun c => by simp) hq
    · exact hx.tbS hie a1 (fun c => by simp) hq
    · exact hx.tbS hie b1 (fun c => by simp) hq
  have H := each0_any (m := m) (q := none) (c := 0) (S := S3 z67 z68 z69) (Inv := fun k w => IX w x s i0 e i n ks z1 z66 z67 z68 z69 z70 k) (cf := 76) (first := #[])
    (caps := #[.pointer (some ⟨z67, 0, none⟩), .pointer (some ⟨z66, 0, none⟩), .pointer (some ⟨z68, 0, none⟩), .pointer (some ⟨z69, 0, none⟩), .pointer (some ⟨z1, 0, none⟩), .pointer (some ⟨z70, 0, none⟩)])
    hg hs hw hbl hf hSb hxS (fun k w w' hI hk => hI.kp hk) (fun k w' y p hp hK hI _ hT hy hib hpe hwp => clo_any hI hs (by have := (List.getElem?_eq_some_iff.1 hp).1; omega) hp hwp hi0 hib hpe hT ho) hx h
  exact H
end Go.Proofs.YtlfebfkphgelfaaDoor.Ka
namespace Go.Proofs.YtlfebfkphgelfaaDoor.Ka
open Go Go.Proofs Go.RowKit Go.Proofs.YtlfebfkphgelfaaDoor.Rx Go.Proofs.YtlfebfkphgelfaaDoor.Tr Go.Proofs.YtlfebfkphgelfaaDoor.Pl Go.Proofs.YtlfebfkphgelfaaDoor.Pw Go.Proofs.YtlfebfkphgelfaaDoor.Sk Go.Proofs.YtlfebfkphgelfaaDoor.Sw

variable {w w' : World} {x q : Sl} {s : ByteArray} {i0 i e lv kl : Nat} {r : Option Nat} {last : Bool} {keys : List ByteArray} {nm : Nat × Nat → ByteArray} {ix : ByteArray → Option Nat} {z0 z1 z3 : Nat}
/-- The keys' row. -/
structure Kx (w : World) (q : Sl) (keys : List ByteArray) : Prop where
  len : q.2.1 = keys.length
  cap : q.2.1 ≤ q.2.2
  cell : keys = [] ∨ ∃ b o : Nat, q.1 = some ⟨b, o, none⟩ ∧ b < w.heap.size ∧ ∀ j key, keys[j]? = some key → w.cell? ⟨b, o + j, none⟩ = some (.string key)
theorem Kx.kp (h : Kx w q keys) (k : Kp Off w w') : Kx w' q keys := by
  refine ⟨h.len, h.cap, ?_⟩
  rcases h.cell with h0 | ⟨b, o, h1, h2, h3⟩
  · exact .inl h0
  refine .inr ⟨b, o, h1, Nat.lt_of_lt_of_le h2 k.size, fun j key hj => ?_⟩
  rw [k.cell (a := ⟨b, o + j, none⟩) h2 id]; exact h3 j key hj
theorem Kx.drop (h : Kx w q keys) (d : Nat) (hd : d ≤ keys.length) : Kx w ((if q.2.2 = d then q.1 else q.1.map fun y => y.add (d * 1)), q.2.1 - d, q.2.2 - d) (keys.drop d) := by
  have hl := h.len
  have hc := h.cap
  refine ⟨by rw [List.length_drop]; show q.2.1 - d = _; omega, by show q.2.1 - d ≤ q.2.2 - d; omega, ?_⟩
  rcases h.cell with h0 | ⟨b, o, h1, h2, h3⟩
  · left; rw [h0]; exact List.drop_nil
  right
  show ∃ b' o', (if q.2.2 = d then q.1 else q.1.map fun y => y.add (d * 1)) = some ⟨b', o', none⟩ ∧ _
  split
  · refine ⟨b, o, h1, h2, fun j key hj => ?_⟩
    rw [List.drop_eq_nil_of_le (by omega)] at hj
    simp at hj
  · refine ⟨b, o + d, by rw [h1, Option.map_some, addr_add, Nat.mul_one], h2, fun j key hj => ?_⟩
    rw [List.getElem?_drop] at hj
    have := h3 (d + j) key hj
    rw [← this, Nat.add_assoc]
/-- A key is read. -/
theorem s_key {Q : Nat → List Value → World → Prop} {K : Sh.str.Ty → T} {j : Nat} {key : ByteArray} (h : Kx w q keys) (hj : keys[j]? = some key) (hK : sat Tryd.prog (K key) Q w) :
    sat Tryd.prog (.chk (((0 : Int) ≤ (j : Int)) ∧ ((j : Int) < ((q.2.1 : Nat) : Int))) <| .ptr q.1 fun z => .load (Addr.add z ((Int.toNat (j : Int)) * 1)) .str K) Q w := by
  obtain ⟨b, o, h1, h2, h3⟩ : ∃ b o : Nat, q.1 = some ⟨b, o, none⟩ ∧ b < w.heap.size ∧ ∀ j key, keys[j]? = some key → w.cell? ⟨b, o + j, none⟩ = some (.string key) := by
    rcases h.cell with h0 | h0
    · rw [h0] at hj; simp at hj
    · exact h0
  have hl := h.len
  have hlt := (List.getElem?_eq_some_iff.1 hj).1
  refine s_chk (by omega) ⟨_, h1, ?_⟩
  rw [Int.toNat_natCast, Nat.mul_one]
  dsimp only
  rw [addr_add]
  exact s_load key (h3 j key hj) hK
theorem Go.inv_skip (h : Gk.Go s nm ix e keys i lv kl last r) (h1 : bt s (i : Int) ≠ 34) (h2 : bt s (i : Int) ≠ 91) (h3 : bt s (i : Int) ≠ 123) (h4 : bt s (i : Int) ≠ 125) : i < e ∧ Gk.Go s nm ix e keys (i + 1) lv kl last r := by
  cases h with
  | skip g _ _ _ _ _ h => exact ⟨g, h⟩
  | strv g => exact absurd g h1
  | keyN g => exact absurd g h1
  | keyM g => exact absurd g h1
  | keyL g => exact absurd g h1
  | opn _ g => exact absurd g h3
  | blk g => exact absurd g h3
  | arr g => exact absurd g h2
  | idx0 _ _ g => exact absurd (Gk.wf_arr g).2.2.1 h2
  | idxS _ _ g => exact absurd (Gk.wf_arr g).2.2.1 h2
  | cls _ g => exact absurd g h4
  | clsE _ g => exact absurd g h4
theorem Go.lt (h : Gk.Go s nm ix e keys i lv kl last r) : i < e := by
  have b : ∀ {k : Nat}, bl s (i + 1 + k + 1) < e → i < e := fun {k} g => by have := bl_ge s (i + 1 + k + 1); omega
  cases h with
  | skip g => exact g
  | strv _ _ g => exact b g
  | keyN _ _ _ g => exact b g
  | keyM _ _ _ g => exact b g
  | keyL _ _ _ g => exact b g
  | opn g => exact g
  | blk _ _ g g2 => omega
  | arr _ _ _ g g2 => omega
  | idx0 _ _ g g2 => have := (Gk.wf_arr g).1; omega
  | idxS _ _ g g2 => have := (Gk.wf_arr g).1; omega
  | cls g => exact g
  | clsE g => exact g
/-- What the search keeps. -/
structure SK (w : World) (x q : Sl) (s : ByteArray) (i0 e : Nat) (keys : List ByteArray) (m : Int) (z0 z1 : Nat) : Prop where
  c0 : Blk w z0 (cfC m) tCf
  c1 : Blk w z1 [slV x] tBs
  data : Tx w x s i0 e
  keys : Kx w q keys
theorem SK.kp {m : Int} (h : SK w x q s i0 e keys m z0 z1) (k : Kp Off w w') : SK w' x q s i0 e keys m z0 z1 := ⟨k.blk h.c0 id, k.blk h.c1 id, h.data.kp k, h.keys.kp k⟩
/-- The search's answer. -/
def ans (i0 : Nat) : Option Nat → Int
  | some r => ((r - i0 : Nat) : Int)
  | none => -1
/-- The bytes that are skipped fast. -/
theorem skip_any {Q : Nat → List Value → World → Prop} {m : Int} (h : SK w x q s i0 e keys m z0 z1) (hs : s.size ≤ 9000000000) (hi : i0 ≤ i) (hG : Gk.Go s nm ix e keys i lv kl last r)
    (hQ : ∀ j, i ≤ j → Gk.Go s nm ix e keys j lv kl last r → Q 2 [.int .i64 ((j - i0 : Nat) : Int)] w) :
    sat Tryd.prog (.loop 3 (.cons (.int .i64) .nil) [(Value.int IntKind.i64 ((i - i0 : Nat) : Int))] (fun z => jsonparser_searchKeysConfig.t2 ⟨z1, 0, none⟩ x z.1)) Q w := by
  have hl := h.data.len
  have hes := h.data.es
  refine s_loop (fun n z w' => ∃ j : Nat, n = e - j ∧ z = (((j - i0 : Nat) : Int), ()) ∧ i ≤ j ∧ Gk.Go s nm ix e keys j lv kl last r ∧ w' = w) (e - i) (((i - i0 : Nat) : Int), ()) rfl ⟨i, rfl, rfl, Nat.le_refl i, hG, rfl⟩ ?_
  rintro n z w2 ⟨j, rfl, rfl, hj, hGj, hw⟩
  have hw := hw.symm
  subst hw
  have hlt := Go.lt hGj
  show sat _ (jsonparser_searchKeysConfig.t2 ⟨z1, 0, none⟩ x ((j - i0 : Nat) : Int)) _ _
  unfold jsonparser_searchKeysConfig.t2
  have ej : i0 + (j - i0) = j := by omega
  have nx : Gk.Go s nm ix e keys (j + 1) lv kl last r → ∃ n' x', [Value.int .i64 (IntKind.wrap .i64 (((j - i0 : Nat) : Int) + 1))] = (Sh.cons (.int .i64) .nil).vals x' ∧ n' < e - j ∧ ∃ j' : Nat, n' = e - j' ∧ x' = (((j' - i0 : Nat) : Int), ()) ∧ i ≤ j' ∧ Gk.Go s nm ix e keys j' lv kl last r ∧ w = w := by
    intro g
    rw [wup _ (by omega)]
    have : j - i0 + 1 = j + 1 - i0 := by omega
    rw [this]
    exact ⟨e - (j + 1), (((j + 1 - i0 : Nat) : Int), ()), rfl, by omega, j + 1, rfl, rfl, by omega, g, rfl⟩
  refine s_iteD (fun _ => s_load x (h.c1.cell 0) (s_at h.data (by omega) ?_)) (fun c => absurd c (by omega))
  rw [ej]
  refine s_iteD (fun c => s_leaf ?_) (fun c1 => s_iteD (fun c2 => s_iteN (fun c3 => s_iteN (fun c4 => s_leaf ?_) fun _ => s_leaf ?_) fun _ => s_leaf ?_) fun _ => s_leaf ?_)
  · rw [if_pos rfl]; exact nx (Go.inv_skip hGj (by omega) (by omega) (by omega) (by omega)).2
  · rw [if_pos rfl]; exact nx (Go.inv_skip hGj (by omega) (by omega) c3 c4).2
  · rw [if_neg (by decide)]; exact hQ j hj hGj
  · rw [if_neg (by decide)]; exact hQ j hj hGj
  · rw [if_neg (by decide)]; exact hQ j hj hGj
end Go.Proofs.YtlfebfkphgelfaaDoor.Ka
namespace Go.Proofs.YtlfebfkphgelfaaDoor.Ka
open Go Go.Proofs Go.RowKit Go.Proofs.YtlfebfkphgelfaaDoor.Rx Go.Proofs.YtlfebfkphgelfaaDoor.Tr Go.Proofs.YtlfebfkphgelfaaDoor.Pl Go.Proofs.YtlfebfkphgelfaaDoor.Pw Go.Proofs.YtlfebfkphgelfaaDoor.Sk Go.Proofs.YtlfebfkphgelfaaDoor.Sw

variable {w w' base : World} {x q : Sl} {s : ByteArray} {i0 i e lv kl : Nat} {r : Option Nat} {last : Bool} {keys : List ByteArray} {nm : Nat × Nat → ByteArray} {ix : ByteArray → Option Nat} {z0 z1 : Nat} {z3 : Addr}
theorem Go.inv_open (h : Gk.Go s nm ix e keys i lv kl last r) (hc : bt s (i : Int) = 123) : (last = true ∧ Gk.Go s nm ix e keys (i + 1) (lv + 1) kl true r) ∨ (last = false ∧ ∃ i', Bk s 123 125 i 0 i' ∧ i < i' ∧ i' ≤ e ∧ Gk.Go s nm ix e keys i' lv kl false r) := by
  cases h with
  | skip _ _ _ g => exact absurd hc g
  | strv g => omega
  | keyN g => omega
  | keyM g => omega
  | keyL g => omega
  | opn _ _ h => exact .inl ⟨rfl, h⟩
  | blk _ g1 g2 g3 h => exact .inr ⟨rfl, _, g1, g2, g3, h⟩
  | arr g => omega
  | idx0 _ _ g => have := (Gk.wf_arr g).2.2.1; omega
  | idxS _ _ g => have := (Gk.wf_arr g).2.2.1; omega
  | cls _ g => omega
  | clsE _ g => omega
theorem Go.inv_bad (h : Gk.Go s nm ix e keys i lv kl last r) (hc : bt s (i : Int) = 58) : False := by
  cases h with
  | skip _ _ _ _ g1 g2 => omega
  | strv g => omega
  | keyN g => omega
  | keyM g => omega
  | keyL g => omega
  | opn _ g => omega
  | blk g => omega
  | arr g => omega
  | idx0 _ _ g => have := (Gk.wf_arr g).2.2.1; omega
  | idxS _ _ g => have := (Gk.wf_arr g).2.2.1; omega
  | cls _ g => omega
  | clsE _ g => omega
theorem Go.inv_arr (h : Gk.Go s nm ix e keys i lv kl last r) (hc : bt s (i : Int) = 91) (hk : kl ≠ lv) : ∃ i', Bk s 91 93 i 0 i' ∧ i < i' ∧ i' ≤ e ∧ Gk.Go s nm ix e keys i' lv kl last r := by
  cases h with
  | skip _ _ g => exact absurd hc g
  | strv g => omega
  | keyN g => omega
  | keyM g => omega
  | keyL g => omega
  | opn _ g => omega
  | blk g => omega
  | arr _ _ g1 g2 g3 h => exact ⟨_, g1, g2, g3, h⟩
  | idx0 => exact absurd rfl hk
  | idxS => exact absurd rfl hk
  | cls _ g => omega
  | clsE _ g => omega
theorem Go.inv_cls (h : Gk.Go s nm ix e keys i lv kl last r) (hc : bt s (i : Int) = 125) : (∃ l, lv = l + 2 ∧ kl = l + 1 ∧ Gk.Go s nm ix e keys (i + 1) (l + 1) l last r) ∨ (lv = 1 ∧ kl = 0 ∧ r = none ∧ ∀ j, i < j → j < e → isB (bt s (j : Int)) = true) := by
  cases h with
  | skip _ _ _ _ g1 g2 => omega
  | strv g => omega
  | keyN g => omega
  | keyM g => omega
  | keyL g => omega
  | opn _ g => omega
  | blk g => omega
  | arr g => omega
  | idx0 _ _ g => have := (Gk.wf_arr g).2.2.1; omega
  | idxS _ _ g => have := (Gk.wf_arr g).2.2.1; omega
  | cls _ _ g => exact .inl ⟨_, rfl, rfl, g⟩
  | clsE _ _ g => exact .inr ⟨rfl, rfl, rfl, g⟩
/-- The steps at a byte that begins no string, and no array that is sought in. -/
theorem k_other {Q : Nat → List Value → World → Prop} {m : Int} {b16 : Bool} (h : SK w x q s i0 e keys m z0 z1) (hs : s.size ≤ 9000000000) (hi : i0 ≤ i) (hlv : lv ≤ i) (hK : Kp Off base w) (hG : Gk.Go s nm ix e keys i lv kl last r) (h34 : bt s (i : Int) ≠ 34) (h91 : bt s (i : Int) = 91 → kl ≠ lv) (hb : b16 = false)
    (hZ : r = none → (∀ j, i < j → j < e → isB (bt s (j : Int)) = true) → ∀ w', SK w' x q s i0 e keys m z0 z1 → Kp Off base w' → Q 1 [.int .i64 ((i + 1 - i0 : Nat) : Int), .int .i64 (-1), .int .i64 0, .bool last] w')
    (hN : ∀ i' lv' kl' last' w', i < i' → lv' ≤ i' → Gk.Go s nm ix e keys i' lv' kl' last' r → SK w' x q s i0 e keys m z0 z1 → Kp Off base w' → Q 1 [.int .i64 ((i' - i0 : Nat) : Int), .int .i64 (kl' : Int), .int .i64 (lv' : Int), .bool last'] w') :
    sat Tryd.prog (jsonparser_searchKeysConfig.t4 q.1 q.2.1 q.2.2 ⟨z0, 0, none⟩ ⟨z1, 0, none⟩ z3 (bt s (i : Int)) b16 (kl : Int) (lv : Int) last ((i - i0 : Nat) : Int)) Q w := by
  subst hb
  have hlt := Go.lt hG
  have hl := h.data.len
  have hes := h.data.es
  have hcap := h.data.cap
  unfold jsonparser_searchKeysConfig.t4
  refine s_cut (fun z w' => (∃ (b : Bool) (i' lv' kl' : Nat) (last' : Bool), z = (b, (kl' : Int), (lv' : Int), last', ((i' - 1 - i0 : Nat) : Int), ()) ∧ i < i' ∧ lv' ≤ i' ∧ Gk.Go s nm ix e keys i' lv' kl' last' r ∧ SK w' x q s i0 e keys m z0 z1 ∧ Kp Off base w') ∨ (∃ b : Bool, z = (b, (-1 : Int), (0 : Int), last, ((i - i0 : Nat) : Int), ()) ∧ r = none ∧ (∀ j, i < j → j < e → isB (bt s (j : Int)) = true) ∧ SK w' x q s i0 e keys m z0 z1 ∧ Kp Off base w')) (sat_iteF.2 ?_) ?_
  · have ei : i + 1 - 1 - i0 = i - i0 := by omega
    have blk : ∀ {op cl : Int} {i' : Nat} {Q' : Nat → List Value → World → Prop}, Kd op cl → Bk s op cl i 0 i' → i < i' → i' ≤ e → (∀ w', Kp Off w w' → Q' 2 [.bool false, .int .i64 (kl : Int), .int .i64 (lv : Int), .bool last, .int .i64 ((i' - 1 - i0 : Nat) : Int)] w') → sat Tryd.prog (
          .drew <|
          .effS (Instr.loadAt tCf (Value.pointer (some ⟨z0, 0, none⟩))) (.agg (.cons .bool (.cons .bool (.cons (.int .i64) .nil)))) fun (z47 : (Bool × (Bool × (Int × PUnit)))) =>
          .load ⟨z1, 0, none⟩ .slice fun (z48 : ((Option Addr) × (Nat × Nat))) =>
          .chk (((0 : Int) ≤ ((i - i0 : Nat) : Int)) ∧ ((((i - i0 : Nat) : Int) ≤ ((((z48).2).1 : Nat) : Int)) ∧ (((((z48).2).1 : Nat) : Int) ≤ ((((z48).2).2 : Nat) : Int)))) <|
          .call 54 #[(Value.agg #[(Value.bool (z47).1), (Value.bool ((z47).2).1), (Value.int IntKind.i64 (((z47).2).2).1)]), (Value.slice (if (((z48).2).2 = (Int.toNat ((i - i0 : Nat) : Int))) then (z48).1 else (Option.map (fun (y49 : Addr) => (Addr.add y49 ((Int.toNat ((i - i0 : Nat) : Int)) * 1))) (z48).1)) ((Int.toNat ((((z48).2).1 : Nat) : Int)) - (Int.toNat ((i - i0 : Nat) : Int))) (((z48).2).2 - (Int.toNat ((i - i0 : Nat) : Int)))), (Value.int IntKind.u8 op), (Value.int IntKind.u8 cl)] (.int .i64) fun (i50 : Int) =>
          .ite (i50 == (-1 : Int)) (
            .leaf 0 [(Value.int IntKind.i64 (-1 : Int))]) (
            .leaf 2 [(Value.bool false), (Value.int IntKind.i64 (kl : Int)), (Value.int IntKind.i64 (lv : Int)), (Value.bool last), (Value.int IntKind.i64 (IntKind.wrap IntKind.i64 (((i - i0 : Nat) : Int) + (IntKind.wrap IntKind.i64 (i50 - (1 : Int))))))])) Q' w := by
      intro op cl i' Q' hk hB g1 g2 hQ'
      refine s_drew ?_
      have kd : Kp Off w w.drew := (Kp.refl Off w).drew
      have h1 := h.kp kd
      generalize w.drew = w1 at kd h1
      refine s_effS (false, false, m, ()) (cfg_run h1.c0) (s_load x (h1.c1.cell 0) (s_chk ⟨by omega, by omega, by omega⟩ ?_))
      have hfr := h1.data.from (i - i0) (by omega)
      rw [show i0 + (i - i0) = i by omega] at hfr
      have hcl := block_any (m := m) hk hfr hs hB g2
      rw [Int.toNat_natCast, Int.toNat_natCast]
      refine s_call hcl ?_
      rintro en w2 ⟨rfl, k2⟩
      refine ⟨((i' - i : Nat) : Int), rfl, s_iteE (fun g => absurd g (by omega)) (fun _ => s_leaf ?_)⟩
      rw [wdn _ (by omega) (by omega), wad _ _ (by omega)]
      have : i - i0 + (i' - i - 1) = i' - 1 - i0 := by omega
      rw [this]
      exact hQ' w2 (kd.trans k2)
    refine s_iteE (fun c => ?_) (fun c1 => s_iteE (fun c => ?_) (fun c2 => s_iteE (fun c => ?_) (fun c3 => s_iteE (fun c => (Go.inv_bad hG c).elim) (fun c4 => s_leaf ?_))))
    · rcases Go.inv_open hG c with ⟨rfl, hg⟩ | ⟨rfl, i', g1, g2, g3, g4⟩
      · refine s_ite (fun g => absurd (show (false : Bool) = true from g) (by decide)) (fun _ => s_leaf ?_)
        rw [if_pos rfl, wup lv (by omega)]
        exact ⟨(false, (kl : Int), ((lv + 1 : Nat) : Int), true, ((i - i0 : Nat) : Int), ()), rfl, .inl ⟨false, i + 1, lv + 1, kl, true, by rw [ei]; rfl, Nat.lt_succ_self i, by omega, hg, h, hK⟩⟩
      · refine s_ite (fun _ => ?_) (fun g => absurd (show (true : Bool) = false from g) (by decide))
        refine blk (.inr ⟨rfl, rfl⟩) g1 g2 g3 fun w' kw => ?_
        rw [if_pos rfl]
        exact ⟨(false, (kl : Int), (lv : Int), false, ((i' - 1 - i0 : Nat) : Int), ()), rfl, .inl ⟨false, i', lv, kl, false, rfl, g2, by omega, g4, h.kp kw, hK.trans kw⟩⟩
    · have hei : i < i + 1 := Nat.lt_succ_self i
      rcases Go.inv_cls hG c with ⟨l, rfl, rfl, hg⟩ | ⟨rfl, rfl, hr, hbk⟩
      · rw [wdn (l + 2) (by omega) (by omega)]
        refine s_iteE (fun _ => s_leaf ?_) (fun g => absurd (by omega) g)
        rw [if_pos rfl, wdn (l + 1) (by omega) (by omega)]
        exact ⟨(false, (l : Int), ((l + 1 : Nat) : Int), last, ((i - i0 : Nat) : Int), ()), rfl, .inl ⟨false, i + 1, l + 1, l, last, by rw [ei]; rfl, hei, by omega, hg, h, hK⟩⟩
      · refine s_iteE (fun _ => s_leaf ?_) (fun g => absurd rfl g)
        rw [if_pos rfl]
        exact ⟨(false, (-1 : Int), (0 : Int), last, ((i - i0 : Nat) : Int), ()), rfl, .inr ⟨false, rfl, hr, hbk, h, hK⟩⟩
    · have hkl := h91 c
      obtain ⟨i', g1, g2, g3, g4⟩ := Go.inv_arr hG c hkl
      refine s_cut (fun z w' => z = (false, ()) ∧ w = w') (s_iteE (fun g => absurd (by omega) hkl) (fun _ => s_leaf ?_)) ?_
      · rw [if_pos rfl]; exact ⟨(false, ()), rfl, rfl, rfl⟩
      · rintro z w' ⟨rfl, rfl⟩
        show sat _ (jsonparser_searchKeysConfig.t7 q.1 q.2.1 q.2.2 ⟨z0, 0, none⟩ ⟨z1, 0, none⟩ false (kl : Int) (lv : Int) last ((i - i0 : Nat) : Int) false) _ _
        unfold jsonparser_searchKeysConfig.t7
        refine sat_iteF.2 (blk (.inl ⟨rfl, rfl⟩) g1 g2 g3 fun w' kw => ?_)
        rw [if_pos rfl]
        exact ⟨(false, (kl : Int), (lv : Int), last, ((i' - 1 - i0 : Nat) : Int), ()), rfl, .inl ⟨false, i', lv, kl, last, rfl, g2, by omega, g4, h.kp kw, hK.trans kw⟩⟩
    · rw [if_pos rfl]
      exact ⟨(false, (kl : Int), (lv : Int), last, ((i - i0 : Nat) : Int), ()), rfl, .inl ⟨false, i + 1, lv, kl, last, by rw [ei]; rfl, Nat.lt_succ_self i, by omega, (Go.inv_skip hG h34 c3 c1 c2).2, h, hK⟩⟩
  · rintro z w' (⟨b, i', lv', kl', last', rfl, g1, g2, g3, g4, g5⟩ | ⟨b, rfl, g1, g2, g3, g4⟩)
    · show sat _ (jsonparser_searchKeysConfig.t9 (kl' : Int) (lv' : Int) last' ((i' - 1 - i0 : Nat) : Int)) _ _
      unfold jsonparser_searchKeysConfig.t9
      refine s_leaf ?_
      have := Go.lt g3
      rw [wup _ (by omega)]
      have : i' - 1 - i0 + 1 = i' - i0 := by omega
      rw [this]
      exact hN i' lv' kl' last' w' g1 g2 g3 g4 g5
    · show sat _ (jsonparser_searchKeysConfig.t9 (-1) 0 last ((i - i0 : Nat) : Int)) _ _
      unfold jsonparser_searchKeysConfig.t9
      refine s_leaf ?_
      rw [wup _ (by omega)]
      have : i - i0 + 1 = i + 1 - i0 := by omega
      rw [this]
      exact hZ g1 g2 w' g3 g4
end Go.Proofs.YtlfebfkphgelfaaDoor.Ka
namespace Go.Proofs.YtlfebfkphgelfaaDoor.Ka
open Go Go.Proofs Go.RowKit Go.Proofs.YtlfebfkphgelfaaDoor.Rx Go.Proofs.YtlfebfkphgelfaaDoor.Tr Go.Proofs.YtlfebfkphgelfaaDoor.Pl Go.Proofs.YtlfebfkphgelfaaDoor.Pw Go.Proofs.YtlfebfkphgelfaaDoor.Sk Go.Proofs.YtlfebfkphgelfaaDoor.Sw

variable {w w' base : World} {x q : Sl} {s : ByteArray} {i0 i e lv kl k : Nat} {r : Option Nat} {last : Bool} {keys : List ByteArray} {nm : Nat × Nat → ByteArray} {ix : ByteArray → Option Nat} {z0 z1 : Nat} {z3 : Addr}
/-- A string and the next token behind it. -/
theorem str_pre {Q : Nat → List Value → World → Prop} {m i20 : Int} {K : (Int × (Bool × PUnit)) → Int → T} (h : SK w x q s i0 e keys m z0 z1) (hs : s.size ≤ 9000000000) (hi : i0 ≤ i) (h20 : i20 = ((i - i0 : Nat) : Int)) (hq : QE s (i + 1) k) (hb : bl s (i + 1 + k + 1) < e)
    (hK : ∀ w', Kp Off w w' → SK w' x q s i0 e keys m z0 z1 → sat Tryd.prog (K (((k + 1 : Nat) : Int), esc s (i + 1) k, ()) ((bl s (i + 1 + k + 1) - (i + 1 + k + 1) : Nat) : Int)) Q w') :
    sat Tryd.prog (
      .drew <|
      .effQ (Instr.loadAt tCf (Value.pointer (some ⟨z0, 0, none⟩))) (.agg (.cons .bool (.cons .bool (.cons (.int .i64) .nil)))) fun (z26 : (Bool × (Bool × (Int × PUnit)))) =>
      .load ⟨z1, 0, none⟩ .slice fun (z27 : ((Option Addr) × (Nat × Nat))) =>
      .chk (((0 : Int) ≤ (IntKind.wrap IntKind.i64 (i20 + (1 : Int)))) ∧ (((IntKind.wrap IntKind.i64 (i20 + (1 : Int))) ≤ ((((z27).2).1 : Nat) : Int)) ∧ (((((z27).2).1 : Nat) : Int) ≤ ((((z27).2).2 : Nat) : Int)))) <|
      .call 66 #[(Value.agg #[(Value.bool (z26).1), (Value.bool ((z26).2).1), (Value.int IntKind.i64 (((z26).2).2).1)]), (Value.slice (if (((z27).2).2 = (Int.toNat (IntKind.wrap IntKind.i64 (i20 + (1 : Int))))) then (z27).1 else (Option.map (fun (y28 : Addr) => (Addr.add y28 ((Int.toNat (IntKind.wrap IntKind.i64 (i20 + (1 : Int)))) * 1))) (z27).1)) ((Int.toNat ((((z27).2).1 : Nat) : Int)) - (Int.toNat (IntKind.wrap IntKind.i64 (i20 + (1 : Int))))) (((z27).2).2 - (Int.toNat (IntKind.wrap IntKind.i64 (i20 + (1 : Int)))))), (Value.int IntKind.u8 34)] (.tuple (.cons (.int .i64) (.cons .bool .nil))) fun (z29 : (Int × (Bool × PUnit))) =>
      .ite ((z29).1 == (-1 : Int)) (
        .leaf 0 [(Value.int IntKind.i64 (-1 : Int))]) (
        .drew <|
        .effS (Instr.loadAt tCf (Value.pointer (some ⟨z0, 0, none⟩))) (.agg (.cons .bool (.cons .bool (.cons (.int .i64) .nil)))) fun (z30 : (Bool × (Bool × (Int × PUnit)))) =>
        .load ⟨z1, 0, none⟩ .slice fun (z31 : ((Option Addr) × (Nat × Nat))) =>
        .chk (((0 : Int) ≤ (IntKind.wrap IntKind.i64 ((IntKind.wrap IntKind.i64 (i20 + (1 : Int))) + (z29).1))) ∧ (((IntKind.wrap IntKind.i64 ((IntKind.wrap IntKind.i64 (i20 + (1 : Int))) + (z29).1)) ≤ ((((z31).2).1 : Nat) : Int)) ∧ (((((z31).2).1 : Nat) : Int) ≤ ((((z31).2).2 : Nat) : Int)))) <|
        .call 52 #[(Value.agg #[(Value.bool (z30).1), (Value.bool ((z30).2).1), (Value.int IntKind.i64 (((z30).2).2).1)]), (Value.slice (if (((z31).2).2 = (Int.toNat (IntKind.wrap IntKind.i64 ((IntKind.wrap IntKind.i64 (i20 + (1 : Int))) + (z29).1)))) then (z31).1 else (Option.map (fun (y32 : Addr) => (Addr.add y32 ((Int.toNat (IntKind.wrap IntKind.i64 ((IntKind.wrap IntKind.i64 (i20 + (1 : Int))) + (z29).1))) * 1))) (z31).1)) ((Int.toNat ((((z31).2).1 : Nat) : Int)) - (Int.toNat (IntKind.wrap IntKind.i64 ((IntKind.wrap IntKind.i64 (i20 + (1 : Int))) + (z29).1)))) (((z31).2).2 - (Int.toNat (IntKind.wrap IntKind.i64 ((IntKind.wrap IntKind.i64 (i20 + (1 : Int))) + (z29).1)))))] (.int .i64) fun (i33 : Int) =>
        .ite (i33 == (-1 : Int)) (
          .leaf 0 [(Value.int IntKind.i64 (-1 : Int))]) (
          K z29 i33))) Q w := by
  subst h20
  have hl := h.data.len
  have hes := h.data.es
  have hcap := h.data.cap
  have hge := bl_ge s (i + 1 + k + 1)
  have e1 : IntKind.wrap IntKind.i64 (((i - i0 : Nat) : Int) + (1 : Int)) = ((i + 1 - i0 : Nat) : Int) := by
    rw [wup _ (by omega)]
    have : i - i0 + 1 = i + 1 - i0 := by omega
    rw [this]
  have e2 : IntKind.wrap IntKind.i64 (((i + 1 - i0 : Nat) : Int) + ((k + 1 : Nat) : Int)) = ((i + 1 + k + 1 - i0 : Nat) : Int) := by
    rw [wad _ _ (by omega)]
    have : i + 1 - i0 + (k + 1) = i + 1 + k + 1 - i0 := by omega
    rw [this]
  rw [e1]
  refine s_drew ?_
  have kd : Kp Off w w.drew := (Kp.refl Off w).drew
  have h1 := h.kp kd
  generalize w.drew = w1 at kd h1
  refine ⟨(false, false, m, ()), fun w'' hw'' => cfg_run ((Kp.of_below (S := Off) hw'').blk h1.c0 id), ?_⟩
  refine s_load x (h1.c1.cell 0) (s_chk ⟨by omega, by omega, by omega⟩ ?_)
  have hfr := h1.data.from (i + 1 - i0) (by omega)
  rw [show i0 + (i + 1 - i0) = i + 1 by omega] at hfr
  have hke : i + 1 + k < e := by omega
  have hse := strEnd_any (m := m) hfr (by omega) hq hke
  rw [Int.toNat_natCast, Int.toNat_natCast]
  refine s_call hse ?_
  rintro en w2 ⟨rfl, k2⟩
  refine ⟨(((k + 1 : Nat) : Int), esc s (i + 1) k, ()), rfl, s_iteE (fun g => absurd g (by show ¬ ((k + 1 : Nat) : Int) = -1; omega)) (fun _ => s_drew ?_)⟩
  have h2 := h1.kp k2
  have kd2 : Kp Off w2 w2.drew := (Kp.refl Off w2).drew
  have h3 := h2.kp kd2
  generalize w2.drew = w3 at kd2 h3
  refine s_effS (false, false, m, ()) (cfg_run h3.c0) (s_load x (h3.c1.cell 0) ?_)
  show sat Tryd.prog (.chk (((0 : Int) ≤ (IntKind.wrap IntKind.i64 (((i + 1 - i0 : Nat) : Int) + ((k + 1 : Nat) : Int)))) ∧ (((IntKind.wrap IntKind.i64 (((i + 1 - i0 : Nat) : Int) + ((k + 1 : Nat) : Int))) ≤ ((x.2.1 : Nat) : Int)) ∧ (((x.2.1 : Nat) : Int) ≤ ((x.2.2 : Nat) : Int)))) <|
        .call 52 #[cfg m, (Value.slice (if (x.2.2 = (Int.toNat (IntKind.wrap IntKind.i64 (((i + 1 - i0 : Nat) : Int) + ((k + 1 : Nat) : Int))))) then x.1 else (Option.map (fun (y32 : Addr) => (Addr.add y32 ((Int.toNat (IntKind.wrap IntKind.i64 (((i + 1 - i0 : Nat) : Int) + ((k + 1 : Nat) : Int)))) * 1))) x.1)) ((Int.toNat ((x.2.1 : Nat) : Int)) - (Int.toNat (IntKind.wrap IntKind.i64 (((i + 1 - i0 : Nat) : Int) + ((k + 1 : Nat) : Int))))) (x.2.2 - (Int.toNat (IntKind.wrap IntKind.i64 (((i + 1 - i0 : Nat) : Int) + ((k + 1 : Nat) : Int))))))] (.int .i64) fun (i33 : Int) =>
        .ite (i33 == (-1 : Int)) (
          .leaf 0 [(Value.int IntKind.i64 (-1 : Int))]) (
          K (((k + 1 : Nat) : Int), esc s (i + 1) k, ()) i33)) Q w3
  rw [e2]
  refine s_chk ⟨by omega, by omega, by omega⟩ ?_
  have hfr3 := h3.data.from (i + 1 + k + 1 - i0) (by omega)
  rw [show i0 + (i + 1 + k + 1 - i0) = i + 1 + k + 1 by omega] at hfr3
  have hnx := next_any (m := m) hfr3 (by omega) hb
  rw [Int.toNat_natCast, Int.toNat_natCast]
  refine s_call hnx ?_
  rintro en w4 ⟨rfl, k4⟩
  refine ⟨((bl s (i + 1 + k + 1) - (i + 1 + k + 1) : Nat) : Int), rfl, s_iteE (fun g => absurd g (by omega)) (fun _ => ?_)⟩
  exact hK w4 (((kd.trans k2).trans kd2).trans k4) (h3.kp k4)
end Go.Proofs.YtlfebfkphgelfaaDoor.Ka
namespace Go.Proofs.YtlfebfkphgelfaaDoor.Ka
open Go Go.Proofs Go.RowKit Go.Proofs.YtlfebfkphgelfaaDoor.Rx Go.Proofs.YtlfebfkphgelfaaDoor.Tr Go.Proofs.YtlfebfkphgelfaaDoor.Pl Go.Proofs.YtlfebfkphgelfaaDoor.Pw Go.Proofs.YtlfebfkphgelfaaDoor.Sk Go.Proofs.YtlfebfkphgelfaaDoor.Sw

variable {w w' base : World} {x q : Sl} {s : ByteArray} {i0 i e lv kl k : Nat} {r : Option Nat} {last : Bool} {keys : List ByteArray} {nm : Nat × Nat → ByteArray} {ix : ByteArray → Option Nat} {z0 z1 : Nat} {z3 : Addr}
theorem k_strv {Q : Nat → List Value → World → Prop} {m : Int} {b16 : Bool} (h : SK w x q s i0 e keys m z0 z1) (hs : s.size ≤ 9000000000) (hi : i0 ≤ i) (hlv : lv ≤ i) (hK : Kp Off base w) (h34 : bt s (i : Int) = 34) (hb16 : b16 = true)
    (hq : QE s (i + 1) k) (hb : bl s (i + 1 + k + 1) < e) (hne : bt s (bl s (i + 1 + k + 1) : Int) ≠ 58) (hG : Gk.Go s nm ix e keys (bl s (i + 1 + k + 1)) lv kl last r)
    (hN : ∀ i' lv' kl' last' w', i < i' → lv' ≤ i' → Gk.Go s nm ix e keys i' lv' kl' last' r → SK w' x q s i0 e keys m z0 z1 → Kp Off base w' → Q 1 [.int .i64 ((i' - i0 : Nat) : Int), .int .i64 (kl' : Int), .int .i64 (lv' : Int), .bool last'] w') :
    sat Tryd.prog (jsonparser_searchKeysConfig.t4 q.1 q.2.1 q.2.2 ⟨z0, 0, none⟩ ⟨z1, 0, none⟩ z3 (bt s (i : Int)) b16 (kl : Int) (lv : Int) last ((i - i0 : Nat) : Int)) Q w := by
  subst hb16
  have hl := h.data.len
  have hes := h.data.es
  have hge := bl_ge s (i + 1 + k + 1)
  have hlt := Go.lt hG
  have e1 : IntKind.wrap IntKind.i64 (((i - i0 : Nat) : Int) + (1 : Int)) = ((i + 1 - i0 : Nat) : Int) := by
    rw [wup _ (by omega)]
    have : i - i0 + 1 = i + 1 - i0 := by omega
    rw [this]
  have e2 : IntKind.wrap IntKind.i64 (IntKind.wrap IntKind.i64 (((i - i0 : Nat) : Int) + (1 : Int)) + ((k + 1 : Nat) : Int)) = ((i + 1 + k + 1 - i0 : Nat) : Int) := by
    rw [e1, wad _ _ (by omega)]
    have : i + 1 - i0 + (k + 1) = i + 1 + k + 1 - i0 := by omega
    rw [this]
  have e3 : IntKind.wrap IntKind.i64 (IntKind.wrap IntKind.i64 (IntKind.wrap IntKind.i64 (((i - i0 : Nat) : Int) + (1 : Int)) + ((k + 1 : Nat) : Int)) + ((bl s (i + 1 + k + 1) - (i + 1 + k + 1) : Nat) : Int)) = ((bl s (i + 1 + k + 1) - i0 : Nat) : Int) := by
    rw [e2, wad _ _ (by omega)]
    have : i + 1 + k + 1 - i0 + (bl s (i + 1 + k + 1) - (i + 1 + k + 1)) = bl s (i + 1 + k + 1) - i0 := by omega
    rw [this]
  have e4 : IntKind.wrap IntKind.i64 (IntKind.wrap IntKind.i64 (IntKind.wrap IntKind.i64 (IntKind.wrap IntKind.i64 (((i - i0 : Nat) : Int) + (1 : Int)) + ((k + 1 : Nat) : Int)) + ((bl s (i + 1 + k + 1) - (i + 1 + k + 1) : Nat) : Int)) - 1) = ((bl s (i + 1 + k + 1) - 1 - i0 : Nat) : Int) := by
    rw [e3, wdn _ (by omega) (by omega)]
    have : bl s (i + 1 + k + 1) - i0 - 1 = bl s (i + 1 + k + 1) - 1 - i0 := by omega
    rw [this]
  have ei : i0 + (i - i0) = i := by omega
  unfold jsonparser_searchKeysConfig.t4
  refine s_cut (fun z w' => ∃ (b : Bool) (i' lv' kl' : Nat) (last' : Bool), z = (b, (kl' : Int), (lv' : Int), last', ((i' - 1 - i0 : Nat) : Int), ()) ∧ i < i' ∧ lv' ≤ i' ∧ Gk.Go s nm ix e keys i' lv' kl' last' r ∧ SK w' x q s i0 e keys m z0 z1 ∧ Kp Off base w') (sat_iteT.2 ?_) ?_
  · refine s_load x (h.c1.cell 0) (s_at h.data (by omega) ?_)
    rw [ei]
    refine s_cut (fun z w' => z = (false, ()) ∧ w = w') (s_iteE (fun g => absurd g (by omega)) (fun _ => s_leaf ?_)) ?_
    · rw [if_pos rfl]; exact ⟨(false, ()), rfl, rfl, rfl⟩
    · rintro z w' ⟨rfl, rfl⟩
      show sat _ (jsonparser_searchKeysConfig.t5 q.1 q.2.1 ⟨z0, 0, none⟩ ⟨z1, 0, none⟩ z3 true (kl : Int) (lv : Int) last ((i - i0 : Nat) : Int) (bt s (i : Int)) false) _ _
      rw [h34]
      unfold jsonparser_searchKeysConfig.t5
      refine sat_iteF.2 (str_pre h hs hi rfl hq hb fun w4 k4 h4 => ?_)
      refine s_load x (h4.c1.cell 0) (s_atI h4.data e3 (by omega) ?_)
      rw [show i0 + (bl s (i + 1 + k + 1) - i0) = bl s (i + 1 + k + 1) by omega]
      refine s_iteE (fun c => absurd c hne) (fun _ => s_leaf ?_)
      rw [if_pos rfl]
      exact ⟨(true, (kl : Int), (lv : Int), last, ((bl s (i + 1 + k + 1) - 1 - i0 : Nat) : Int), ()), congrArg (fun n => [Value.bool true, .int .i64 (kl : Int), .int .i64 (lv : Int), .bool last, .int .i64 n]) e4, true, bl s (i + 1 + k + 1), lv, kl, last, rfl, by omega, by omega, hG, h4, hK.trans k4⟩
  · rintro z w' ⟨b, i', lv', kl', last', rfl, g1, g2, g3, g4, g5⟩
    show sat _ (jsonparser_searchKeysConfig.t9 (kl' : Int) (lv' : Int) last' ((i' - 1 - i0 : Nat) : Int)) _ _
    unfold jsonparser_searchKeysConfig.t9
    refine s_leaf ?_
    have := Go.lt g3
    rw [wup _ (by omega)]
    have : i' - 1 - i0 + 1 = i' - i0 := by omega
    rw [this]
    exact hN i' lv' kl' last' w' g1 g2 g3 g4 g5
end Go.Proofs.YtlfebfkphgelfaaDoor.Ka
namespace Go.Proofs.YtlfebfkphgelfaaDoor.Ka
open Go Go.Proofs Go.RowKit Go.Proofs.YtlfebfkphgelfaaDoor.Rx Go.Proofs.YtlfebfkphgelfaaDoor.Tr Go.Proofs.YtlfebfkphgelfaaDoor.Pl Go.Proofs.YtlfebfkphgelfaaDoor.Pw Go.Proofs.YtlfebfkphgelfaaDoor.Sk Go.Proofs.YtlfebfkphgelfaaDoor.Sw

variable {w w' base : World} {x q y : Sl} {s : ByteArray} {i0 i e r lv kl k : Nat} {last : Bool} {keys : List ByteArray} {z0 z1 z38 : Nat}
theorem eq_any {t key : ByteArray} (hB : Blk w z38 [slV y] tBs) (ht : (convert tBs 9 (slV y)).run Tryd.prog w = .ok (.string t) w) :
    Calls Tryd.prog 73 #[.pointer (some ⟨z38, 0, none⟩), .string key] w fun en w' => en = .returned (.bool (strEq t key)) ∧ w' = w := by
  refine jsonparser_equalStr.calls _ _ ?_
  unfold jsonparser_equalStr.t
  refine s_ptr (s_load y (hB.cell 0) (s_eff (w' := w) t ht (s_leaf ⟨rfl, rfl, rfl⟩)))
/-- Behind a name: the key is compared. -/
theorem t6_any {Q : Nat → List Value → World → Prop} {t key : ByteArray} {b16 : Bool} {z29 : Int × (Bool × PUnit)} {i33 : Int} {j : Nat} (hKx : Kx w q keys) (hl5 : lv ≤ 9000000000) (hj5 : j ≤ 9000000000) (hB : Blk w z38 [slV y] tBs) (ht : (convert tBs 9 (slV y)).run Tryd.prog w = .ok (.string t) w)
    (hkey : keys[lv]? = some key) (hj : IntKind.wrap IntKind.i64 (IntKind.wrap IntKind.i64 (IntKind.wrap IntKind.i64 (((i - i0 : Nat) : Int) + (1 : Int)) + z29.1) + i33) = (j : Int))
    (h1 : t ≠ key → Q 2 [.bool b16, .int .i64 (kl : Int), .int .i64 ((lv + 1 : Nat) : Int), .bool false, .int .i64 (j : Int)] w)
    (h2 : t = key → kl = lv ∧ (lv + 1 = keys.length → Q 0 [.int .i64 ((j + 1 : Nat) : Int)] w) ∧ (lv + 1 < keys.length → Q 2 [.bool b16, .int .i64 ((lv + 1 : Nat) : Int), .int .i64 ((lv + 1 : Nat) : Int), .bool true, .int .i64 (j : Int)] w)) :
    sat Tryd.prog (jsonparser_searchKeysConfig.t6 q.1 q.2.1 b16 (kl : Int) ((lv + 1 : Nat) : Int) ((i - i0 : Nat) : Int) z29 i33 ⟨z38, 0, none⟩) Q w := by
  have hlen := hKx.len
  have hlt := (List.getElem?_eq_some_iff.1 hkey).1
  have e1 : IntKind.wrap IntKind.i64 (((lv + 1 : Nat) : Int) - 1) = (lv : Int) := by
    rw [wdn _ (by omega) (by omega)]; rfl
  unfold jsonparser_searchKeysConfig.t6
  rw [e1, hj]
  refine s_iteD (fun _ => s_key hKx hkey ?_) (fun c => absurd c (by omega))
  refine s_call (eq_any hB ht) ?_
  rintro en w2 ⟨rfl, hw⟩
  have hw := hw.symm
  subst hw
  refine ⟨strEq t key, rfl, s_ite (fun c => ?_) (fun c => s_leaf ?_)⟩
  · obtain ⟨g1, g2, g3⟩ := h2 (strEq_iff.1 c)
    subst g1
    refine s_iteE (fun _ => ?_) (fun g => absurd rfl g)
    rw [wup kl (by omega), wup j (by omega)]
    refine s_iteE (fun g => s_leaf (g2 (by omega))) (fun g => s_leaf (g3 (by omega)))
  · exact h1 fun g => by
      have : strEq t key = true := strEq_iff.2 g
      exact absurd (show (true : Bool) = false from this.symm.trans c) (by decide)
/-- A slice's text as a text of its own. -/
theorem Tx.own {a b : Nat} (h : Tx w y s a b) : Tx w y (s.extract a b) 0 (s.extract a b).size := by
  have hz : (s.extract a b).size = b - a := by
    have := h.es
    rw [ByteArray.size_extract]; omega
  obtain ⟨b', o, h1, h2, h3⟩ := h.cell
  refine ⟨by rw [hz]; exact h.len, Nat.zero_le _, Nat.le_refl _, h.cap, b', o, h1, h2, fun j hj => ?_⟩
  have := h.ie
  rw [h3 j (by omega), Nat.zero_add, bt_extract h.es (by omega)]
end Go.Proofs.YtlfebfkphgelfaaDoor.Ka
namespace Go.Proofs.YtlfebfkphgelfaaDoor.Ka
open Go Go.Proofs Go.RowKit Go.Proofs.YtlfebfkphgelfaaDoor.Rx Go.Proofs.YtlfebfkphgelfaaDoor.Tr Go.Proofs.YtlfebfkphgelfaaDoor.Pl Go.Proofs.YtlfebfkphgelfaaDoor.Pw Go.Proofs.YtlfebfkphgelfaaDoor.Sk Go.Proofs.YtlfebfkphgelfaaDoor.Sw

variable {w w' base : World} {x q y : Sl} {s : ByteArray} {i0 i e lv kl k n f : Nat} {r : Option Nat} {last : Bool} {keys : List ByteArray} {z0 z1 : Nat}
theorem kpThen {S' : Nat → Prop} {w0 w w' : World} (h : Kp Off w0 w) (k : Kp S' w w') (hs : ∀ i, i < w0.heap.size → ¬ S' i) : Kp Off w0 w' :=
  ⟨k.os.trans h.os, k.tape.trans h.tape, k.output.trans h.output, Nat.le_trans h.size k.size, fun i hi _ => (k.block i (Nat.lt_of_lt_of_le hi h.size) (hs i hi)).trans (h.block i hi id)⟩
theorem s_new {Q : Nat → List Value → World → Prop} {v : Value} {t : TypeId} {K : Addr → T} (N : Nat) (hN : w.heap.size = N) (hK : ∀ w', Kp Off w w' → Blk w' N [v] t → w'.heap.size = N + 1 → sat Tryd.prog (K ⟨N, 0, none⟩) Q w') : sat Tryd.prog (.alloc (.cells #[v] t (0, 0)) K) Q w := by
  subst hN
  exact s_alloc (hK _ ((Kp.refl Off w).alloc _) (Blk.new w [v] t) (by simp))
theorem t8_any {Q : Nat → List Value → World → Prop} {m : Int} {key : ByteArray} {ns : List (Nat × Nat)} {ks : List PT} {p : PT} (h : SK w x q s i0 e keys m z0 z1) (hs : s.size ≤ 9000000000) (hi : i0 ≤ i) (hl5 : lv ≤ 9000000000) (hK : Kp Off base w)
    (hkey : keys[lv]? = some key) (hk3 : 3 ≤ key.size) (hk5 : key.size ≤ 10000000000)
    (hat : ∀ w, Calls Tryd.prog 74 #[.string (key.extract 1 (key.size - 1))] w fun en w' => en = .returned (.tuple #[.int .i64 (n : Int), .nilIface]) ∧ Kp Off w w')
    (hw : WfV s (.mk 5 i f ns ks)) (hf : f ≤ e) (hp : ks[n]? = some p) (hr : ∀ r', r = some r' → p.b ≤ r' ∧ r' ≤ e)
    (hsub : ∀ (w' : World) (y q' : Sl), Kp Off base w' → Tx w' y s p.b p.e → Kx w' q' (keys.drop (lv + 1)) → Calls Tryd.prog 64 #[cfg m, slV y, slV q'] w' fun en w'' => en = .returned (.int .i64 (ans p.b r)) ∧ Kp Off w' w'')
    (hA : ∀ w', Kp Off base w' → Q 0 [.int .i64 (ans i0 r)] w') :
    sat Tryd.prog (jsonparser_searchKeysConfig.t8 q.1 q.2.1 q.2.2 ⟨z0, 0, none⟩ ⟨z1, 0, none⟩ (lv : Int) ((i - i0 : Nat) : Int) key false) Q w := by
  have hl := h.data.len
  have hes := h.data.es
  have hcap := h.data.cap
  have hlt := (List.getElem?_eq_some_iff.1 hkey).1
  have hkl := h.keys.len
  have hkc := h.keys.cap
  have hn := (List.getElem?_eq_some_iff.1 hp).1
  have hwf := hw.lt
  have hif : i < f := hwf.1
  have hel := Gk.elt_at ks true (i + 1) f n p (Gk.wf_arr hw).2.2.2 hp
  have e1 : IntKind.wrap IntKind.i64 (((key.size : Nat) : Int) - 1) = ((key.size - 1 : Nat) : Int) := wdn key.size hk5 (by omega)
  have e2 : IntKind.wrap IntKind.i64 ((lv : Int) + 1) = ((lv + 1 : Nat) : Int) := wup lv (by omega)
  unfold jsonparser_searchKeysConfig.t8
  rw [e1, e2]
  refine sat_iteF.2 (s_key h.keys hkey (s_chk ⟨by omega, by omega, by omega⟩ ?_))
  rw [Int.toNat_natCast (n := key.size - 1)]
  refine s_call (hat w) ?_
  rintro en w1 ⟨rfl, k1⟩
  refine ⟨((n : Int), Value.nilIface, ()), rfl, ?_⟩
  have h1 := h.kp k1
  have hz0 := h1.c0.lt
  have hz1 := h1.c1.lt
  -- the cells
  refine s_new (t := tI) w1.heap.size rfl fun w2 ka A66 hsz2 => ?_
  refine s_store (A66.cell 0) (A66.free 0) ?_
  have B66 : Blk (w2.setCell ⟨w1.heap.size, 0, none⟩ (.int .i64 (n : Int))) w1.heap.size [.int .i64 (n : Int)] tI := A66.set 0 _
  have kb : Kp Off w1 (w2.setCell ⟨w1.heap.size, 0, none⟩ (.int .i64 (n : Int))) := ka.setNew (a := ⟨w1.heap.size, 0, none⟩) (Nat.le_refl _) _
  have hsz3 : (w2.setCell ⟨w1.heap.size, 0, none⟩ (.int .i64 (n : Int))).heap.size = w1.heap.size + 1 := by simpa [World.setCell] using hsz2
  show sat _ _ _ (w2.setCell ⟨w1.heap.size, 0, none⟩ (.int .i64 (n : Int)))
  generalize w2.setCell ⟨w1.heap.size, 0, none⟩ (.int .i64 (n : Int)) = w3 at B66 kb hsz3
  refine s_chk rfl (s_ite (fun g => absurd (show (false : Bool) = true from g) (by decide)) (fun _ => ?_))
  refine s_new (t := tI) (w1.heap.size + 1) hsz3 fun w4 k4 C67 hsz4 => ?_
  refine s_new (t := tBs) (w1.heap.size + 2) hsz4 fun w5 k5 D68 hsz5 => ?_
  refine s_new (t := tI) (w1.heap.size + 3) hsz5 fun w6 k6 E69 hsz6 => ?_
  refine s_new (t := tI) (w1.heap.size + 4) hsz6 fun w7 k7 F70 hsz7 => ?_
  have F67 := ((k5.trans k6).trans k7).blk C67 id
  have F68 := (k6.trans k7).blk D68 id
  have F69 := k7.blk E69 id
  have k37 := ((k4.trans k5).trans k6).trans k7
  have F66 := k37.blk B66 id
  refine s_store (F70.cell 0) (F70.free 0) ?_
  have k8 : Kp Off w1 (w7.setCell ⟨w1.heap.size + 4, 0, none⟩ (.int .i64 ((i - i0 : Nat) : Int))) := (kb.trans k37).setNew (a := ⟨w1.heap.size + 4, 0, none⟩) (Nat.le_add_right _ _) _
  have G70 : Blk (w7.setCell ⟨w1.heap.size + 4, 0, none⟩ (.int .i64 ((i - i0 : Nat) : Int))) (w1.heap.size + 4) [.int .i64 ((i - i0 : Nat) : Int)] tI := F70.set 0 _
  have G66 := F66.setOther (a := ⟨w1.heap.size + 4, 0, none⟩) (by show w1.heap.size + 4 ≠ w1.heap.size; omega) (.int .i64 ((i - i0 : Nat) : Int))
  have G67 := F67.setOther (a := ⟨w1.heap.size + 4, 0, none⟩) (by show w1.heap.size + 4 ≠ w1.heap.size + 1; omega) (.int .i64 ((i - i0 : Nat) : Int))
  have G68 := F68.setOther (a := ⟨w1.heap.size + 4, 0, none⟩) (by show w1.heap.size + 4 ≠ w1.heap.size + 2; omega) (.int .i64 ((i - i0 : Nat) : Int))
  have G69 := F69.setOther (a := ⟨w1.heap.size + 4, 0, none⟩) (by show w1.heap.size + 4 ≠ w1.heap.size + 3; omega) (.int .i64 ((i - i0 : Nat) : Int))
  generalize w7.setCell ⟨w1.heap.size + 4, 0, none⟩ (.int .i64 ((i - i0 : Nat) : Int)) = w8 at k8 G70 G66 G67 G68 G69
  generalize hN : w1.heap.size = N at *
  refine s_drew ?_
  have kd : Kp Off w8 w8.drew := (Kp.refl Off w8).drew
  have k9 := k8.trans kd
  have h9 := h1.kp k9
  have X9 : IX w8.drew x s i0 e i n ks z1 N (N + 1) (N + 2) (N + 3) (N + 4) 0 := ⟨kd.blk G67 id, kd.blk G66 id, h9.c1, kd.blk G70 id, h9.data, ⟨(none, 0, 0), kd.blk G68 id, fun _ => rfl, fun g => absurd g (Nat.not_lt_zero n)⟩, ⟨0, kd.blk G69 id, fun g => absurd g (Nat.not_lt_zero n)⟩⟩
  generalize w8.drew = w9 at kd k9 h9 X9
  refine s_effS (false, false, m, ()) (cfg_run h9.c0) (s_load x (h9.c1.cell 0) (s_chk ⟨by omega, by omega, by omega⟩ ?_))
  have hfa := find_any (m := m) X9 hs hi hw hf ⟨hz1, Nat.lt_succ_self N, Nat.lt_succ_self _, Nat.lt_succ_self _, Nat.lt_succ_self _⟩
  rw [Int.toNat_natCast, Int.toNat_natCast]
  refine s_call hfa ?_
  rintro en wa ⟨rfl, Xa, ka'⟩
  refine ⟨(((f - 1 - i : Nat) : Int), Value.nilIface, ()), rfl, ?_⟩
  obtain ⟨ya, ya1, _, ya3⟩ := Xa.c68
  obtain ⟨va, va1, va3⟩ := Xa.c69
  obtain ⟨pa, pa1, pa2, _⟩ := ya3 hn
  rw [hp] at pa1
  cases pa1
  obtain ⟨pb, pb1, pb2⟩ := va3 hn
  rw [hp] at pb1
  cases pb1
  subst pb2
  have K1a : Kp Off w1 wa := kpThen k9 ka' fun j hj c => by
    rw [hN] at hj
    rcases c with c | c | c <;> omega
  have ha := h1.kp K1a
  obtain ⟨bb, oo, hb1', _, _⟩ := pa2.cell
  refine s_load ya (ya1.cell 0) ?_
  refine s_ite (fun g => absurd (show (ya.1.isNone : Bool) = true from g) (by rw [hb1']; simp)) (fun _ => s_drew ?_)
  have kd2 : Kp Off wa wa.drew := (Kp.refl Off wa).drew
  have hd := ha.kp kd2
  have yd := kd2.blk ya1 id
  have vd := kd2.blk va1 id
  have Td := pa2.kp kd2
  generalize wa.drew = wd at kd2 hd yd vd Td
  refine s_effS (false, false, m, ()) (cfg_run hd.c0) (s_load ya (yd.cell 0) (s_chk ⟨by omega, by omega, by omega⟩ ?_))
  have hdr := hd.keys.drop (lv + 1) hlt
  have hc := hsub wd ya _ (((hK.trans k1).trans K1a).trans kd2) Td hdr
  rw [Int.toNat_natCast, Int.toNat_natCast]
  refine s_call hc ?_
  rintro en we ⟨rfl, ke⟩
  have kA := ((hK.trans k1).trans K1a).trans (kd2.trans ke)
  cases r with
  | none => exact ⟨(-1 : Int), rfl, s_iteD (fun _ => s_leaf (hA we kA)) (fun g => absurd (by decide) g)⟩
  | some r =>
  obtain ⟨hr, hr5⟩ := hr r rfl
  refine ⟨((r - p.b : Nat) : Int), rfl, s_iteD (fun g => absurd g (by omega)) (fun _ => ?_)⟩
  refine s_load ((p.b - i : Nat) : Int) ((ke.blk vd id).cell 0) (s_leaf ?_)
  have hip : i ≤ p.b := by omega
  rw [ce3 hi hip (by omega), wad _ _ (by omega)]
  have : p.b - i0 + (r - p.b) = r - i0 := by omega
  rw [this]
  exact hA we kA
end Go.Proofs.YtlfebfkphgelfaaDoor.Ka
namespace Go.Proofs.YtlfebfkphgelfaaDoor.Ka
open Go Go.Proofs Go.RowKit Go.Proofs.YtlfebfkphgelfaaDoor.Rx Go.Proofs.YtlfebfkphgelfaaDoor.Tr Go.Proofs.YtlfebfkphgelfaaDoor.Pl Go.Proofs.YtlfebfkphgelfaaDoor.Pw Go.Proofs.YtlfebfkphgelfaaDoor.Sk Go.Proofs.YtlfebfkphgelfaaDoor.Sw

variable {w w' base : World} {x q y : Sl} {s : ByteArray} {i0 i e lv kl k n f : Nat} {last : Bool} {keys : List ByteArray} {z0 z1 : Nat}
theorem t7_any {Q : Nat → List Value → World → Prop} {m : Int} {b16 : Bool} {key : ByteArray} (h : SK w x q s i0 e keys m z0 z1) (hkey : keys[lv]? = some key) (hk3 : 3 ≤ key.size) (hk5 : key.size ≤ 10000000000) (h93 : bt key ((key.size - 1 : Nat) : Int) = 93)
    (hK : sat Tryd.prog (jsonparser_searchKeysConfig.t8 q.1 q.2.1 q.2.2 ⟨z0, 0, none⟩ ⟨z1, 0, none⟩ (lv : Int) ((i - i0 : Nat) : Int) key false) Q w) :
    sat Tryd.prog (jsonparser_searchKeysConfig.t7 q.1 q.2.1 q.2.2 ⟨z0, 0, none⟩ ⟨z1, 0, none⟩ b16 (kl : Int) (lv : Int) last ((i - i0 : Nat) : Int) true) Q w := by
  have e1 : IntKind.wrap IntKind.i64 (((key.size : Nat) : Int) - 1) = ((key.size - 1 : Nat) : Int) := wdn key.size hk5 (by omega)
  unfold jsonparser_searchKeysConfig.t7
  refine sat_iteT.2 (s_key h.keys hkey ?_)
  refine s_cut (fun z w' => z = (false, ()) ∧ w = w') (s_key h.keys hkey (s_iteD (fun c => absurd c (by omega)) (fun _ => s_key h.keys hkey ?_))) ?_
  · rw [e1]
    refine s_chk ⟨by omega, by omega⟩ (s_leaf ?_)
    rw [if_pos rfl, h93]
    exact ⟨(false, ()), rfl, rfl, rfl⟩
  · rintro z w' ⟨rfl, rfl⟩
    exact hK
end Go.Proofs.YtlfebfkphgelfaaDoor.Ka
namespace Go.Proofs.YtlfebfkphgelfaaDoor.Ka
open Go Go.Proofs Go.RowKit Go.Proofs.YtlfebfkphgelfaaDoor.Rx Go.Proofs.YtlfebfkphgelfaaDoor.Pl Go.Proofs.YtlfebfkphgelfaaDoor.Pw Go.Proofs.YtlfebfkphgelfaaDoor.Sk

variable {s : ByteArray} {i e lv kl : Nat} {r : Option Nat} {last : Bool} {keys : List ByteArray} {nm : Nat × Nat → ByteArray} {ix : ByteArray → Option Nat}
/-- At a quotation mark: a value, or a name; and what follows of either. -/
theorem Go.inv_str (h : Gk.Go s nm ix e keys i lv kl last r) (hc : bt s (i : Int) = 34) : ∃ k, QE s (i + 1) k ∧ bl s (i + 1 + k + 1) < e ∧
    ((bt s (bl s (i + 1 + k + 1) : Int) ≠ 58 ∧ Gk.Go s nm ix e keys (bl s (i + 1 + k + 1)) lv kl last r) ∨
    (bt s (bl s (i + 1 + k + 1) : Int) = 58 ∧ strE s (i + 1) = some (i + 1 + k + 1) ∧ ∃ l key, lv = l + 1 ∧ keys[l]? = some key ∧
      ((nm (i, i + 1 + k + 1) ≠ key ∧ Gk.Go s nm ix e keys (bl s (i + 1 + k + 1) + 1) (l + 1) kl false r) ∨
      (nm (i, i + 1 + k + 1) = key ∧ kl = l ∧ (l + 1 < keys.length → Gk.Go s nm ix e keys (bl s (i + 1 + k + 1) + 1) (l + 1) (l + 1) true r) ∧ (l + 1 = keys.length → r = some (bl s (i + 1 + k + 1) + 1)))))) := by
  cases h with
  | skip _ g => exact absurd hc g
  | strv _ g1 g2 g3 g4 => exact ⟨_, g1, g2, .inl ⟨g3, g4⟩⟩
  | keyN _ g1 g2 g3 g4 g5 g6 g7 => exact ⟨_, g1, g3, .inr ⟨g4, g2, _, _, rfl, g5, .inl ⟨g6, g7⟩⟩⟩
  | keyM _ g1 g2 g3 g4 g5 g6 g7 g8 => exact ⟨_, g1, g3, .inr ⟨g4, g2, _, _, rfl, g5, .inr ⟨g6, rfl, fun _ => g8, fun g => by omega⟩⟩⟩
  | keyL _ g1 g2 g3 g4 g5 g6 g7 => exact ⟨_, g1, g3, .inr ⟨g4, g2, _, _, rfl, g5, .inr ⟨g6, rfl, fun g => by omega, fun _ => rfl⟩⟩⟩
  | opn _ g => omega
  | blk g => omega
  | arr g => omega
  | idx0 _ _ g => have := (Gk.wf_arr g).2.2.1; omega
  | idxS _ _ g => have := (Gk.wf_arr g).2.2.1; omega
  | cls _ g => omega
  | clsE _ g => omega
end Go.Proofs.YtlfebfkphgelfaaDoor.Ka
namespace Go.Proofs.YtlfebfkphgelfaaDoor.Ka
open Go Go.Proofs Go.RowKit Go.Proofs.YtlfebfkphgelfaaDoor.Rx Go.Proofs.YtlfebfkphgelfaaDoor.Tr Go.Proofs.YtlfebfkphgelfaaDoor.Pl Go.Proofs.YtlfebfkphgelfaaDoor.Pw Go.Proofs.YtlfebfkphgelfaaDoor.Sk Go.Proofs.YtlfebfkphgelfaaDoor.Sw

variable {w w' base : World} {x q : Sl} {s : ByteArray} {i0 i e l kl k : Nat} {r : Option Nat} {last : Bool} {keys : List ByteArray} {nm : Nat × Nat → ByteArray} {ix : ByteArray → Option Nat} {z0 z1 : Nat} {z3 : Addr}
theorem k_name {Q : Nat → List Value → World → Prop} {m : Int} {b16 : Bool} {key : ByteArray} (h : SK w x q s i0 e keys m z0 z1) (hs : s.size ≤ 9000000000) (hi : i0 ≤ i) (hlv : l + 1 ≤ i) (hK : Kp Off base w) (h34 : bt s (i : Int) = 34) (hb16 : b16 = true)
    (hq : QE s (i + 1) k) (hb : bl s (i + 1 + k + 1) < e) (h58 : bt s (bl s (i + 1 + k + 1) : Int) = 58) (hesc : esc s (i + 1) k = false) (hkey : keys[l]? = some key)
    (hG : (s.extract (i + 1) (i + 1 + k) ≠ key ∧ Gk.Go s nm ix e keys (bl s (i + 1 + k + 1) + 1) (l + 1) kl false r) ∨
      (s.extract (i + 1) (i + 1 + k) = key ∧ kl = l ∧ (l + 1 < keys.length → Gk.Go s nm ix e keys (bl s (i + 1 + k + 1) + 1) (l + 1) (l + 1) true r) ∧ (l + 1 = keys.length → r = some (bl s (i + 1 + k + 1) + 1))))
    (hA : ∀ w', Kp Off base w' → Q 0 [.int .i64 (ans i0 r)] w')
    (hN : ∀ i' lv' kl' last' w', i < i' → lv' ≤ i' → Gk.Go s nm ix e keys i' lv' kl' last' r → SK w' x q s i0 e keys m z0 z1 → Kp Off base w' → Q 1 [.int .i64 ((i' - i0 : Nat) : Int), .int .i64 (kl' : Int), .int .i64 (lv' : Int), .bool last'] w') :
    sat Tryd.prog (jsonparser_searchKeysConfig.t4 q.1 q.2.1 q.2.2 ⟨z0, 0, none⟩ ⟨z1, 0, none⟩ z3 (bt s (i : Int)) b16 (kl : Int) ((l + 1 : Nat) : Int) last ((i - i0 : Nat) : Int)) Q w := by
  subst hb16
  have hl := h.data.len
  have hes := h.data.es
  have hcap := h.data.cap
  have hge := bl_ge s (i + 1 + k + 1)
  have e1 : IntKind.wrap IntKind.i64 (((i - i0 : Nat) : Int) + (1 : Int)) = ((i + 1 - i0 : Nat) : Int) := by
    rw [wup _ (by omega)]
    have : i - i0 + 1 = i + 1 - i0 := by omega
    rw [this]
  have e2 : IntKind.wrap IntKind.i64 (IntKind.wrap IntKind.i64 (((i - i0 : Nat) : Int) + (1 : Int)) + ((k + 1 : Nat) : Int)) = ((i + 1 + k + 1 - i0 : Nat) : Int) := by
    rw [e1, wad _ _ (by omega)]
    have : i + 1 - i0 + (k + 1) = i + 1 + k + 1 - i0 := by omega
    rw [this]
  have e3 : IntKind.wrap IntKind.i64 (IntKind.wrap IntKind.i64 (IntKind.wrap IntKind.i64 (((i - i0 : Nat) : Int) + (1 : Int)) + ((k + 1 : Nat) : Int)) + ((bl s (i + 1 + k + 1) - (i + 1 + k + 1) : Nat) : Int)) = ((bl s (i + 1 + k + 1) - i0 : Nat) : Int) := by
    rw [e2, wad _ _ (by omega)]
    have : i + 1 + k + 1 - i0 + (bl s (i + 1 + k + 1) - (i + 1 + k + 1)) = bl s (i + 1 + k + 1) - i0 := by omega
    rw [this]
  have e5 : IntKind.wrap IntKind.i64 (IntKind.wrap IntKind.i64 (IntKind.wrap IntKind.i64 (((i - i0 : Nat) : Int) + (1 : Int)) + ((k + 1 : Nat) : Int)) - 1) = ((i + 1 + k - i0 : Nat) : Int) := by
    rw [e2, wdn _ (by omega) (by omega)]
    have : i + 1 + k + 1 - i0 - 1 = i + 1 + k - i0 := by omega
    rw [this]
  have ei : i0 + (i - i0) = i := by omega
  unfold jsonparser_searchKeysConfig.t4
  refine s_cut (fun z w' => ∃ (b : Bool) (i' lv' kl' : Nat) (last' : Bool), z = (b, (kl' : Int), (lv' : Int), last', ((i' - 1 - i0 : Nat) : Int), ()) ∧ i < i' ∧ lv' ≤ i' ∧ Gk.Go s nm ix e keys i' lv' kl' last' r ∧ SK w' x q s i0 e keys m z0 z1 ∧ Kp Off base w') (sat_iteT.2 ?_) ?_
  · refine s_load x (h.c1.cell 0) (s_at h.data (by omega) ?_)
    rw [ei]
    refine s_cut (fun z w' => z = (false, ()) ∧ w = w') (s_iteE (fun g => absurd g (by omega)) (fun _ => s_leaf ?_)) ?_
    · rw [if_pos rfl]; exact ⟨(false, ()), rfl, rfl, rfl⟩
    · rintro z w' ⟨rfl, rfl⟩
      show sat _ (jsonparser_searchKeysConfig.t5 q.1 q.2.1 ⟨z0, 0, none⟩ ⟨z1, 0, none⟩ z3 true (kl : Int) ((l + 1 : Nat) : Int) last ((i - i0 : Nat) : Int) (bt s (i : Int)) false) _ _
      rw [h34]
      unfold jsonparser_searchKeysConfig.t5
      refine sat_iteF.2 (str_pre h hs hi rfl hq hb fun w4 k4 h4 => ?_)
      refine s_load x (h4.c1.cell 0) (s_atI h4.data e3 (by omega) ?_)
      rw [show i0 + (bl s (i + 1 + k + 1) - i0) = bl s (i + 1 + k + 1) by omega]
      refine s_iteE (fun _ => ?_) (fun g => absurd h58 g)
      refine s_iteD (fun g => absurd g (by omega)) (fun _ => s_load x (h4.c1.cell 0) ?_)
      rw [hesc, e5, e1]
      refine s_chk ⟨by omega, by omega, by omega⟩ ?_
      rw [Int.toNat_natCast, Int.toNat_natCast]
      refine s_new (t := tBs) w4.heap.size rfl fun w5 k5 B5 _ => ?_
      have h5 := h4.kp k5
      have hS := h5.data.sub (k := i + 1) (f := i + 1 + k) (by omega) (by omega) (by omega)
      rw [show i + 1 + k - (i + 1) = i + 1 + k - i0 - (i + 1 - i0) by omega] at hS
      refine s_cut (fun _ w' => Kp Off w4 w' ∧ Kp (On w4.heap.size) w5 w' ∧ Blk w' w4.heap.size [slV ((if x.2.2 = i + 1 - i0 then x.1 else x.1.map fun y => y.add ((i + 1 - i0) * 1)), i + 1 + k - i0 - (i + 1 - i0), x.2.2 - (i + 1 - i0))] tBs) (s_ite (fun _ => s_store (B5.cell 0) (B5.free 0) (s_leaf ?_)) (fun g => absurd (show (true : Bool) = false from g) (by decide))) ?_
      · rw [if_pos rfl]
        exact ⟨(), rfl, k5.setNew (a := ⟨w4.heap.size, 0, none⟩) (Nat.le_refl _) _, (Kp.refl _ w5).on 0 _, B5.set 0 _⟩
      · rintro _ w6 ⟨k6, k56, B6⟩
        have h6 := h4.kp k6
        have hS6 := h6.data.sub (k := i + 1) (f := i + 1 + k) (by omega) (by omega) (by omega)
        rw [show i + 1 + k - (i + 1) = i + 1 + k - i0 - (i + 1 - i0) by omega] at hS6
        refine t6_any (j := bl s (i + 1 + k + 1) - i0) h6.keys (by omega) (by omega) B6 hS6.toStr hkey e3 (fun g => ?_) (fun g => ?_)
        · rw [if_pos rfl]
          rcases hG with ⟨_, g2⟩ | ⟨g1, _⟩
          · exact ⟨(true, (kl : Int), ((l + 1 : Nat) : Int), false, ((bl s (i + 1 + k + 1) - i0 : Nat) : Int), ()), rfl, true, bl s (i + 1 + k + 1) + 1, l + 1, kl, false, rfl, by omega, by omega, g2, h6, (hK.trans k4).trans k6⟩
          · exact absurd g1 g
        · rcases hG with ⟨g1, _⟩ | ⟨_, g2, g3, g4⟩
          · exact absurd g g1
          · refine ⟨g2, fun g5 => ?_, fun g5 => ?_⟩
            · rw [if_neg (by decide)]
              have hr := g4 g5
              have e7 : bl s (i + 1 + k + 1) - i0 + 1 = bl s (i + 1 + k + 1) + 1 - i0 := by omega
              rw [e7]
              subst hr
              exact hA w6 ((hK.trans k4).trans k6)
            · rw [if_pos rfl]
              exact ⟨(true, ((l + 1 : Nat) : Int), ((l + 1 : Nat) : Int), true, ((bl s (i + 1 + k + 1) - i0 : Nat) : Int), ()), rfl, true, bl s (i + 1 + k + 1) + 1, l + 1, l + 1, true, rfl, by omega, by omega, g3 g5, h6, (hK.trans k4).trans k6⟩
  · rintro z w' ⟨b, i', lv', kl', last', rfl, g1, g2, g3, g4, g5⟩
    show sat _ (jsonparser_searchKeysConfig.t9 (kl' : Int) (lv' : Int) last' ((i' - 1 - i0 : Nat) : Int)) _ _
    unfold jsonparser_searchKeysConfig.t9
    refine s_leaf ?_
    have := Go.lt g3
    rw [wup _ (by omega)]
    have : i' - 1 - i0 + 1 = i' - i0 := by omega
    rw [this]
    exact hN i' lv' kl' last' w' g1 g2 g3 g4 g5
end Go.Proofs.YtlfebfkphgelfaaDoor.Ka
