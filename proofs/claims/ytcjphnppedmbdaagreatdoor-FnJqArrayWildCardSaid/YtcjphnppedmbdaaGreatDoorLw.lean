/- jsonparser's ArrayEachErr over an array that keys lead to, whatever it calls back (the call back gives no error). No statement of the set is proved here. -/
import Derived.Test.YtcjphnppedmbdaaGreatDoorMI
import Derived.Test.YtcjphnppedmbdaaGreatDoorTa
namespace Go.Proofs.YtcjphnppedmbdaaGreatDoor.Ka
open Go Go.Proofs Go.RowKit Go.Proofs.YtcjphnppedmbdaaGreatDoor.Rx Go.Proofs.YtcjphnppedmbdaaGreatDoor.Tr Go.Proofs.YtcjphnppedmbdaaGreatDoor.Pl Go.Proofs.YtcjphnppedmbdaaGreatDoor.Pw Go.Proofs.YtcjphnppedmbdaaGreatDoor.Sk Go.Proofs.YtcjphnppedmbdaaGreatDoor.Sw

variable {w w' : World} {x q : Sl} {s : ByteArray} {i e : Nat} {keys : List ByteArray} {p0 p : PT} {S : Nat → Prop}
theorem cv_run (hC : Je.Cv w) : (Instr.loadAt 100 (.pointer (some ⟨0, 0, none⟩))).run Tryz.prog w = .ok (cfg 0) w :=
  Je.loadAt_cells (cs := Je.cfg) (by kernel_rfl) (info_some (by kernel_rfl)) (by kernel_rfl) (fun j v hj => by rw [addr_add, Nat.zero_add]; exact hC j v hj)
theorem Cv.kpS (h : Je.Cv w) (k : Kp S w w') (hS : ¬ S Je.gC) : Je.Cv w' := fun j v hj => by
  have h1 := h j v hj
  rw [k.cell (Ms.cell_lt h1) hS]; exact h1
theorem nextToken_any (hC : Je.Cv w) (h : Tx w x s i e) (hs : s.size ≤ 1000000) (hb : bl s i < e) :
    Calls Tryz.prog 84 #[slV x] w fun en w' => en = .returned (.int .i64 ((bl s i - i : Nat) : Int)) ∧ Kp Off w w' := by
  refine jsonparser_nextToken.calls _ _ _ ?_
  unfold jsonparser_nextToken.t
  refine s_eff (w' := w) (false, false, (0 : Int), ()) (cv_run hC) ?_
  refine s_call (next_any (m := 0) h hs hb) ?_
  rintro en w1 ⟨rfl, k1⟩
  exact ⟨((bl s i - i : Nat) : Int), rfl, s_leaf ⟨rfl, rfl, k1⟩⟩
theorem searchKeys_any {r i0 : Nat} (hs : s.size ≤ 65536) (hC : Je.Cv w) (hL : Je.Lt w) (hE : Je.Ev w Je.gE) (hT : Tx w x s i0 e) (hKx : Kx w q keys) (hG : (keys = [] ∧ r = i0) ∨ (keys ≠ [] ∧ Gk.Go s (nmS s) ixS e keys i0 0 0 true r)) :
    Calls Tryz.prog 108 #[slV x, slV q] w fun en w'' => en = .returned (.int .i64 ((r - i0 : Nat) : Int)) ∧ Kp Off w w'' := by
  refine jsonparser_searchKeys.calls _ _ _ _ _ _ ?_
  unfold jsonparser_searchKeys.t
  refine s_eff (w' := w) (false, false, (0 : Int), ()) (cv_run hC) ?_
  refine s_call (search_any hs hL hE hT hKx hG) ?_
  rintro en w1 ⟨rfl, k1⟩
  exact ⟨((r - i0 : Nat) : Int), rfl, s_leaf ⟨rfl, rfl, k1⟩⟩
/-- Get without keys: the value that stands there. -/
theorem get0g_any {q : Option Addr} {c : Nat} (hC : Je.Cv w) (h : Tx w x s i e) (hs : s.size ≤ 100000) (hw : WfV s p) (hp : bl s i = p.b) (hf : p.e ≤ e) (hbe : p.e = e ∨ isE (bt s (p.e : Int))) :
    Calls Tryz.prog 39 #[slV x, .slice q 0 c] w fun en w' => ∃ y : Sl, en = .returned (.tuple #[slV y, .int .i64 (jk p.k), .int .i64 ((p.e - i : Nat) : Int), .nilIface]) ∧ Tx w' y s (rb p) (re p) ∧ y.2.2 = y.2.1 ∧ Kp Off w w' := by
  refine jsonparser_Get.calls _ _ _ _ _ _ ?_
  unfold jsonparser_Get.t
  have ig : Calls Tryz.prog 62 #[slV x, .slice q 0 c] w (GR w s i p) := by
    refine jsonparser_internalGet.calls _ _ _ _ _ _ ?_
    unfold jsonparser_internalGet.t
    refine s_eff (w' := w) (false, false, (0 : Int), ()) (cv_run hC) ?_
    refine s_call (get0_any (m := 0) h hs hw hp hf hbe) ?_
    rintro en w1 ⟨y, rfl, h1, h2, k1⟩
    exact ⟨(y, jk p.k, ((p.b - i : Nat) : Int), ((p.e - i : Nat) : Int), Value.nilIface, ()), rfl, s_leaf ⟨rfl, y, rfl, h1, h2, k1⟩⟩
  refine s_call ig ?_
  rintro en w1 ⟨y, rfl, h1, h2, k1⟩
  exact ⟨(y, jk p.k, ((p.b - i : Nat) : Int), ((p.e - i : Nat) : Int), Value.nilIface, ()), rfl, s_leaf ⟨rfl, y, rfl, h1, h2, k1⟩⟩
/-- The loop. -/
theorem errl_any {Q : Nat → List Value → World → Prop} {base : World} {cf : FuncId} {first caps : Array Value} {Inv : Nat → World → Prop} {all : List PT} {f : Nat} (hg : goB Tryz.prog cf = true) (hs : s.size ≤ 100000) (hf : f ≤ e) (hal : all.length ≤ 100000)
    (hSc : ¬ S Je.gC) (hxS : ∀ q, TB x q → ¬ S q) (hst : ∀ k w w', Inv k w → Kp Off w w' → Inv k w')
    (hcb : ∀ (k : Nat) (w' : World) (y : Sl) (p : PT), all[k]? = some p → Kp S base w' → Inv k w' → Tx w' y s (rb p) (re p) → WfV s p →
      Calls Tryz.prog cf (first ++ #[slV y, .int .i64 (jk p.k), .int .i64 ((p.e - i - (re p - rb p) : Nat) : Int), .nilIface] ++ caps) w' fun en w'' => en = .returned .nilIface ∧ Inv (k + 1) w'' ∧ Kp S w' w'')
    (hQ : ∀ w', Kp S base w' → Inv all.length w' → Q 0 [.int .i64 ((f - 1 - i : Nat) : Int), .int .i64 (all.length : Int), .nilIface] w') :
    ∀ (w : World) (c : Nat), Tx w x s i e → Rem s c f all → i ≤ c → Kp S base w → Inv 0 w → Je.Cv w →
      sat Tryz.prog (.loop 1 (.cons (.int .i64) (.cons (.int .i64) .nil)) [(Value.int IntKind.i64 0), (Value.int IntKind.i64 ((c - i : Nat) : Int))] (fun z => jsonparser_arrayEachErr.t3 x.1 x.2.1 x.2.2 (.func (.func cf) first caps) z.1 z.2.1)) Q w := by
  intro w c h hR hic hK hI hB
  refine s_loop (fun n z w' => ∃ c k : Nat, n = all.length - k ∧ z = ((k : Int), ((c - i : Nat) : Int), ()) ∧ Tx w' x s i e ∧ Rem s c f (all.drop k) ∧ i ≤ c ∧ Kp S base w' ∧ Inv k w' ∧ Je.Cv w') all.length ((0 : Int), ((c - i : Nat) : Int), ()) rfl ⟨c, 0, rfl, rfl, h, hR, hic, hK, hI, hB⟩ ?_
  clear h hR hic hK hI hB
  rintro n z w1 ⟨c, k, rfl, rfl, h, hR, hic, hK, hI, hB⟩
  show sat _ (jsonparser_arrayEachErr.t3 x.1 x.2.1 x.2.2 (.func (.func cf) first caps) (k : Int) ((c - i : Nat) : Int)) _ _
  obtain ⟨p, rest, hd⟩ : ∃ p rest, all.drop k = p :: rest := by
    cases hh : all.drop k with
    | nil => rw [hh] at hR; exact hR.elim
    | cons p rest => exact ⟨p, rest, rfl⟩
  rw [hd] at hR
  obtain ⟨hb, hw, hE⟩ := hR
  have hk : all[k]? = some p := by
    have := congrArg (·[0]?) hd
    simpa using this
  have hklt : k < all.length := (List.getElem?_eq_some_iff.1 hk).1
  have hd1 : all.drop (k + 1) = rest := by
    have := congrArg (List.drop 1) hd
    simpa [List.drop_drop] using this
  have hlt := hw.lt
  have hge := bl_ge s c
  have hpe := Gk.wfE_le _ _ _ _ hE
  have hbp := bl_ge s p.e
  have hes := h.es
  have hl := h.len
  have hcap := h.cap
  have hch : (rest = [] ∧ bt s (bl s p.e : Int) = 93 ∧ f = bl s p.e + 1) ∨ (rest ≠ [] ∧ bt s (bl s p.e : Int) = 44 ∧ Rem s (bl s p.e + 1) f rest ∧ bl s p.e < f) := by
    cases rest with
    | nil => unfold WfE at hE; exact .inl ⟨rfl, hE⟩
    | cons q rest =>
      unfold WfE at hE
      obtain ⟨h0, hv, hE2⟩ := hE
      have h0 : bt s (bl s p.e : Int) = 44 ∧ q.b = bl s (bl s p.e + 1) := h0
      have a1 := Gk.wfE_le _ _ _ _ hE2
      have a2 := hv.lt
      have a3 := bl_ge s (bl s p.e + 1)
      exact .inr ⟨by simp, h0.1, ⟨h0.2.symm, hv, hE2⟩, by omega⟩
  have hbe : isE (bt s (p.e : Int)) := isE_behind (by rcases hch with ⟨_, g, _⟩ | ⟨_, g, _⟩ <;> omega)
  have hbf : bl s p.e < f := by rcases hch with ⟨_, _, g⟩ | ⟨_, _, _, g⟩ <;> omega
  have offS : ∀ {v v' : World}, Kp Off v v' → Kp S v v' := fun k' => k'.off
  unfold jsonparser_arrayEachErr.t3
  refine s_chk ⟨by omega, by omega, by omega⟩ ?_
  have hfr := h.from (c - i) (by omega)
  rw [show i + (c - i) = c by omega] at hfr
  have hfe : p.e ≤ e := by omega
  have hcg := get0g_any (q := none) (c := 0) hB hfr hs hw hb hfe (.inr hbe)
  rw [Int.toNat_natCast, Int.toNat_natCast]
  refine s_call hcg ?_
  rintro en w3 ⟨y, rfl, hT, hy, k3⟩
  refine ⟨(y, jk p.k, ((p.e - c : Nat) : Int), Value.nilIface, ()), rfl, ?_⟩
  refine s_iteE (fun g => absurd g (by show ¬ ((p.e - c : Nat) : Int) = 0; omega)) (fun _ => ?_)
  have hI3 := hst _ _ _ hI k3
  have hK3 := hK.trans (offS k3)
  have hB3 := hB.off k3
  have h3 := h.kp k3
  have ylen := hT.len
  have hrb : p.b ≤ rb p ∧ rb p ≤ re p ∧ re p ≤ p.e := by
    unfold rb re
    split
    · have := str_len hw (by assumption); omega
    · omega
  have e0 : IntKind.wrap IntKind.i64 (((c - i : Nat) : Int) + ((p.e - c : Nat) : Int)) = ((p.e - i : Nat) : Int) := by
    rw [wad _ _ (by omega)]
    have : c - i + (p.e - c) = p.e - i := by omega
    rw [this]
  have e1 : IntKind.wrap IntKind.i64 (((p.e - i : Nat) : Int) - ((y.2.1 : Nat) : Int)) = ((p.e - i - (re p - rb p) : Nat) : Int) := by
    rw [wsu _ _ (by omega) (by omega), ylen]
  refine ⟨cf, first, caps, rfl, hg, ?_⟩
  have hc := hcb k w3 y p hk hK3 hI3 hT hw
  rw [← e1, ← e0] at hc
  refine Calls.mono hc ?_
  rintro en w4 ⟨rfl, hI4, k4⟩
  refine ⟨Value.nilIface, rfl, s_chk rfl (s_ite (fun g => absurd (show (false : Bool) = true from g) (by decide)) (fun _ => s_chk rfl (s_ite (fun g => absurd (show (false : Bool) = true from g) (by decide)) (fun _ => ?_))))⟩
  have h4 := h3.kpS k4 hxS
  have hB4 := Cv.kpS hB3 k4 hSc
  have hK4 := hK3.trans k4
  have hcap4 := h4.cap
  have wk : IntKind.wrap IntKind.i64 ((k : Int) + 1) = ((k + 1 : Nat) : Int) := wup k (by omega)
  show sat Tryz.prog (.chk (((0 : Int) ≤ (IntKind.wrap IntKind.i64 (((c - i : Nat) : Int) + ((p.e - c : Nat) : Int)))) ∧ _) _) _ w4
  rw [e0]
  refine s_chk ⟨by omega, by omega, by omega⟩ ?_
  have hfr5 := h4.from (p.e - i) (by omega)
  rw [show i + (p.e - i) = p.e by omega] at hfr5
  have hble : bl s p.e < e := by omega
  have hnx := nextToken_any hB4 hfr5 (by omega) hble
  rw [Int.toNat_natCast]
  refine s_call hnx ?_
  rintro en w6 ⟨rfl, k6⟩
  refine ⟨((bl s p.e - p.e : Nat) : Int), rfl, s_iteE (fun g => absurd g (by omega)) (fun _ => ?_)⟩
  have hI6 := hst _ _ _ hI4 k6
  have hK6 := hK4.trans (offS k6)
  have hB6 := hB4.off k6
  have h6 := h4.kp k6
  have e2 : IntKind.wrap IntKind.i64 (((p.e - i : Nat) : Int) + ((bl s p.e - p.e : Nat) : Int)) = ((bl s p.e - i : Nat) : Int) := by
    rw [wad _ _ (by omega)]
    have : p.e - i + (bl s p.e - p.e) = bl s p.e - i := by omega
    rw [this]
  rw [e2, wk]
  have ei : i + (bl s p.e - i) = bl s p.e := by omega
  refine s_at h6 (by omega) ?_
  rw [ei]
  rcases hch with ⟨hr, h93, hf1⟩ | ⟨hr, h44, hRem, _⟩
  · refine s_iteE (fun _ => s_leaf ?_) (fun g => absurd h93 g)
    rw [if_neg (by decide)]
    subst hr
    have hlen : all.length = k + 1 := by
      have := congrArg List.length hd
      rw [List.length_drop] at this
      simp at this; omega
    have : bl s p.e - i = f - 1 - i := by omega
    rw [this, ← hlen]
    exact hQ w6 hK6 (by rw [hlen]; exact hI6)
  · refine s_iteE (fun g => absurd (h44.symm.trans g) (by decide)) (fun _ => s_at h6 (by omega) ?_)
    rw [ei]
    refine s_iteN (fun g => absurd h44 g) (fun _ => s_leaf ?_)
    rw [if_pos rfl, wup _ (by omega)]
    have : bl s p.e - i + 1 = bl s p.e + 1 - i := by omega
    rw [this]
    exact ⟨all.length - (k + 1), (((k + 1 : Nat) : Int), ((bl s p.e + 1 - i : Nat) : Int), ()), rfl, by omega, bl s p.e + 1, k + 1, rfl, rfl, h6, by rw [hd1]; exact hRem, by omega, hK6, hI6, hB6⟩
/-- ArrayEachErr by keys that lead to an array. -/
theorem eachErr_any {cf : FuncId} {first caps : Array Value} {Inv : Nat → World → Prop} (hg : goB Tryz.prog cf = true) (hs : s.size ≤ 65536) (hC : Je.Cv w) (hL : Je.Lt w) (hE : Je.Ev w Je.gE) (hT : Tx w x s 0 s.size) (hKx : Kx w q keys) (h : Led s p0 keys p) (hp5 : p.k = 5)
    (hSc : ¬ S Je.gC) (hxS : ∀ q, TB x q → ¬ S q) (hst : ∀ k w w', Inv k w → Kp Off w w' → Inv k w')
    (hcb : ∀ (k : Nat) (w' : World) (y : Sl) (c : PT), p.ks[k]? = some c → Kp S w w' → Inv k w' → Tx w' y s (rb c) (re c) → WfV s c →
      Calls Tryz.prog cf (first ++ #[slV y, .int .i64 (jk c.k), .int .i64 ((c.e - 0 - (re c - rb c) : Nat) : Int), .nilIface] ++ caps) w' fun en w'' => en = .returned .nilIface ∧ Inv (k + 1) w'' ∧ Kp S w' w'')
    (hI : Inv 0 w) :
    Calls Tryz.prog 94 #[slV x, .func (.func cf) first caps, slV q] w fun en w' =>
      (∃ n : Int, en = .returned (.tuple #[.int .i64 n, .int .i64 (p.ks.length : Int), .nilIface])) ∧ Inv p.ks.length w' ∧ Kp S w w' := by
  obtain ⟨r, hr1, hr2, hr3⟩ := h.find
  have hl := hKx.len
  have hxl := hT.len
  have hxc := hT.cap
  have hwp := (Lead.wf h.lead h.wf)
  have hpl := hwp.1.lt
  have hp0 := h.wf.lt
  have h00 := h.at0
  have hgr := bl_ge s r
  obtain ⟨k, b, f, ns, ks⟩ := p
  have hk : k = 5 := hp5
  subst hk
  obtain ⟨a1, a2, a3, a4⟩ := Gk.wf_arr hwp.1
  have hr2 : bl s r = b := hr2
  have hfs : f ≤ s.size := a2
  have hbf : b < f := a1
  have hlen := wfE_len _ _ _ _ a4
  refine jsonparser_arrayEachErr.calls _ _ _ _ _ _ _ ?_
  unfold jsonparser_arrayEachErr.t
  refine s_iteE (fun g => absurd g (by omega)) (fun _ => ?_)
  have hbe : bl s 0 < s.size := by omega
  refine s_call (nextToken_any hC hT (by omega) hbe) ?_
  rintro en v2 ⟨rfl, k2⟩
  have h2 := hT.kp k2
  refine ⟨((bl s 0 - 0 : Nat) : Int), rfl, s_iteE (fun g => absurd g (by omega)) (fun _ => ?_)⟩
  refine s_cut (fun z w' => z = (false, ()) ∧ v2 = w') (s_iteE (fun hz => s_at h2 (by omega) (s_leaf ?_)) (fun hz => s_leaf ?_)) ?_
  · rw [if_pos rfl]
    have hnil : keys = [] := List.length_eq_zero_iff.1 (by omega)
    subst hnil
    have hlead := h.lead
    cases hlead
    refine ⟨(false, ()), ?_, rfl, rfl⟩
    have e0 : 0 + (bl s 0 - 0) = b := by
      have h00 : bl s 0 = b := h00
      omega
    rw [e0, a3]; rfl
  · rw [if_pos rfl]; exact ⟨(false, ()), rfl, rfl, rfl⟩
  rintro z w' ⟨rfl, rfl⟩
  show sat _ (jsonparser_arrayEachErr.t1 x.1 x.2.1 x.2.2 (.func (.func cf) first caps) q.1 q.2.1 q.2.2 ((bl s 0 - 0 : Nat) : Int) false) _ _
  unfold jsonparser_arrayEachErr.t1
  refine sat_iteF.2 (s_cut (fun z w' => z = (((b + 1 : Nat) : Int), (0 : Int), ()) ∧ Kp Off v2 w') (s_iteD (fun g => ?_) (fun g => s_leaf ?_)) ?_)
  · refine s_call (searchKeys_any hs (hC.off k2) (hL.off' k2) (hE.kp k2 id) h2 (hKx.kp k2) hr3) ?_
    rintro en v3 ⟨rfl, k3⟩
    have h3 := h2.kp k3
    have hcap3 := h3.cap
    refine ⟨((r - 0 : Nat) : Int), rfl, s_iteE (fun g => absurd g (by omega)) (fun _ => s_chk ⟨by omega, by omega, by omega⟩ ?_)⟩
    have hfr := h3.from r (by omega)
    have hnx := nextToken_any ((hC.off k2).off k3) hfr (by omega) (by rw [Nat.zero_add]; omega)
    rw [Nat.zero_add] at hnx
    rw [Nat.sub_zero, Int.toNat_natCast, Int.toNat_natCast]
    refine s_call hnx ?_
    rintro en v5 ⟨rfl, k5⟩
    refine ⟨((bl s r - r : Nat) : Int), rfl, s_iteE (fun g => absurd g (by omega)) (fun _ => ?_)⟩
    have h5 := h3.kp k5
    have e5 : IntKind.wrap IntKind.i64 ((r : Int) + ((bl s r - r : Nat) : Int)) = ((b : Nat) : Int) := by
      rw [wad _ _ (by omega)]
      have : r + (bl s r - r) = b := by omega
      rw [this]
    show sat Tryz.prog (.chk (((0 : Int) ≤ (IntKind.wrap IntKind.i64 ((r : Int) + ((bl s r - r : Nat) : Int)))) ∧ _) _) _ v5
    rw [e5]
    refine s_at h5 (by omega) ?_
    rw [Nat.zero_add]
    refine s_iteN (fun c => absurd a3 c) (fun c => s_leaf ?_)
    rw [if_pos rfl, wup _ (by omega)]
    exact ⟨(((b + 1 : Nat) : Int), (0 : Int), ()), rfl, rfl, k3.trans k5⟩
  · rw [if_pos rfl]
    have hnil : keys = [] := List.length_eq_zero_iff.1 (by omega)
    subst hnil
    have hlead := h.lead
    cases hlead
    have h00 : bl s 0 = b := h00
    rw [wup _ (by omega), Nat.sub_zero, h00]
    exact ⟨(((b + 1 : Nat) : Int), (0 : Int), ()), rfl, rfl, Kp.refl _ _⟩
  rintro z w' ⟨rfl, k3⟩
  show sat _ (jsonparser_arrayEachErr.t2 x.1 x.2.1 x.2.2 (.func (.func cf) first caps) ((b + 1 : Nat) : Int) (0 : Int)) _ _
  unfold jsonparser_arrayEachErr.t2
  have K3 := k2.trans k3
  have h3 := hT.kp K3
  have hge := bl_ge s (b + 1)
  have hbf1 : bl s (b + 1) < f := by
    cases ks with
    | nil => unfold WfE at a4; omega
    | cons p ks =>
      unfold WfE at a4
      have h0 : p.b = bl s (b + 1) := a4.1
      have := a4.2.1.lt
      have := Gk.wfE_le _ _ _ _ a4.2.2
      omega
  refine s_chk ⟨by omega, by omega, by omega⟩ ?_
  have hfr := h3.from (b + 1) (by omega)
  have hnx := nextToken_any (hC.off K3) hfr (by omega) (by rw [Nat.zero_add]; omega)
  rw [Nat.zero_add] at hnx
  rw [Int.toNat_natCast, Int.toNat_natCast]
  refine s_call hnx ?_
  rintro en w5 ⟨rfl, k5⟩
  refine ⟨((bl s (b + 1) - (b + 1) : Nat) : Int), rfl, s_iteE (fun g => absurd g (by omega)) (fun _ => ?_)⟩
  have K5 := K3.trans k5
  have h5 := hT.kp K5
  have e2 : IntKind.wrap IntKind.i64 (((b + 1 : Nat) : Int) + ((bl s (b + 1) - (b + 1) : Nat) : Int)) = ((bl s (b + 1) : Nat) : Int) := by
    rw [wad _ _ (by omega)]
    have : b + 1 + (bl s (b + 1) - (b + 1)) = bl s (b + 1) := by omega
    rw [this]
  rw [e2]
  refine s_at h5 (by omega) ?_
  rw [Nat.zero_add]
  have hI5 := hst _ _ _ hI K5
  cases ks with
  | nil =>
    unfold WfE at a4
    refine s_iteE (fun _ => s_leaf ⟨rfl, ⟨_, rfl⟩, hI5, K5.off⟩) (fun g => absurd a4.1 g)
  | cons c ks =>
    have a4' := a4
    unfold WfE at a4
    have h0 : c.b = bl s (b + 1) := a4.1
    have hne := first_ne a4.2.1
    rw [h0] at hne
    refine s_iteE (fun g => absurd g hne) (fun _ => ?_)
    refine errl_any (i := 0) (e := s.size) (base := w) (Inv := Inv) (all := c :: ks) (f := f) hg (by omega) hfs (by omega) hSc hxS hst hcb (fun w' hK hI => ⟨rfl, ⟨_, rfl⟩, hI, hK⟩) w5 (bl s (b + 1)) h5 ⟨by rw [h0]; exact Gk.bl_bl _, a4.2.1, a4.2.2⟩ (Nat.zero_le _) K5.off hI5 (hC.off K5)
end Go.Proofs.YtcjphnppedmbdaaGreatDoor.Ka
