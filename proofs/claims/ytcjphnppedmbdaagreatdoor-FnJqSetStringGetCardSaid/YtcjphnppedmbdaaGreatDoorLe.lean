/- jsonparser's GetString where keys lead to a value. No statement of the set is proved here. -/
import Derived.Test.YtcjphnppedmbdaaGreatDoorMI
import Derived.Test.YtcjphnppedmbdaaGreatDoorTw
namespace Go.Proofs.YtcjphnppedmbdaaGreatDoor.Ka
open Go Go.Proofs Go.RowKit Go.Proofs.YtcjphnppedmbdaaGreatDoor.Rx Go.Proofs.YtcjphnppedmbdaaGreatDoor.Tr Go.Proofs.YtcjphnppedmbdaaGreatDoor.Pl Go.Proofs.YtcjphnppedmbdaaGreatDoor.Pw Go.Proofs.YtcjphnppedmbdaaGreatDoor.Sk

variable {w w' : World} {x q : Sl} {s : ByteArray} {keys : List ByteArray} {p0 p : PT}
theorem err_any (t : ByteArray) (w : World) : Calls Tryz.prog 68 #[.string t] w fun e w' => (∃ v, e = .returned v ∧ isIface v = true ∧ isNil v = false) ∧ Kp Off w w' := by
  refine errors_New.calls _ ?_
  unfold errors_New.t
  refine s_alloc (s_leaf ⟨rfl, ⟨_, rfl, rfl, rfl⟩, (Kp.refl Off w).alloc _⟩)
/-- The look-up by keys, with the configuration that is taken where none is given. -/
theorem iget_any (hs : s.size ≤ 300000) (hC : Je.Cv w) (hL : Je.Lt w) (hE : Je.Ev w Je.gE) (hT : Tx w x s 0 s.size) (hKx : Kx w q keys) (h : Led s p0 keys p) :
    Calls Tryz.prog 62 #[slV x, slV q] w (GR w s 0 p) := by
  refine jsonparser_internalGet.calls _ _ _ _ _ _ ?_
  unfold jsonparser_internalGet.t
  refine s_eff (w' := w) (false, false, (0 : Int), ()) (Je.loadAt_cells (cs := Je.cfg) (by kernel_rfl) (info_some (by kernel_rfl)) (by kernel_rfl) (fun j v hj => by rw [addr_add, Nat.zero_add]; exact hC j v hj)) ?_
  refine s_call (getK_any hs hL hE hT hKx h) ?_
  rintro en w1 ⟨y, rfl, h1, h2, k1⟩
  exact ⟨(y, jk p.k, ((p.b - 0 : Nat) : Int), ((p.e - 0 : Nat) : Int), Value.nilIface, ()), rfl, s_leaf ⟨rfl, y, rfl, h1, h2, k1⟩⟩
/-- Get by keys. -/
theorem get_any (hs : s.size ≤ 300000) (hC : Je.Cv w) (hL : Je.Lt w) (hE : Je.Ev w Je.gE) (hT : Tx w x s 0 s.size) (hKx : Kx w q keys) (h : Led s p0 keys p) :
    Calls Tryz.prog 39 #[slV x, slV q] w fun en w' => ∃ y : Sl, en = .returned (.tuple #[slV y, .int .i64 (jk p.k), .int .i64 ((p.e : Nat) : Int), .nilIface]) ∧ Tx w' y s (rb p) (re p) ∧ y.2.2 = y.2.1 ∧ Kp Off w w' := by
  refine jsonparser_Get.calls _ _ _ _ _ _ ?_
  unfold jsonparser_Get.t
  refine s_call (iget_any hs hC hL hE hT hKx h) ?_
  rintro en w1 ⟨y, rfl, h1, h2, k1⟩
  exact ⟨(y, jk p.k, ((p.b - 0 : Nat) : Int), ((p.e - 0 : Nat) : Int), Value.nilIface, ()), rfl, s_leaf ⟨rfl, y, rfl, h1, h2, k1⟩⟩
/-- A string's place. -/
theorem wf_str (h : WfV s p) (hk : p.k = 4) : strE s (p.b + 1) = some p.e := by
  obtain ⟨k, b, f, ns, ks⟩ := p
  have hk : k = 4 := hk
  subst hk
  unfold WfV at h
  obtain ⟨_, _, ⟨_, _, _, h⟩ | ⟨_, _, _, _, h2⟩ | ⟨h, _⟩ | ⟨h, _⟩⟩ := h
  · rcases h with ⟨h, _⟩ | ⟨h, _⟩ | ⟨h, _⟩ | ⟨h, _⟩ <;> cases h
  · exact h2
  · cases h
  · cases h
/-- What GetString says. -/
def GSPost (s : ByteArray) (p : PT) (en : Ending) : Prop := (p.k = 4 ∧ en = .returned (.tuple #[.string (nmS s (p.b, p.e)), .nilIface])) ∨ (p.k ≠ 4 ∧ ∃ v, en = .returned (.tuple #[.string (ByteArray.mk #[]), v]) ∧ isIface v = true ∧ isNil v = false)
theorem getString_any {gN : Nat} (hgN : gN = 1) (hs : s.size ≤ 300000) (hC : Je.Cv w) (hL : Je.Lt w) (hE : Je.Ev w Je.gE) (hV : Je.Ev w Je.gV) (hNu : Je.Ev w gN) (hT : Tx w x s 0 s.size) (hKx : Kx w q keys) (h : Led s p0 keys p) :
    Calls Tryz.prog 50 #[slV x, slV q] w fun en w' => GSPost s p en ∧ Kp Off w w' := by
  subst hgN
  refine jsonparser_GetString.calls _ _ _ _ _ _ ?_
  unfold jsonparser_GetString.t
  refine s_call (get_any hs hC hL hE hT hKx h) ?_
  rintro en w1 ⟨y, rfl, h1, h2, k1⟩
  refine ⟨(y, jk p.k, ((p.e : Nat) : Int), Value.nilIface, ()), rfl, s_chk rfl (s_ite (fun g => absurd (show (false : Bool) = true from g) (by decide)) (fun _ => ?_))⟩
  refine s_iteN (fun hk => ?_) (fun hk => ?_)
  · have hk4 : p.k ≠ 4 := fun g => hk (jk_str.2 g)
    refine s_iteE (fun _ => s_drew ?_) (fun _ => ?_)
    · obtain ⟨t, v, hv⟩ := hNu.kp k1.drew id
      exact s_load (Value.iface t v) hv (s_leaf ⟨rfl, .inr ⟨hk4, _, rfl, rfl, rfl⟩, k1.drew⟩)
    · refine s_call (err_any _ w1) ?_
      rintro e w2 ⟨⟨v, rfl, hv1, hv2⟩, k2⟩
      exact ⟨v, rfl, s_leaf ⟨rfl, .inr ⟨hk4, v, rfl, hv1, hv2⟩, k1.trans k2⟩⟩
  · have hk4 : p.k = 4 := jk_str.1 hk
    have hst := wf_str h.wfp hk4
    obtain ⟨k, hke, _⟩ := Sk.strE_QE hst
    have hle := strE_le hst
    obtain ⟨r, r1, r2, r3⟩ := nm_ue (i := p.b) (k := k) (by rw [← hke]; exact hst)
    rw [← hke] at r3
    have hrb : rb p = p.b + 1 := by unfold rb; rw [if_pos hk4]
    have hre : re p = p.b + 1 + k := by unfold re; rw [if_pos hk4]; omega
    rw [hrb, hre] at h1
    have hz := ext_size (s := s) (p := p.b + 1) (k := k) (by omega)
    have ho := h1.own
    obtain ⟨b, o, a1, a2, a4⟩ := ho.cell
    have hlen := ho.len
    have hcap := ho.cap
    have hI : Je.In w1 (s.extract (p.b + 1) (p.b + 1 + k)) b o 0 (s.extract (p.b + 1) (p.b + 1 + k)).size := ⟨fun {j} hj => by
      have := a4 j (by omega)
      rw [this, ← Ut.bt_bn], rfl⟩
    have ey : slV y = .slice (some ⟨b, o, none⟩) (s.extract (p.b + 1) (p.b + 1 + k)).size y.2.2 := by
      show Value.slice y.1 y.2.1 y.2.2 = _
      rw [a1, hlen, Nat.sub_zero]
    have hix := Je.index_any (cap := y.2.2) hI
    rw [← ey] at hix
    refine s_call hix ?_
    rintro e w2 ⟨rfl, rfl⟩
    refine ⟨_, rfl, ?_⟩
    rcases Je.ix_cases 92 (Ql.tl (s.extract (p.b + 1) (p.b + 1 + k)) 0) with ⟨e1, e2⟩ | ⟨m, e1, e2, e3, rr, e4⟩
    · rw [e1]
      refine s_iteE (fun _ => ?_) (fun hh => absurd rfl hh)
      refine s_eff (w' := w2) (s.extract (p.b + 1) (p.b + 1 + k)) h1.toStr (s_leaf ⟨rfl, .inl ⟨hk4, ?_⟩, k1⟩)
      have hru := Je.ue_run (Ql.tl (s.extract (p.b + 1) (p.b + 1 + k)) 0) 0 [] (by rw [List.append_nil]) e2
      have hend := Je.ue_end (s := s.extract (p.b + 1) (p.b + 1 + k)) (i := 0 + (Ql.tl (s.extract (p.b + 1) (p.b + 1 + k)) 0).length) (by rw [Je.tl_len]; omega)
      rw [hend] at hru
      rw [hru] at r1
      have r1 : some (Ql.tl (s.extract (p.b + 1) (p.b + 1 + k)) 0 ++ []) = some r := r1
      rw [List.append_nil] at r1
      cases r1
      rw [r3]; rfl
    · rw [e1]
      refine s_iteE (fun hh => (by have hh : (m : Int) = -1 := hh; omega)) (fun _ => ?_)
      have hpa := Je.parse_any (w := w2) (cap := y.2.2) (by rw [hz]; omega) hI (by omega) (hL.off' k1) (hE.kp k1 id) (hV.kp k1 id) (hC.off k1) a2
      rw [← ey] at hpa
      refine s_call hpa ?_
      rintro e w3 ⟨hP, k3⟩
      unfold Je.PPost at hP
      rw [r1] at hP
      subst hP
      exact ⟨(⟨r.toArray⟩, Value.nilIface, ()), rfl, s_leaf ⟨rfl, .inl ⟨hk4, by rw [r3]; rfl⟩, k1.trans k3⟩⟩
/-- The thin package's. -/
theorem jpGetString_any {gN : Nat} (hgN : gN = 1) (hs : s.size ≤ 300000) (hC : Je.Cv w) (hL : Je.Lt w) (hE : Je.Ev w Je.gE) (hV : Je.Ev w Je.gV) (hNu : Je.Ev w gN) (hKx : Kx w q keys) (h : Led s p0 keys p) :
    Calls Tryz.prog 26 #[.string s, slV q] w fun en w' => (∃ t : ByteArray, en = .returned (.tuple #[.string t, .bool (decide (p.k = 4))]) ∧ (p.k = 4 → t = nmS s (p.b, p.e))) ∧ Kp Off w w' := by
  refine impl_JpGetString.calls _ _ _ _ ?_
  unfold impl_JpGetString.t
  obtain ⟨x, w2, hcv, hT, k1, z1, hx⟩ := conv_any (w := w) s
  refine s_eff x hcv ?_
  refine s_call (getString_any hgN hs (hC.off k1) (hL.off' k1) (hE.kp k1 id) (hV.kp k1 id) (hNu.kp k1 id) hT (hKx.kp k1) h) ?_
  rintro en w3 ⟨⟨hk, rfl⟩ | ⟨hk, v, rfl, hv1, hv2⟩, k3⟩
  · refine ⟨(nmS s (p.b, p.e), Value.nilIface, ()), rfl, s_chk rfl (sat_iteF.2 (s_leaf ⟨rfl, ⟨nmS s (p.b, p.e), ?_, fun _ => rfl⟩, k1.trans k3⟩))⟩
    rw [decide_eq_true hk]; rfl
  · refine ⟨(ByteArray.mk #[], v, ()), rfl, s_chk hv1 ?_⟩
    show sat Tryz.prog (.ite (!(isNil v)) (.leaf 0 [(Value.string (ByteArray.mk #[])), (Value.bool false)]) (.leaf 0 [(Value.string (ByteArray.mk #[])), (Value.bool true)])) _ w3
    rw [hv2]
    refine sat_iteT.2 (s_leaf ⟨rfl, ⟨ByteArray.mk #[], ?_, fun g => absurd g hk⟩, k1.trans k3⟩)
    rw [decide_eq_false hk]; rfl
end Go.Proofs.YtcjphnppedmbdaaGreatDoor.Ka
