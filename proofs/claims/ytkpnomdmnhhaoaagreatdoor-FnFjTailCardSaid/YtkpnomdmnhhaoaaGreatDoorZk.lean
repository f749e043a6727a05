/- fastjson: Type and unescapeKeys of a value that was read; Parse of a whole text; laws.fjText. No statement of the set is proved here. -/
import Derived.Test.YtkpnomdmnhhaoaaGreatDoorZy
import Derived.Test.YtkpnomdmnhhaoaaGreatDoorZd
import Derived.Test.YtkpnomdmnhhaoaaGreatDoorZc
import Derived.Test.YtkpnomdmnhhaoaaGreatDoorTj
namespace Go.Proofs.YtkpnomdmnhhaoaaGreatDoor.Zv
open Go Go.Proofs Go.RowKit Go.Proofs.YtkpnomdmnhhaoaaGreatDoor.Rx Go.Proofs.YtkpnomdmnhhaoaaGreatDoor.Tr Go.Proofs.YtkpnomdmnhhaoaaGreatDoor.Pl Go.Proofs.YtkpnomdmnhhaoaaGreatDoor.Pw Go.Proofs.YtkpnomdmnhhaoaaGreatDoor.Sk Go.Proofs.YtkpnomdmnhhaoaaGreatDoor.Zs Go.Proofs.YtkpnomdmnhhaoaaGreatDoor.Bw
open Go.Proofs.YtkpnomdmnhhaoaaGreatDoor.Sr (Sl slV tBs tB)
open Go.Proofs.YtkpnomdmnhhaoaaGreatDoor.Ed (mvP mvP_b mvP_e mvP_k)
open Go.Proofs.YtkpnomdmnhhaoaaGreatDoor.Ka (nmS)
open Go.Proofs.YtkpnomdmnhhaoaaGreatDoor.Zu (PdV PdL pd)
open Go.Proofs.YtkpnomdmnhhaoaaGreatDoor.Nt (NT treeN treeL treeN_k treeN_keys treeN_kids treeL_len kid_in)
open Go.Proofs.YtkpnomdmnhhaoaaGreatDoor.Ze (MB unesc_any s2b_any bytes_back tl_all)

variable {w w0 w' w'' w1 : World} {v : Nat × Nat} {s : ByteArray} {F G : Nat × Nat → Prop} {p : PT}
theorem Cs.kp {b o : Nat} {cs : List Value} {S : Nat → Prop} (h : Cs w b o cs) (k : Kp S w w') (hb : b < w.heap.size) (hS : ¬ S b) : Cs w' b o cs := fun j u hj => by
  obtain ⟨h1, h2⟩ := h j u hj
  obtain ⟨c1, c2⟩ := same_block (off := o + j) (k.block b hb hS)
  exact ⟨c1.trans h1, c2.trans h2⟩
theorem VAt.own_ (h : VAt s w p v F) : F v := by
  obtain ⟨k, b, e, ns, ks⟩ := p
  unfold VAt at h
  obtain ⟨_, _, _, _, _, _, _, _, h5, _⟩ := h
  exact h5 v ⟨rfl, Nat.le_refl _, by omega⟩
theorem VAt.cells (h : VAt s w p v F) : ∃ kvs a, Cs w v.1 v.2 (vc kvs false a (rawS s p.k p.b p.e) (kindN p.k)) := by
  obtain ⟨k, b, e, ns, ks⟩ := p
  unfold VAt at h
  obtain ⟨kvs, a, _, _, _, h2, _⟩ := h
  exact ⟨kvs, a, h2⟩
theorem reg_new {z z1 : Nat} {x1 : Sl} {y : Nat × Nat} (h : Reg (none, 0, 0) z x1 z1 y) : z ≤ y.1 := by
  rcases Nat.lt_or_ge y.1 z with g | g
  · exact absurd ⟨g, fun a ha => by cases ha⟩ h.1
  · exact g
theorem kind7 {k : Nat} : kindN k = 7 ↔ k = 4 := by
  unfold kindN
  constructor
  · intro h
    repeat' split at h
    all_goals first | assumption | (exfalso; revert h; decide)
  · rintro rfl; rfl
/-- The kind that Type tells. -/
def kindT (k : Nat) : Int := if k = 4 then 3 else kindN k
theorem kindT3 {k : Nat} : kindT k = 3 ↔ k = 4 := by
  unfold kindT
  constructor
  · intro h
    split at h
    · assumption
    · unfold kindN at h
      repeat' split at h
      all_goals first | assumption | (exfalso; revert h; decide)
  · rintro rfl; rfl
theorem raw_str {i e : Nat} (h : strE s (i + 1) = some e) : ∃ r, Zu.OkU (s.extract (i + 1) (e - 1)) 0 ∧ Uq.uo (s.extract (i + 1) (e - 1)) 0 = some r ∧ nmS s (i, e) = ⟨r.toArray⟩ := by
  obtain ⟨k, rfl, _⟩ := strE_QE h
  have hl := strE_le h
  have ho := (Zu.okU_of (s := s) (p := i + 1) (k := k) (by omega) _ 0 (Nat.le_refl _) (Nat.zero_le _) h).1
  obtain ⟨r, h1, h2⟩ := Zu.nm_uo h
  exact ⟨r, by rw [Nat.add_sub_cancel]; exact ho, by rw [Nat.add_sub_cancel]; exact h1, h2⟩
theorem type_any (hs : s.size ≤ 100000) (hw : WfV s p) (hp : PdV s p) (h : VAt s w p v F) : Calls Tryz.prog 28 #[ptrV v] w fun e w' =>
    e = .returned (.int .i64 (kindT p.k)) ∧ (∃ kvs a x, Cs w' v.1 v.2 (vc kvs false a x (kindT p.k)) ∧ (p.k = 4 → x = nmS s (p.b, p.e))) ∧ Kp (On v.1) w w' ∧ (p.k ≠ 4 → w' = w) ∧ ∀ G : Nat × Nat → Prop, (∀ y, G y → y.1 < w.heap.size ∧ ¬ own v y) → Sm G w w' := by
  obtain ⟨kvs, a, hC⟩ := h.cells
  have hlt := hC.lt
  refine fastjson_Value_Type.calls _ ?_
  unfold fastjson_Value_Type.t
  refine s_ptr (s_load (kindN p.k) (by rw [addr_add]; exact (hC 4 _ rfl).1) (s_iteE (fun h7 => ?_) (fun h7 => ?_)))
  · have h4 := kind7.1 h7
    obtain ⟨r, r1, r2, r3⟩ := raw_str (Nt.str_ok hw h4)
    have hx : rawS s p.k p.b p.e = s.extract (p.b + 1) (p.e - 1) := by unfold rawS; rw [if_neg (by omega), if_pos h4]
    have hpd : pd (s.extract (p.b + 1) (p.e - 1)) 0 = true := by
      obtain ⟨k, b, e, ns, ks⟩ := p
      unfold PdV at hp
      exact hp.1 h4
    rw [h7, hx] at hC
    refine s_ptr (s_load (s.extract (p.b + 1) (p.e - 1)) (by rw [addr_add]; exact (hC 3 _ rfl).1) ?_)
    refine s_call (unesc_any (by rw [ByteArray.size_extract]; omega) r1 hpd r2) ?_
    rintro e w1 ⟨rfl, k1⟩
    have hC1 := hC.kp k1 hlt id
    refine ⟨⟨r.toArray⟩, rfl, s_ptr (s_store (by rw [addr_add]; exact (hC1 3 _ rfl).1) (by rw [addr_add]; exact (hC1 3 _ rfl).2) ?_)⟩
    rw [addr_add]
    have hC2 := hC1.set (i := 3) (by decide : 3 < 5) (.string ⟨r.toArray⟩)
    have k2 : Kp (On v.1) w1 (w1.setCell ⟨v.1, v.2 + 3, none⟩ (.string ⟨r.toArray⟩)) := (Kp.refl _ w1).on _ _
    have m2 : ∀ G : Nat × Nat → Prop, (∀ y, G y → y.1 < w.heap.size ∧ ¬ own v y) → Sm G w (w1.setCell ⟨v.1, v.2 + 3, none⟩ (.string ⟨r.toArray⟩)) := fun G hG =>
      (Sm.kp k1 fun y hy => ⟨(hG y hy).1, id⟩).trans (Sm.set fun c => (hG _ c).2 ⟨rfl, Nat.le_add_right _ _, by show v.2 + 3 < v.2 + 5; omega⟩)
    generalize w1.setCell ⟨v.1, v.2 + 3, none⟩ (.string ⟨r.toArray⟩) = w2 at hC2 k2 m2
    have hC2 : Cs w2 v.1 v.2 (vc kvs false a ⟨r.toArray⟩ 7) := hC2
    refine s_ptr (s_store (by rw [addr_add]; exact (hC2 4 _ rfl).1) (by rw [addr_add]; exact (hC2 4 _ rfl).2) ?_)
    rw [addr_add]
    have hC3 := hC2.set (i := 4) (by decide : 4 < 5) (.int .i64 3)
    have k3 : Kp (On v.1) w2 (w2.setCell ⟨v.1, v.2 + 4, none⟩ (.int .i64 3)) := (Kp.refl _ w2).on _ _
    have m3 : ∀ G : Nat × Nat → Prop, (∀ y, G y → y.1 < w.heap.size ∧ ¬ own v y) → Sm G w (w2.setCell ⟨v.1, v.2 + 4, none⟩ (.int .i64 3)) := fun G hG =>
      (m2 G hG).trans (Sm.set fun c => (hG _ c).2 ⟨rfl, Nat.le_add_right _ _, by show v.2 + 4 < v.2 + 5; omega⟩)
    show sat _ _ _ (w2.setCell ⟨v.1, v.2 + 4, none⟩ (.int .i64 3))
    generalize w2.setCell ⟨v.1, v.2 + 4, none⟩ (.int .i64 3) = w3 at hC3 k3 m3
    have hC3 : Cs w3 v.1 v.2 (vc kvs false a ⟨r.toArray⟩ 3) := hC3
    have hT := kindT3.2 h4
    refine s_ptr (s_load (3 : Int) (by rw [addr_add]; exact (hC3 4 _ rfl).1) (s_leaf ⟨rfl, by rw [hT]; rfl, ⟨kvs, a, _, by rw [hT]; exact hC3, fun _ => r3.symm⟩, ((Kp.off k1).trans k2).trans k3, fun c => absurd h4 c, m3⟩))
  · have h4 : p.k ≠ 4 := fun g => h7 (kind7.2 g)
    have hT : kindT p.k = kindN p.k := if_neg h4
    refine s_ptr (s_load (kindN p.k) (by rw [addr_add]; exact (hC 4 _ rfl).1) (s_leaf ⟨rfl, by rw [hT]; rfl, ⟨kvs, a, _, by rw [hT]; exact hC, fun g => absurd g h4⟩, Kp.refl _ _, fun _ => rfl, fun G _ y _ => ⟨rfl, rfl⟩⟩))
/-- A text that is one value with blanks around it. -/
def Whole (s : ByteArray) (p : PT) : Prop := bl s 0 = p.b ∧ WfV s p ∧ bl s p.e = s.size
/-- What Parse gives of a whole JSON text. -/
theorem parse_whole {gp : Nat} (hs : s.size ≤ 100000) (hp : Whole s p) (hlv : lv p ≤ 300) (hB : Blk w gp [slV (none, 0, 0), slV (none, 0, 0)] tPr) :
    Calls Tryz.prog 19 #[.pointer (some ⟨gp, 0, none⟩), .string s] w fun e w' =>
      ∃ (x1 : Sl) (v : Nat × Nat), e = .returned (.tuple #[ptrV v, .nilIface]) ∧ VAt (sfx s p.b) w' (mvP p.b 0 p) v (Reg (none, 0, 0) w.heap.size x1 w'.heap.size) ∧ Kp (On gp) w w' := by
  obtain ⟨h1, h2, h3⟩ := hp
  have he : bt s (bl s p.e : Int) = 0 := by rw [h3]; exact bt_end (Nat.le_refl _)
  refine (parse_any hs h2 h1.symm (fun _ => delim (c := 0) he (by omega)) hlv hB).mono ?_
  rintro e w' ⟨g1, _, g3⟩
  obtain ⟨x1, v, e1, e2⟩ := g1 h3
  exact ⟨x1, v, e1, e2, g3⟩
theorem wf_mv (hw : WfV s p) (hpd : pd s 0 = true) (hb : bl s 0 = p.b) : WfV (sfx s p.b) (mvP p.b 0 p) ∧ PdV (sfx s p.b) (mvP p.b 0 p) := by
  have hl := hw.lt
  obtain ⟨h1, h2, _⟩ := wf_sfx hw
  refine ⟨h1, (Zu.pd_val _ h1 ?_).1⟩
  rw [h2, Zf.pd_sfx (by omega) _ 0 (Nat.le_refl _), Nat.add_zero, ← hb, ← Zu.pd_bl (Nat.zero_le _)]
  exact hpd
theorem AllV.get : ∀ (ks : List PT) (ad : List (Nat × Nat)) (G : Nat × Nat → Prop) (i : Nat) (c : PT), AllV s w ks ad G → ks[i]? = some c → ∃ a F1, ad[i]? = some a ∧ VAt s w c a F1 ∧ ∀ y, F1 y → G y
  | [], _, _, _, _, _, h => by simp at h
  | p :: ks, ad, G, i, c, h, hi => by
    unfold AllV at h
    obtain ⟨a, r, F1, F2, rfl, h2, h3, h4, h5⟩ := h
    cases i with
    | zero =>
      simp only [List.getElem?_cons_zero, Option.some.injEq] at hi
      subst hi
      exact ⟨a, F1, rfl, h2, fun y hy => (h4 y hy).1⟩
    | succ i =>
      obtain ⟨a', F1', g1, g2, g3⟩ := AllV.get ks r F2 i c h3 (by simpa using hi)
      exact ⟨a', F1', by simpa using g1, g2, fun y hy => h5 y (g3 y hy)⟩
theorem PdL.get : ∀ {ks : List PT} {i : Nat} {c : PT}, PdL s ks → ks[i]? = some c → PdV s c
  | [], _, _, _, h => by simp at h
  | p :: ks, 0, c, h, hi => by
    simp only [List.getElem?_cons_zero, Option.some.injEq] at hi
    subst hi
    unfold PdL at h; exact h.1
  | p :: ks, i + 1, c, h, hi => by
    unfold PdL at h
    exact PdL.get h.2 (by simpa using hi)
theorem treeL_get : ∀ {ks : List PT} {i : Nat} {c : PT}, ks[i]? = some c → (treeL s ks)[i]? = some (treeN s c)
  | [], _, _, h => by simp at h
  | p :: ks, 0, c, hi => by
    simp only [List.getElem?_cons_zero, Option.some.injEq] at hi
    subst hi
    simp only [treeL]; rfl
  | p :: ks, i + 1, c, hi => by
    simp only [treeL]
    exact treeL_get (ks := ks) (i := i) (by simpa using hi)
theorem wf_k (hw : WfV s p) : p.k ≤ 6 := by
  obtain ⟨k, b, e, ns, ks⟩ := p
  show k ≤ 6
  unfold WfV at hw
  obtain ⟨_, _, ⟨_, _, _, h⟩ | ⟨h, _⟩ | ⟨h, _⟩ | ⟨h, _⟩⟩ := hw
  · rcases h with ⟨g, _⟩ | ⟨g, _⟩ | ⟨g, _⟩ | ⟨g, _⟩ <;> omega
  · omega
  · omega
  · omega
theorem kind_is {k : Nat} (hk : k ≤ 6) : (kindN k = 1 ↔ k = 6) ∧ (kindN k = 2 ↔ k = 5) ∧ (kindN k = 5 ↔ k = 2) := by
  have : k = 0 ∨ k = 1 ∨ k = 2 ∨ k = 3 ∨ k = 4 ∨ k = 5 ∨ k = 6 := by omega
  rcases this with rfl | rfl | rfl | rfl | rfl | rfl | rfl <;> decide
/-- A name as it stands in the text. -/
def rawN (s : ByteArray) (n : Nat × Nat) : ByteArray := s.extract (n.1 + 1) (n.2 - 1)
/-- The members' row, the names as f says. -/
def KV (w : World) (kvs : Sl) (f : Nat → Nat × Nat → ByteArray) (ns ad : List (Nat × Nat)) : Prop :=
  kvs.2.1 = ns.length ∧ (ns = [] ∨ ∃ b, kvs.1 = some ⟨b, 0, none⟩ ∧ b < w.heap.size ∧ ∀ (j : Nat) (n a : Nat × Nat), ns[j]? = some n → ad[j]? = some a →
    w.cell? ⟨b, j * 2, none⟩ = some (.string (f j n)) ∧ w.frozen? ⟨b, j * 2, none⟩ = false ∧ w.cell? ⟨b, j * 2 + 1, none⟩ = some (ptrV a))
theorem kvC_get : ∀ (ns ad : List (Nat × Nat)) (j : Nat) (n a : Nat × Nat), ns[j]? = some n → ad[j]? = some a → (kvC s ns ad)[j * 2]? = some (.string (rawN s n)) ∧ (kvC s ns ad)[j * 2 + 1]? = some (ptrV a)
  | [], _, _, _, _, h, _ => by simp at h
  | _ :: _, [], _, _, _, _, h => by simp at h
  | m :: ns, c :: ad, 0, n, a, h1, h2 => by
    simp only [List.getElem?_cons_zero, Option.some.injEq] at h1 h2
    subst h1; subst h2
    exact ⟨rfl, rfl⟩
  | m :: ns, c :: ad, j + 1, n, a, h1, h2 => by
    obtain ⟨g1, g2⟩ := kvC_get ns ad j n a (by simpa using h1) (by simpa using h2)
    have e : kvC s (m :: ns) (c :: ad) = .string (s.extract (m.1 + 1) (m.2 - 1)) :: ptrV c :: kvC s ns ad := rfl
    rw [e]
    refine ⟨?_, ?_⟩
    · rw [show (j + 1) * 2 = j * 2 + 1 + 1 by omega, List.getElem?_cons_succ, List.getElem?_cons_succ]; exact g1
    · rw [show (j + 1) * 2 + 1 = j * 2 + 1 + 1 + 1 by omega, List.getElem?_cons_succ, List.getElem?_cons_succ]; exact g2
theorem kv_of {kvs : Sl} {ns ad : List (Nat × Nat)} {n : Nat} (h : RR w kvs n (kvC s ns ad)) (hn : ns.length = n) (ha : ad.length = n) : KV w kvs (fun _ => rawN s) ns ad := by
  obtain ⟨h1, h2, h3⟩ := h
  refine ⟨h1.trans hn.symm, ?_⟩
  cases ns with
  | nil => exact .inl rfl
  | cons m ns =>
    right
    cases ad with
    | nil => simp at ha hn; omega
    | cons c ad =>
      rcases h3 with h3 | ⟨b, h4, h5⟩
      · cases h3
      · refine ⟨b, h4, Ms.cell_lt (h5 0 _ rfl).1, fun j n a hj ha => ?_⟩
        obtain ⟨g1, g2⟩ := kvC_get _ _ j n a hj ha
        obtain ⟨c1, c2⟩ := h5 _ _ g1
        obtain ⟨d1, d2⟩ := h5 _ _ g2
        rw [Nat.zero_add] at c1 c2 d1
        exact ⟨c1, c2, d1⟩
theorem KV.kp {kvs : Sl} {f : Nat → Nat × Nat → ByteArray} {ns ad : List (Nat × Nat)} {S : Nat → Prop} (h : KV w kvs f ns ad) (k : Kp S w w') (hS : ∀ b, kvs.1 = some ⟨b, 0, none⟩ → ¬ S b) : KV w' kvs f ns ad := by
  refine ⟨h.1, ?_⟩
  rcases h.2 with h | ⟨b, h1, h2, h3⟩
  · exact .inl h
  · refine .inr ⟨b, h1, Nat.lt_of_lt_of_le h2 k.size, fun j n a hj ha => ?_⟩
    obtain ⟨c1, c2, c3⟩ := h3 j n a hj ha
    have hb := k.block b h2 (hS b h1)
    exact ⟨(same_block hb).1.trans c1, (same_block hb).2.trans c2, (same_block hb).1.trans c3⟩
/-- What is asked of the names. -/
def NmOk (s : ByteArray) (ns : List (Nat × Nat)) : Prop := ∀ n ∈ ns, strE s (n.1 + 1) = some n.2 ∧ pd (rawN s n) 0 = true
/-- unescapeKeys over names that are not yet read. -/
theorem unescKeys_any {kvs a : Sl} {str : ByteArray} {t : Int} {ns ad : List (Nat × Nat)} (hs : s.size ≤ 100000) (hC : Cs w v.1 v.2 (vc kvs false a str t)) (hl : ad.length = ns.length) (hn : ns.length ≤ 1000000)
    (hK : KV w kvs (fun _ => rawN s) ns ad) (hne : ∀ y, rowB kvs y → ¬ own v y) (hok : NmOk s ns) :
    Calls Tryz.prog 79 #[.pointer (some ⟨v.1, v.2, none⟩)] w fun e w' => e = .returned (.tuple #[]) ∧ Cs w' v.1 v.2 (vc kvs true a str t) ∧ KV w' kvs (fun _ => nmS s) ns ad ∧
      Kp (fun q => q = v.1 ∨ rowB kvs (q, 0)) w w' ∧ ∀ G : Nat × Nat → Prop, (∀ y, G y → y.1 < w.heap.size ∧ ¬ own v y ∧ ¬ rowB kvs y) → Sm G w w' := by
  have hlt := hC.lt
  refine fastjson_Object_unescapeKeys.calls _ ?_
  unfold fastjson_Object_unescapeKeys.t
  refine s_ptr (s_load false (by rw [addr_add]; exact (hC 1 _ rfl).1) (sat_iteF.2 (s_ptr (s_load kvs (by rw [addr_add]; exact (hC 0 _ rfl).1) ?_))))
  have hlen := hK.1
  refine s_loop (fun m z w' => ∃ i : Nat, m = ns.length - i ∧ z = ((i : Int), ()) ∧ i ≤ ns.length ∧ KV w' kvs (fun j n => if j < i then nmS s n else rawN s n) ns ad ∧ Kp (fun q => rowB kvs (q, 0)) w w' ∧ ∀ G : Nat × Nat → Prop, (∀ y, G y → y.1 < w.heap.size ∧ ¬ rowB kvs y) → Sm G w w') ns.length ((0 : Int), ()) rfl
    ⟨0, rfl, rfl, Nat.zero_le _, by simpa using hK, Kp.refl _ _, fun G _ y _ => ⟨rfl, rfl⟩⟩ ?_
  rintro m z w1 ⟨i, rfl, rfl, hi, hK1, k1, hG⟩
  show sat _ (fastjson_Object_unescapeKeys.t1 (some ⟨v.1, v.2, none⟩) kvs (i : Int)) _ _
  unfold fastjson_Object_unescapeKeys.t1
  refine s_iteD (fun hlti => ?_) (fun hge => ?_)
  · have hin : i < ns.length := by omega
    rcases hK1.2 with h0 | ⟨b, h1, h2, h3⟩
    · rw [h0] at hin; exact absurd hin (Nat.not_lt_zero _)
    have hni : ns[i]? = some ns[i] := List.getElem?_eq_getElem hin
    have hai : ad[i]? = some ad[i] := List.getElem?_eq_getElem (by omega)
    obtain ⟨c1, c2, c3⟩ := h3 i _ _ hni hai
    have c1 : w1.cell? ⟨b, i * 2, none⟩ = some (.string (if i < i then nmS s ns[i] else rawN s ns[i])) := c1
    rw [if_neg (Nat.lt_irrefl i)] at c1
    obtain ⟨hst, hpd⟩ := hok ns[i] (List.getElem_mem hin)
    obtain ⟨r, r1, r2, r3⟩ := raw_str hst
    have r3 : nmS s ns[i] = ⟨r.toArray⟩ := r3
    refine s_chk ⟨by omega, by omega⟩ ⟨_, h1, ?_⟩
    rw [Int.toNat_natCast]
    refine s_load (rawN s ns[i]) (by rw [addr_add, addr_add, Nat.zero_add, Nat.add_zero]; exact c1) ?_
    refine s_call (unesc_any (by unfold rawN; rw [ByteArray.size_extract]; omega) r1 hpd r2) ?_
    rintro e w2 ⟨rfl, k2⟩
    have hb2 := k2.block b h2 id
    refine ⟨⟨r.toArray⟩, rfl, s_store (by rw [addr_add, addr_add, Nat.zero_add, Nat.add_zero]; exact (same_block hb2).1.trans c1) (by rw [addr_add, addr_add, Nat.zero_add, Nat.add_zero]; exact (same_block hb2).2.trans c2) (s_leaf ?_)⟩
    rw [if_pos rfl, addr_add, addr_add, Nat.zero_add, Nat.add_zero]
    have w1' : IntKind.wrap IntKind.i64 ((i : Int) + 1) = ((i + 1 : Nat) : Int) := by rw [wrap_in (by omega) (by omega)]; omega
    rw [w1']
    have hz1 := k1.size
    have hz2 := k2.size
    have hrow : rowB kvs (b, 0) := ⟨_, h1, rfl⟩
    refine ⟨ns.length - (i + 1), (((i + 1 : Nat) : Int), ()), rfl, by omega, i + 1, rfl, rfl, hin, ⟨hK1.1, .inr ⟨b, h1, ?_, fun j n a' hj ha => ?_⟩⟩, (k1.trans (Kp.off k2)).set (a := ⟨b, i * 2, none⟩) hrow _, fun G hGy => ?_⟩
    · show b < (w2.setCell _ _).heap.size
      simp only [World.setCell, Array.size_modify]
      omega
    · obtain ⟨d1, d2, d3⟩ := h3 j n a' hj ha
      have d1 := (same_block (off := j * 2) hb2).1.trans d1
      have d2 := (same_block (off := j * 2) hb2).2.trans d2
      have d3 := (same_block (off := j * 2 + 1) hb2).1.trans d3
      refine ⟨?_, (set_frozen _).trans d2, (set_other (by omega) _).trans d3⟩
      by_cases hji : j = i
      · subst hji
        rw [hni] at hj; cases hj
        rw [set_same d1]
        show some (Value.string ⟨r.toArray⟩) = some (Value.string (if j < j + 1 then nmS s ns[j] else rawN s ns[j]))
        rw [if_pos (Nat.lt_succ_self _), r3]
      · rw [set_other (by omega), d1]
        show some (Value.string (if j < i then nmS s n else rawN s n)) = some (Value.string (if j < i + 1 then nmS s n else rawN s n))
        by_cases g : j < i
        · rw [if_pos g, if_pos (by omega)]
        · rw [if_neg g, if_neg (by omega)]
    · refine ((hG G hGy).trans (Sm.kp k2 fun y hy => ⟨by have := (hGy y hy).1; omega, id⟩)).trans (Sm.set fun hy => (hGy _ hy).2 ⟨_, h1, rfl⟩)
  · have hil : i = ns.length := by omega
    have hv0 : own v v := ⟨rfl, Nat.le_refl _, by omega⟩
    have hb1 : ∀ b, kvs.1 = some ⟨b, 0, none⟩ → ¬ On v.1 b := fun b hb e => hne v ⟨_, hb, (show b = v.1 from e).symm⟩ hv0
    have hC1 : Cs w1 v.1 v.2 (vc kvs false a str t) := hC.sm (F := own v) (hG (own v) fun y hy => ⟨by rw [hy.1]; exact hlt, fun c => hne y c hy⟩) fun j hj => ⟨rfl, Nat.le_add_right _ _, by have : j < 5 := hj; show v.2 + j < v.2 + 5; omega⟩
    refine s_ptr (s_store (by rw [addr_add]; exact (hC1 1 _ rfl).1) (by rw [addr_add]; exact (hC1 1 _ rfl).2) (s_leaf ?_))
    rw [if_neg (by decide), addr_add]
    have k2 : Kp (On v.1) w1 (w1.setCell ⟨v.1, v.2 + 1, none⟩ (.bool true)) := (Kp.refl _ w1).on _ _
    refine ⟨rfl, rfl, hC1.set (i := 1) (by decide : 1 < 5) (.bool true), KV.kp (S := On v.1) ?_ k2 hb1, (k1.mono fun q _ h => .inr h).trans (k2.mono fun q _ h => .inl h), fun G hGy => ?_⟩
    · refine ⟨hK1.1, ?_⟩
      rcases hK1.2 with h | ⟨b, h1, h2, h3⟩
      · exact .inl h
      · refine .inr ⟨b, h1, h2, fun j n a' hj ha => ?_⟩
        obtain ⟨d1, d2, d3⟩ := h3 j n a' hj ha
        have d1 : w1.cell? ⟨b, j * 2, none⟩ = some (.string (if j < i then nmS s n else rawN s n)) := d1
        rw [if_pos (by have := (List.getElem?_eq_some_iff.1 hj).1; omega)] at d1
        exact ⟨d1, d2, d3⟩
    · exact (hG G fun y hy => ⟨(hGy y hy).1, (hGy y hy).2.2⟩).trans (Sm.set fun hy => (hGy _ hy).2.1 ⟨rfl, Nat.le_add_right _ _, by show v.2 + 1 < v.2 + 5; omega⟩)
end Go.Proofs.YtkpnomdmnhhaoaaGreatDoor.Zv
namespace Go.Proofs.YtkpnomdmnhhaoaaGreatDoor.Nt
open Go Go.Proofs Go.RowKit Go.Proofs.YtkpnomdmnhhaoaaGreatDoor.Rx Go.Proofs.YtkpnomdmnhhaoaaGreatDoor.Tr Go.Proofs.YtkpnomdmnhhaoaaGreatDoor.Pl Go.Proofs.YtkpnomdmnhhaoaaGreatDoor.Pw
open Go.Proofs.YtkpnomdmnhhaoaaGreatDoor.Sr (Sl slV places)
open Go.Proofs.YtkpnomdmnhhaoaaGreatDoor.Zu (pd)

variable {w w' : World} {s : ByteArray}
/-- What fjText says. -/
theorem fjText_any (hs : s.size < 4611686018427387904) : Calls Tryz.prog 5 #[.string s] w fun e w' =>
    ∃ (nt : NT) (a b : Sl) (r : Bool), e = .returned (.tuple #[.agg (nc nt.k nt.t a b).toArray, .bool r]) ∧
      (r = true → s.size ≤ 4000 ∧ pd s 0 = true ∧ ∃ p, places s = some p ∧ nt = treeN s p ∧ depN nt ≤ 250 ∧ NdAt (fun q => w.heap.size ≤ q) w' nt (nc nt.k nt.t a b)) ∧ Kp Off w w' := by
  refine laws_fjText.calls _ ?_
  unfold laws_fjText.t
  refine s_alloc ?_
  have b0 := Blk.new w zn tN
  have k0 : Kp Off w (w.alloc (.cells zn.toArray tN (0, 0))) := (Kp.refl Off w).alloc _
  show sat _ _ _ (w.alloc (.cells zn.toArray tN (0, 0)))
  have hz0 : w.heap.size < (w.alloc (.cells zn.toArray tN (0, 0))).heap.size := b0.lt
  generalize w.alloc (.cells zn.toArray tN (0, 0)) = w1 at b0 k0 hz0
  refine s_cut (fun x w' => (∃ b, x = (b, ()) ∧ (b = false → s.size ≤ 4000 ∧ pd s 0 = true)) ∧ w1 = w') (s_iteD (fun _ => s_leaf ?_) (fun hsz => ?_)) ?_
  · rw [if_pos rfl]; exact ⟨(true, ()), rfl, ⟨true, rfl, fun h => by cases h⟩, rfl⟩
  · refine s_call (Ch.utf8_any hs) ?_
    rintro e w2 ⟨rfl, u8, rfl, _⟩
    refine ⟨u8, rfl, s_ite (fun _ => s_leaf ?_) (fun _ => ?_)⟩
    · rw [if_pos rfl]; exact ⟨(true, ()), rfl, ⟨true, rfl, fun h => by cases h⟩, rfl⟩
    refine s_call (paired_any hs) ?_
    rintro e w3 ⟨rfl, rfl⟩
    refine ⟨pd s 0, rfl, s_leaf ?_⟩
    rw [if_pos rfl]
    exact ⟨(!(pd s 0), ()), rfl, ⟨!(pd s 0), rfl, fun h => ⟨by omega, by cases hp : pd s 0 with | true => rfl | false => rw [hp] at h; cases h⟩⟩, rfl⟩
  rintro x w2 ⟨⟨b, rfl, hb⟩, rfl⟩
  simp only [laws_fjText.t1]
  refine s_ite (fun _ => ?_) (fun hbf => ?_)
  · obtain ⟨w2, h2, b2, k2⟩ := storeN b0 rfl 0 (ByteArray.mk #[]) (none, 0, 0) (none, 0, 0)
    refine s_effU h2 (s_effS ((0 : Int), ByteArray.mk #[], (none, 0, 0), (none, 0, 0), ()) (loadN b2) (s_leaf ⟨rfl, .mk 0 (ByteArray.mk #[]) [] [], (none, 0, 0), (none, 0, 0), false, rfl, (fun h => by cases h), k0.then k2 fun q hq e => by have : q = w.heap.size := e; omega⟩))
  obtain ⟨hsz, hpd⟩ := hb hbf
  refine s_call (read_any (by omega)) ?_
  rintro e w2 ⟨nt, a, b, rfl, hN, hsome, hnone, k2⟩
  refine ⟨(((nt.k : Int), nt.t, a, b, ()), (places s).isSome, ()), rfl, ?_⟩
  refine s_alloc ?_
  have c0 := Blk.new w2 zn tN
  have k3 : Kp Off w2 (w2.alloc (.cells zn.toArray tN (0, 0))) := (Kp.refl Off w2).alloc _
  show sat _ _ _ (w2.alloc (.cells zn.toArray tN (0, 0)))
  have hz2 : w2.heap.size < (w2.alloc (.cells zn.toArray tN (0, 0))).heap.size := c0.lt
  generalize w2.alloc (.cells zn.toArray tN (0, 0)) = w3 at c0 k3 hz2
  obtain ⟨w4, h4, c4, k4⟩ := storeN c0 rfl nt.k nt.t a b
  refine s_effU h4 (s_drew ?_)
  have k4' : Kp (On w2.heap.size) w3 w4.drew := k4.drew
  have c5 : Blk w4.drew w2.heap.size (nc nt.k nt.t a b) tN := c4.drew
  generalize w4.drew = w5 at k4' c5
  have k25 : Kp Off w2 w5 := k3.then k4' fun q hq e => by have : q = w2.heap.size := e; omega
  have k15 : Kp Off w1 w5 := k2.trans k25
  have b5 := k15.blk b0 id
  have hN5 : NdAt (fun q => w1.heap.size ≤ q) w5 nt (nc nt.k nt.t a b) := hN.kp k25 fun q _ h => ⟨h, id⟩
  have hz1 := k0.size
  have hz15 := k15.size
  refine ⟨((nt.k : Int), nt.t, a, b, ()), fun w'' hw'' => loadN ((Kp.of_below (S := Off) hw'').blk c5 id), ?_⟩
  refine s_ite (fun hso => ?_) (fun hno => ?_)
  · obtain ⟨p, hp⟩ := Option.isSome_iff_exists.1 hso
    have hnt := hsome p hp
    obtain ⟨_, hwf, _⟩ := Lj.places_of hp
    have hl := hwf.lt
    refine ⟨((nt.k : Int), nt.t, a, b, ()), fun w'' hw'' => loadN ((Kp.of_below (S := Off) hw'').blk c5 id), s_hereN ?_⟩
    refine s_call (depth_any (SizeOf.sizeOf nt + 1) nt w5 _ a b (Nat.lt_succ_self _) (by rw [hnt]; exact sm_tree (by omega) _ p (Nat.lt_succ_self _) hwf) (by rw [hnt]; have := depN_le s _ p (Nat.lt_succ_self _) hwf; omega) hN5) ?_
    rintro e w6 ⟨rfl, k6⟩
    refine ⟨(depN nt : Int), rfl, k6.belowOff, ?_⟩
    have b6 := k6.blk b5 id
    obtain ⟨w7, h7, b7, k7⟩ := storeN b6 rfl nt.k nt.t a b
    have hz6 := k6.size
    have k17 : Kp Off w1 w6 := k15.trans k6
    refine s_effU h7 (s_effS ((nt.k : Int), nt.t, a, b, ()) (loadN b7) (s_leaf ⟨rfl, nt, a, b, decide ((depN nt : Int) ≤ 250), rfl, fun h => ⟨hsz, hpd, p, hp, hnt, by have := of_decide_eq_true h; omega, ?_⟩, (k0.trans k17).then k7 fun q hq e => by have : q = w.heap.size := e; omega⟩))
    exact hN5.kp (k6.off.trans k7) fun q _ h => ⟨by omega, fun e => by have : q = w.heap.size := e; omega⟩
  · refine s_hereN ⟨(Kp.refl Off _).belowOff, ?_⟩
    obtain ⟨w7, h7, b7, k7⟩ := storeN b5 rfl nt.k nt.t a b
    refine s_effU h7 (s_effS ((nt.k : Int), nt.t, a, b, ()) (loadN b7) (s_leaf ⟨rfl, nt, a, b, false, rfl, (fun h => by cases h), (k0.trans k15).then k7 fun q hq e => by have : q = w.heap.size := e; omega⟩))
end Go.Proofs.YtkpnomdmnhhaoaaGreatDoor.Nt
