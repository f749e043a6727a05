/- fastjson: Object.Get, unescapeKeys, Value.Get and GetBool of a value that was read; impl.FjGetBool. No statement of the set is proved here. -/
import Derived.Test.YtkpnomdmnhhaoaaDoorZx
import Derived.Test.YtkpnomdmnhhaoaaDoorSh
namespace Go.Proofs.YtkpnomdmnhhaoaaDoor.Zv
open Go Go.Proofs Go.RowKit Go.Proofs.YtkpnomdmnhhaoaaDoor.Rx Go.Proofs.YtkpnomdmnhhaoaaDoor.Tr Go.Proofs.YtkpnomdmnhhaoaaDoor.Pl Go.Proofs.YtkpnomdmnhhaoaaDoor.Pw Go.Proofs.YtkpnomdmnhhaoaaDoor.Sk Go.Proofs.YtkpnomdmnhhaoaaDoor.Zs Go.Proofs.YtkpnomdmnhhaoaaDoor.Bw Go.Proofs.YtkpnomdmnhhaoaaDoor.Zf
open Go.Proofs.YtkpnomdmnhhaoaaDoor.Sr (Sl slV tBs tB)
open Go.Proofs.YtkpnomdmnhhaoaaDoor.Ed (mvP mvP_b mvP_e mvP_k)
open Go.Proofs.YtkpnomdmnhhaoaaDoor.Ka (nmS)
open Go.Proofs.YtkpnomdmnhhaoaaDoor.Zu (PdV PdL pd)
open Go.Proofs.YtkpnomdmnhhaoaaDoor.Ze (MB unesc_any s2b_any bytes_back tl_all uo_run)
open Go.Proofs.YtkpnomdmnhhaoaaDoor.Nt (NT treeN treeL treeN_k treeN_keys treeN_kids treeL_len kid_in)

variable {w w0 w' w'' w1 : World} {v : Nat × Nat} {s : ByteArray} {F G : Nat × Nat → Prop} {p : PT}
/-- A name as it stands in the text. -/
def rawN (s : ByteArray) (n : Nat × Nat) : ByteArray := s.extract (n.1 + 1) (n.2 - 1)
/-- The members' row, the names as f says. -/
def KV (w : World) (kvs : Sl) (f : Nat → Nat × Nat → ByteArray) (ns ad : List (Nat × Nat)) : Prop :=
  kvs.2.1 = ns.length ∧ (ns = [] ∨ ∃ b, kvs.1 = some ⟨b, 0, none⟩ ∧ b < w.heap.size ∧ ∀ (j : Nat) (n a : Nat × Nat), ns[j]? = some n → ad[j]? = some a →
    w.cell? ⟨b, j * 2, none⟩ = some (.string (f j n)) ∧ w.frozen? ⟨b, j * 2, none⟩ = false ∧ w.cell? ⟨b, j * 2 + 1, none⟩ = some (ptrV a))
theorem kvC_get : ∀ (ns ad : List (Nat × Nat)) (j : Nat) (n a : Nat × Nat), ns[j]? = some n → ad[j]? = some a → (kvC s ns ad)[j * 2]? = some (.string (rawN s n)) ∧ (kvC s ns ad)[j * 2 + 1]? = some (ptrV a)
  | [], _, _, _, _, h, _ => by simp at h
  | _ :: _, [], _, _, _, _, h => by simp at h
  | m :: ns, c :: ad, 0, n, a, h1, h2 => by
    simp only [List.getElem?_cons_zero, Option.some.injEq] at h1 h2
    subst h1; subst h2
    exact ⟨rfl, rfl⟩
  | m :: ns, c :: ad, j + 1, n, a, h1, h2 => by
    obtain ⟨g1, g2⟩ := kvC_get ns ad j n a (by simpa using h1) (by simpa using h2)
    have e : kvC s (m :: ns) (c :: ad) = .string (s.extract (m.1 + 1) (m.2 - 1)) :: ptrV c :: kvC s ns ad := rfl
    rw [e]
    refine ⟨?_, ?_⟩
    · rw [show (j + 1) * 2 = j * 2 + 1 + 1 by omega, List.getElem?_cons_succ, List.getElem?_cons_succ]; exact g1
    · rw [show (j + 1) * 2 + 1 = j * 2 + 1 + 1 + 1 by omega, List.getElem?_cons_succ, List.getElem?_cons_succ]; exact g2
theorem kv_of {kvs : Sl} {ns ad : List (Nat × Nat)} {n : Nat} (h : RR w kvs n (kvC s ns ad)) (hn : ns.length = n) (ha : ad.length = n) : KV w kvs (fun _ => rawN s) ns ad := by
  obtain ⟨h1, h2, h3⟩ := h
  refine ⟨h1.trans hn.symm, ?_⟩
  cases ns with
  | nil => exact .inl rfl
  | cons m ns =>
    right
    cases ad with
    | nil => simp at ha hn; omega
    | cons c ad =>
      rcases h3 with h3 | ⟨b, h4, h5⟩
      · cases h3
      · refine ⟨b, h4, Ms.cell_lt (h5 0 _ rfl).1, fun j n a hj ha => ?_⟩
        obtain ⟨g1, g2⟩ := kvC_get _ _ j n a hj ha
        obtain ⟨c1, c2⟩ := h5 _ _ g1
        obtain ⟨d1, d2⟩ := h5 _ _ g2
        rw [Nat.zero_add] at c1 c2 d1
        exact ⟨c1, c2, d1⟩
theorem KV.kp {kvs : Sl} {f : Nat → Nat × Nat → ByteArray} {ns ad : List (Nat × Nat)} {S : Nat → Prop} (h : KV w kvs f ns ad) (k : Kp S w w') (hS : ∀ b, kvs.1 = some ⟨b, 0, none⟩ → ¬ S b) : KV w' kvs f ns ad := by
  refine ⟨h.1, ?_⟩
  rcases h.2 with h | ⟨b, h1, h2, h3⟩
  · exact .inl h
  · refine .inr ⟨b, h1, Nat.lt_of_lt_of_le h2 k.size, fun j n a hj ha => ?_⟩
    obtain ⟨c1, c2, c3⟩ := h3 j n a hj ha
    have hb := k.block b h2 (hS b h1)
    exact ⟨(same_block hb).1.trans c1, (same_block hb).2.trans c2, (same_block hb).1.trans c3⟩
theorem nm_raw {n : Nat × Nat} {key : ByteArray} (h : rawN s n = key) (hk : ∀ j, j < key.size → Ut.bn key j ≠ 92) : nmS s n = key := by
  have e : nmS s n = ⟨((Uq.uo (rawN s n) 0).getD []).toArray⟩ := rfl
  rw [e, h]
  have := uo_run (x := key) (a := 0) (b := key.size) rfl (Nat.zero_le _) (Nat.le_refl _) (fun j _ hj => hk j hj)
  rw [Uq.uo_end (Nat.le_refl _), Nat.sub_zero, tl_all] at this
  have this : Uq.uo key 0 = some (key.data.toList ++ []) := this
  rw [this, List.append_nil]
  exact bytes_back key
/-- What is asked of the names. -/
def NmOk (s : ByteArray) (ns : List (Nat × Nat)) : Prop := ∀ n ∈ ns, strE s (n.1 + 1) = some n.2 ∧ pd (rawN s n) 0 = true
/-- unescapeKeys over names that are not yet read. -/
theorem unescKeys_any {kvs a : Sl} {str : ByteArray} {t : Int} {ns ad : List (Nat × Nat)} (hs : s.size ≤ 100000) (hC : Cs w v.1 v.2 (vc kvs false a str t)) (hl : ad.length = ns.length) (hn : ns.length ≤ 1000000)
    (hK : KV w kvs (fun _ => rawN s) ns ad) (hne : ∀ y, rowB kvs y → ¬ own v y) (hok : NmOk s ns) :
    Calls Tryd.prog 72 #[.pointer (some ⟨v.1, v.2, none⟩)] w fun e w' => e = .returned (.tuple #[]) ∧ Cs w' v.1 v.2 (vc kvs true a str t) ∧ KV w' kvs (fun _ => nmS s) ns ad ∧
      Kp (fun q => q = v.1 ∨ rowB kvs (q, 0)) w w' ∧ ∀ G : Nat × Nat → Prop, (∀ y, G y → y.1 < w.heap.size ∧ ¬ own v y ∧ ¬ rowB kvs y) → Sm G w w' := by
  have hlt := hC.lt
  refine fastjson_Object_unescapeKeys.calls _ ?_
  unfold fastjson_Object_unescapeKeys.t
  refine s_ptr (s_load false (by rw [addr_add]; exact (hC 1 _ rfl).1) (sat_iteF.2 (s_ptr (s_load kvs (by rw [addr_add]; exact (hC 0 _ rfl).1) ?_))))
  have hlen := hK.1
  refine s_loop (fun m z w' => ∃ i : Nat, m = ns.length - i ∧ z = ((i : Int), ()) ∧ i ≤ ns.length ∧ KV w' kvs (fun j n => if j < i then nmS s n else rawN s n) ns ad ∧ Kp (fun q => rowB kvs (q, 0)) w w' ∧ ∀ G : Nat × Nat → Prop, (∀ y, G y → y.1 < w.heap.size ∧ ¬ rowB kvs y) → Sm G w w') ns.length ((0 : Int), ()) rfl
    ⟨0, rfl, rfl, Nat.zero_le _, by simpa using hK, Kp.refl _ _, fun G _ y _ => ⟨rfl, rfl⟩⟩ ?_
  rintro m z w1 ⟨i, rfl, rfl, hi, hK1, k1, hG⟩
  show sat _ (fastjson_Object_unescapeKeys.t1 (some ⟨v.1, v.2, none⟩) kvs (i : Int)) _ _
  unfold fastjson_Object_unescapeKeys.t1
  refine s_iteD (fun hlti => ?_) (fun hge => ?_)
  · have hin : i < ns.length := by omega
    rcases hK1.2 with h0 | ⟨b, h1, h2, h3⟩
    · rw [h0] at hin; exact absurd hin (Nat.not_lt_zero _)
    have hni : ns[i]? = some ns[i] := List.getElem?_eq_getElem hin
    have hai : ad[i]? = some ad[i] := List.getElem?_eq_getElem (by omega)
    obtain ⟨c1, c2, c3⟩ := h3 i _ _ hni hai
    have c1 : w1.cell? ⟨b, i * 2, none⟩ = some (.string (if i < i then nmS s ns[i] else rawN s ns[i])) := c1
    rw [if_neg (Nat.lt_irrefl i)] at c1
    obtain ⟨hst, hpd⟩ := hok ns[i] (List.getElem_mem hin)
    obtain ⟨r, r1, r2, r3⟩ := raw_str hst
    have r3 : nmS s ns[i] = ⟨r.toArray⟩ := r3
    refine s_chk ⟨by omega, by omega⟩ ⟨_, h1, ?_⟩
    rw [Int.toNat_natCast]
    refine s_load (rawN s ns[i]) (by rw [addr_add, addr_add, Nat.zero_add, Nat.add_zero]; exact c1) ?_
    refine s_call (unesc_any (by unfold rawN; rw [ByteArray.size_extract]; omega) r1 hpd r2) ?_
    rintro e w2 ⟨rfl, k2⟩
    have hb2 := k2.block b h2 id
    refine ⟨⟨r.toArray⟩, rfl, s_store (by rw [addr_add, addr_add, Nat.zero_add, Nat.add_zero]; exact (same_block hb2).1.trans c1) (by rw [addr_add, addr_add, Nat.zero_add, Nat.add_zero]; exact (same_block hb2).2.trans c2) (s_leaf ?_)⟩
    rw [if_pos rfl, addr_add, addr_add, Nat.zero_add, Nat.add_zero]
    have w1' : IntKind.wrap IntKind.i64 ((i : Int) + 1) = ((i + 1 : Nat) : Int) := by rw [wrap_in (by omega) (by omega)]; omega
    rw [w1']
    have hz1 := k1.size
    have hz2 := k2.size
    have hrow : rowB kvs (b, 0) := ⟨_, h1, rfl⟩
    refine ⟨ns.length - (i + 1), (((i + 1 : Nat) : Int), ()), rfl, by omega, i + 1, rfl, rfl, hin, ⟨hK1.1, .inr ⟨b, h1, ?_, fun j n a' hj ha => ?_⟩⟩, (k1.trans (Kp.off k2)).set (a := ⟨b, i * 2, none⟩) hrow _, fun G hGy => ?_⟩
    · show b < (w2.setCell _ _).heap.size
      simp only [World.setCell, Array.size_modify]
      omega
    · obtain ⟨d1, d2, d3⟩ := h3 j n a' hj ha
      have d1 := (same_block (off := j * 2) hb2).1.trans d1
      have d2 := (same_block (off := j * 2) hb2).2.trans d2
      have d3 := (same_block (off := j * 2 + 1) hb2).1.trans d3
      refine ⟨?_, (set_frozen _).trans d2, (set_other (by omega) _).trans d3⟩
      by_cases hji : j = i
      · subst hji
        rw [hni] at hj; cases hj
        rw [set_same d1]
        show some (Value.string ⟨r.toArray⟩) = some (Value.string (if j < j + 1 then nmS s ns[j] else rawN s ns[j]))
        rw [if_pos (Nat.lt_succ_self _), r3]
      · rw [set_other (by omega), d1]
        show some (Value.string (if j < i then nmS s n else rawN s n)) = some (Value.string (if j < i + 1 then nmS s n else rawN s n))
        by_cases g : j < i
        · rw [if_pos g, if_pos (by omega)]
        · rw [if_neg g, if_neg (by omega)]
    · refine ((hG G hGy).trans (Sm.kp k2 fun y hy => ⟨by have := (hGy y hy).1; omega, id⟩)).trans (Sm.set fun hy => (hGy _ hy).2 ⟨_, h1, rfl⟩)
  · have hil : i = ns.length := by omega
    have hv0 : own v v := ⟨rfl, Nat.le_refl _, by omega⟩
    have hb1 : ∀ b, kvs.1 = some ⟨b, 0, none⟩ → ¬ On v.1 b := fun b hb e => hne v ⟨_, hb, (show b = v.1 from e).symm⟩ hv0
    have hC1 : Cs w1 v.1 v.2 (vc kvs false a str t) := hC.sm (F := own v) (hG (own v) fun y hy => ⟨by rw [hy.1]; exact hlt, fun c => hne y c hy⟩) fun j hj => ⟨rfl, Nat.le_add_right _ _, by have : j < 5 := hj; show v.2 + j < v.2 + 5; omega⟩
    refine s_ptr (s_store (by rw [addr_add]; exact (hC1 1 _ rfl).1) (by rw [addr_add]; exact (hC1 1 _ rfl).2) (s_leaf ?_))
    rw [if_neg (by decide), addr_add]
    have k2 : Kp (On v.1) w1 (w1.setCell ⟨v.1, v.2 + 1, none⟩ (.bool true)) := (Kp.refl _ w1).on _ _
    refine ⟨rfl, rfl, hC1.set (i := 1) (by decide : 1 < 5) (.bool true), KV.kp (S := On v.1) ?_ k2 hb1, (k1.mono fun q _ h => .inr h).trans (k2.mono fun q _ h => .inl h), fun G hGy => ?_⟩
    · refine ⟨hK1.1, ?_⟩
      rcases hK1.2 with h | ⟨b, h1, h2, h3⟩
      · exact .inl h
      · refine .inr ⟨b, h1, h2, fun j n a' hj ha => ?_⟩
        obtain ⟨d1, d2, d3⟩ := h3 j n a' hj ha
        have d1 : w1.cell? ⟨b, j * 2, none⟩ = some (.string (if j < i then nmS s n else rawN s n)) := d1
        rw [if_pos (by have := (List.getElem?_eq_some_iff.1 hj).1; omega)] at d1
        exact ⟨d1, d2, d3⟩
    · exact (hG G fun y hy => ⟨(hGy y hy).1, (hGy y hy).2.2⟩).trans (Sm.set fun hy => (hGy _ hy).2.1 ⟨rfl, Nat.le_add_right _ _, by show v.2 + 1 < v.2 + 5; omega⟩)
/-- What Object.Get says. -/
def ObPost (s : ByteArray) (v : Nat × Nat) (kvs : Sl) (ns ad : List (Nat × Nat)) (key : ByteArray) (w : World) (e : Ending) (w' : World) : Prop :=
  ((∃ (i : Nat) (n a : Nat × Nat), ns[i]? = some n ∧ ad[i]? = some a ∧ nmS s n = key ∧ e = .returned (ptrV a)) ∨ ((∀ n ∈ ns, nmS s n ≠ key) ∧ e = .returned (.pointer none))) ∧
    Kp (fun q => q = v.1 ∨ rowB kvs (q, 0)) w w' ∧ ∀ G : Nat × Nat → Prop, (∀ y, G y → y.1 < w.heap.size ∧ ¬ own v y ∧ ¬ rowB kvs y) → Sm G w w'
theorem obGet_any {kvs a : Sl} {str key : ByteArray} {t : Int} {ns ad : List (Nat × Nat)} (hs : s.size ≤ 100000) (hC : Cs w v.1 v.2 (vc kvs false a str t)) (hl : ad.length = ns.length) (hn : ns.length ≤ 1000000)
    (hK : KV w kvs (fun _ => rawN s) ns ad) (hne : ∀ y, rowB kvs y → ¬ own v y) (hok : NmOk s ns) :
    Calls Tryd.prog 54 #[.pointer (some ⟨v.1, v.2, none⟩), .string key] w (ObPost s v kvs ns ad key w) := by
  have hlen := hK.1
  refine fastjson_Object_Get.calls _ _ ?_
  unfold fastjson_Object_Get.t
  refine s_cut (fun z w' => ∃ b : Bool, z = (b, ()) ∧ (b = true → ∀ j, j < key.size → Ut.bn key j ≠ 92) ∧ w = w') ?_ ?_
  · refine s_ptr (s_load false (by rw [addr_add]; exact (hC 1 _ rfl).1) (sat_iteT.2 ?_))
    refine s_call (Tryd.strings_IndexByte key 92 w) ?_
    rintro e w1 ⟨rfl, rfl⟩
    refine ⟨Lib.indexByte key.data.toList 92, rfl, s_leaf ?_⟩
    rw [if_pos rfl]
    refine ⟨(decide (Lib.indexByte key.data.toList 92 < 0), ()), rfl, _, rfl, fun h => ?_, rfl⟩
    have h := of_decide_eq_true h
    have hix := ix_sfx (s := key) 0 92
    rw [sfx_zero] at hix
    rcases hix with ⟨_, h2⟩ | ⟨j, h1, _⟩
    · intro j hj
      have := h2 j (by omega)
      rwa [Nat.zero_add] at this
    · omega
  rintro z w1 ⟨b, rfl, hb, rfl⟩
  simp only [fastjson_Object_Get.t1]
  have nokp : ∀ G : Nat × Nat → Prop, (∀ y, G y → y.1 < w.heap.size ∧ ¬ own v y ∧ ¬ rowB kvs y) → Sm G w w := fun G _ y _ => ⟨rfl, rfl⟩
  refine s_cut (fun _ w' => w = w') (s_ite (fun hbt => ?_) (fun _ => s_leaf ?_)) ?_
  · refine s_ptr (s_load kvs (by rw [addr_add]; exact (hC 0 _ rfl).1) ?_)
    refine s_loop (fun m z w' => ∃ i : Nat, m = ns.length - i ∧ z = ((i : Int), ()) ∧ i ≤ ns.length ∧ w = w') ns.length ((0 : Int), ()) rfl ⟨0, rfl, rfl, Nat.zero_le _, rfl⟩ ?_
    rintro m z w1 ⟨i, rfl, rfl, hi, rfl⟩
    show sat _ (fastjson_Object_Get.t2 key kvs (i : Int)) _ _
    unfold fastjson_Object_Get.t2
    refine s_iteD (fun hlti => ?_) (fun hge => s_leaf ?_)
    · have hin : i < ns.length := by omega
      rcases hK.2 with h0 | ⟨b', h1, h2, h3⟩
      · rw [h0] at hin; exact absurd hin (Nat.not_lt_zero _)
      have hni : ns[i]? = some ns[i] := List.getElem?_eq_getElem hin
      have hai : ad[i]? = some ad[i] := List.getElem?_eq_getElem (by omega)
      obtain ⟨c1, c2, c3⟩ := h3 i _ _ hni hai
      refine s_chk ⟨by omega, by omega⟩ ⟨_, h1, ?_⟩
      rw [Int.toNat_natCast]
      refine s_load (rawN s ns[i]) (by rw [addr_add, addr_add, Nat.zero_add, Nat.add_zero]; exact c1) (s_ite (fun he => ?_) (fun _ => s_leaf ?_))
      · refine s_load (s := .ptr) (some ⟨ad[i].1, ad[i].2, none⟩) (by rw [addr_add, addr_add, Nat.zero_add]; exact c3) (s_leaf ?_)
        rw [if_neg (by decide), if_neg (by decide)]
        exact ⟨rfl, .inl ⟨i, _, _, hni, hai, nm_raw (strEq_iff.1 he) (hb hbt), rfl⟩, Kp.refl _ _, nokp⟩
      · rw [if_pos rfl]
        have w1' : IntKind.wrap IntKind.i64 ((i : Int) + 1) = ((i + 1 : Nat) : Int) := by rw [wrap_in (by omega) (by omega)]; omega
        rw [w1']
        exact ⟨ns.length - (i + 1), (((i + 1 : Nat) : Int), ()), rfl, by omega, i + 1, rfl, rfl, hin, rfl⟩
    · rw [if_neg (by decide), if_pos rfl]; exact ⟨(), rfl, rfl⟩
  · rw [if_pos rfl]; exact ⟨(), rfl, rfl⟩
  rintro z w1 rfl
  simp only [fastjson_Object_Get.t3]
  refine s_call (unescKeys_any hs hC hl hn hK hne hok) ?_
  rintro e w1 ⟨rfl, hC1, hK1, k1, hG⟩
  refine ⟨(), rfl, s_ptr (s_load kvs (by rw [addr_add]; exact (hC1 0 _ rfl).1) ?_)⟩
  refine s_loop (fun m z w' => ∃ i : Nat, m = ns.length - i ∧ z = ((i : Int), ()) ∧ i ≤ ns.length ∧ (∀ (j : Nat) (n : Nat × Nat), j < i → ns[j]? = some n → nmS s n ≠ key) ∧ w1 = w') ns.length ((0 : Int), ()) rfl ⟨0, rfl, rfl, Nat.zero_le _, fun j _ h => absurd h (Nat.not_lt_zero j), rfl⟩ ?_
  rintro m z w2 ⟨i, rfl, rfl, hi, hno, rfl⟩
  show sat _ (fastjson_Object_Get.t4 key kvs (i : Int)) _ _
  unfold fastjson_Object_Get.t4
  refine s_iteD (fun hlti => ?_) (fun hge => s_leaf ?_)
  · have hin : i < ns.length := by omega
    rcases hK1.2 with h0 | ⟨b', h1, h2, h3⟩
    · rw [h0] at hin; exact absurd hin (Nat.not_lt_zero _)
    have hni : ns[i]? = some ns[i] := List.getElem?_eq_getElem hin
    have hai : ad[i]? = some ad[i] := List.getElem?_eq_getElem (by omega)
    obtain ⟨c1, c2, c3⟩ := h3 i _ _ hni hai
    refine s_chk ⟨by omega, by omega⟩ ⟨_, h1, ?_⟩
    rw [Int.toNat_natCast]
    refine s_load (nmS s ns[i]) (by rw [addr_add, addr_add, Nat.zero_add, Nat.add_zero]; exact c1) (s_ite (fun he => ?_) (fun hee => s_leaf ?_))
    · refine s_load (s := .ptr) (some ⟨ad[i].1, ad[i].2, none⟩) (by rw [addr_add, addr_add, Nat.zero_add]; exact c3) (s_leaf ?_)
      rw [if_neg (by decide)]
      exact ⟨rfl, .inl ⟨i, _, _, hni, hai, strEq_iff.1 he, rfl⟩, k1, hG⟩
    · rw [if_pos rfl]
      have w1' : IntKind.wrap IntKind.i64 ((i : Int) + 1) = ((i + 1 : Nat) : Int) := by rw [wrap_in (by omega) (by omega)]; omega
      rw [w1']
      refine ⟨ns.length - (i + 1), (((i + 1 : Nat) : Int), ()), rfl, by omega, i + 1, rfl, rfl, hin, fun j n hj hjn => ?_, rfl⟩
      rcases Nat.lt_or_ge j i with g | g
      · exact hno j n g hjn
      · have : j = i := by omega
        subst this
        rw [hni] at hjn; cases hjn
        intro hc
        rw [strEq_iff.2 hc] at hee; cases hee
  · rw [if_neg (by decide)]
    refine ⟨rfl, .inr ⟨fun n hn' => ?_, rfl⟩, k1, hG⟩
    obtain ⟨j, hj⟩ := List.mem_iff_getElem?.1 hn'
    exact hno j n (by have := (List.getElem?_eq_some_iff.1 hj).1; omega) hj
end Go.Proofs.YtkpnomdmnhhaoaaDoor.Zv
