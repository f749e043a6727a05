/- jsonparser's search by keys, Get and ArrayEach by keys (the texts Ku Kv Kw Kx Ky of this repo put together). No statement of the set is proved here. -/
import Derived.Test.YtlfebfkphgelfaaDoorMC
import Derived.Test.YtlfebfkphgelfaaDoorMG
namespace Go.Proofs.YtlfebfkphgelfaaDoor.Ka
open Go Go.Proofs Go.RowKit Go.Proofs.YtlfebfkphgelfaaDoor.Rx Go.Proofs.YtlfebfkphgelfaaDoor.Pl Go.Proofs.YtlfebfkphgelfaaDoor.Pw Go.Proofs.YtlfebfkphgelfaaDoor.Sk

/-- A name's characters, by its span. -/
def nmS (s : ByteArray) (n : Nat × Nat) : ByteArray := ⟨((Uq.uo (s.extract (n.1 + 1) (n.2 - 1)) 0).getD []).toArray⟩
theorem ext_size {s : ByteArray} {p k : Nat} (h : p + k ≤ s.size) : (s.extract p (p + k)).size = k := by rw [ByteArray.size_extract]; omega
theorem ext_bt {s : ByteArray} {p k j : Nat} (h : p + k ≤ s.size) (hj : j < k) : bt (s.extract p (p + k)) (j : Int) = bt s ((p + j : Nat) : Int) := bt_extract h (by omega)
theorem ext_bn {s : ByteArray} {p k j : Nat} (h : p + k ≤ s.size) (hj : j < k) : Ut.bn (s.extract p (p + k)) j = Ut.bn s (p + j) := by
  have := ext_bt h hj
  rw [Ut.bt_bn, Ut.bt_bn] at this
  exact Int.ofNat.inj this
theorem ext_hexE {s : ByteArray} {p k : Nat} (h : p + k ≤ s.size) : ∀ {n i : Nat}, i + n ≤ k → hexE s (p + i) n = some (p + i + n) → hexE (s.extract p (p + k)) i n = some (i + n)
  | 0, i, _, _ => rfl
  | n + 1, i, hk, hh => by
    unfold hexE at hh ⊢
    rw [ext_bt h (by omega)]
    split at hh
    · rename_i g
      rw [if_pos g]
      have := ext_hexE (n := n) (i := i + 1) h (by omega) (by rw [show p + (i + 1) + n = p + i + (n + 1) by omega]; exact hh)
      rw [this]; congr 1; omega
    · cases hh
theorem ext_escE {s : ByteArray} {p k i m : Nat} (h : p + k ≤ s.size) (hm : m ≤ p + k) (he : escE s (p + i) = some m) : escE (s.extract p (p + k)) i = some (m - p) := by
  unfold escE at he ⊢
  split at he
  · rename_i g
    cases he
    rw [ext_bt h (by omega), if_pos g]; congr 1; omega
  · rename_i g
    split at he
    · rename_i g2
      obtain ⟨e1, _⟩ := hexE_le he
      rw [ext_bt h (by omega), if_neg g, if_pos g2]
      subst e1
      rw [ext_hexE h (by omega) he]; congr 1; omega
    · cases he
theorem vd_strE {s : ByteArray} {p k : Nat} (h : p + k ≤ s.size) : ∀ (n j : Nat), k - j ≤ n → strE s (p + j) = some (p + k + 1) → Je.vd (s.extract p (p + k)) j = true
  | 0, j, hn, _ => Je.vd_end (by rw [ext_size h]; omega)
  | n + 1, j, hn, hs => by
    rcases Nat.lt_or_ge j k with hj | hj
    rotate_left
    · exact Je.vd_end (by rw [ext_size h]; exact hj)
    by_cases h34 : bt s ((p + j : Nat) : Int) = 34
    · rw [strE_q h34] at hs
      have := Option.some.inj hs
      omega
    by_cases h32 : bt s ((p + j : Nat) : Int) < 32
    · rw [strE_ctl h32] at hs; cases hs
    by_cases h92 : bt s ((p + j : Nat) : Int) = 92
    · rw [strE_esc h92] at hs
      cases he : escE s (p + j + 1) with
      | none => rw [he] at hs; cases hs
      | some m =>
        rw [he] at hs
        have hs : strE s m = some (p + k + 1) := hs
        have h1 := strE_le hs
        have h2 := escE_le he
        have he' := ext_escE (i := j + 1) h (m := m) (by omega) he
        have hb : Ut.bn (s.extract p (p + k)) j = 92 := by
          have := ext_bt h hj
          rw [h92, Ut.bt_bn] at this
          exact Int.ofNat.inj this
        rw [Je.vd_esc hb he']
        exact vd_strE h n (m - p) (by omega) (by rw [show p + (m - p) = m by omega]; exact hs)
    · have hlt : p + j < s.size := by omega
      rw [strE_plain hlt h34 h32 h92] at hs
      have hb : Ut.bn (s.extract p (p + k)) j ≠ 92 := fun g => by
        have := ext_bt h hj
        rw [Ut.bt_bn, g] at this
        exact h92 this.symm
      rw [Je.vd_plain (by rw [ext_size h]; exact hj) hb]
      exact vd_strE h n (j + 1) (by omega) hs
/-- What a name stands for. -/
theorem nm_ue {s : ByteArray} {i k : Nat} (h : strE s (i + 1) = some (i + 1 + k + 1)) : ∃ r, Je.ue (s.extract (i + 1) (i + 1 + k)) 0 = some r ∧ Uq.uo (s.extract (i + 1) (i + 1 + k)) 0 = some r ∧ nmS s (i, i + 1 + k + 1) = ⟨r.toArray⟩ := by
  have hl := strE_le h
  have hv := vd_strE (s := s) (p := i + 1) (k := k) (by omega) k 0 (by omega) h
  obtain ⟨r, r1, r2⟩ := (Je.same_any (s := s.extract (i + 1) (i + 1 + k)) _ 0 (Nat.le_refl _)).1 hv
  refine ⟨r, r2, r1, ?_⟩
  show ByteArray.mk ((Uq.uo (s.extract (i + 1) (i + 1 + k + 1 - 1)) 0).getD []).toArray = _
  rw [Nat.add_sub_cancel, r1]; rfl
theorem esc_all {s : ByteArray} {p : Nat} : ∀ {n : Nat}, esc s p n = false → ∀ j, j < n → bt s ((p + j : Nat) : Int) ≠ 92
  | 0, _, j, hj => by omega
  | n + 1, h, j, hj => by
    unfold esc at h
    obtain ⟨h1, h2⟩ := Bool.or_eq_false_iff.1 h
    rcases Nat.lt_or_ge j n with g | g
    · exact esc_all h1 j g
    · have : j = n := by omega
      subst this
      exact fun e => by rw [e] at h2; cases h2
theorem ue_plain_all {x : ByteArray} : ∀ (n i : Nat), x.size - i ≤ n → (∀ j, i ≤ j → j < x.size → Ut.bn x j ≠ 92) → Je.ue x i = some (Ql.tl x i)
  | 0, i, hn, _ => by rw [Je.ue_end (by omega), Ql.tl_end (by omega)]
  | n + 1, i, hn, h => by
    rcases Nat.lt_or_ge i x.size with hi | hi
    · rw [Je.ue_plain hi (h i (Nat.le_refl i) hi), ue_plain_all n (i + 1) (by omega) (fun j g1 g2 => h j (by omega) g2), Ql.tl_on hi]; rfl
    · rw [Je.ue_end hi, Ql.tl_end hi]
/-- A name without backslashes stands for itself. -/
theorem nm_plain {s : ByteArray} {i k : Nat} (h : strE s (i + 1) = some (i + 1 + k + 1)) (he : esc s (i + 1) k = false) : nmS s (i, i + 1 + k + 1) = s.extract (i + 1) (i + 1 + k) := by
  have hl := strE_le h
  obtain ⟨r, r1, _, r3⟩ := nm_ue h
  rw [r3]
  have hz := ext_size (s := s) (p := i + 1) (k := k) (by omega)
  rw [ue_plain_all _ 0 (Nat.le_refl _) (fun j _ hj => by
    rw [hz] at hj
    intro g
    have := ext_bt (s := s) (p := i + 1) (k := k) (by omega) hj
    rw [Ut.bt_bn, g] at this
    exact esc_all he j hj this.symm)] at r1
  cases r1
  rfl
end Go.Proofs.YtlfebfkphgelfaaDoor.Ka
namespace Go.Proofs.YtlfebfkphgelfaaDoor.Ka
open Go Go.Proofs Go.RowKit Go.Proofs.YtlfebfkphgelfaaDoor.Rx Go.Proofs.YtlfebfkphgelfaaDoor.Pl Go.Proofs.YtlfebfkphgelfaaDoor.Pw Go.Proofs.YtlfebfkphgelfaaDoor.Sk
open Go.Proofs.YtlfebfkphgelfaaDoor.Gk (Lead)

variable {s : ByteArray} {nm : Nat × Nat → ByteArray} {ix : ByteArray → Option Nat}
theorem Lead.snoc {p q q' : PT} {ks : List ByteArray} {key : ByteArray} (h : Lead nm ix p ks q) (h1 : Lead nm ix q [key] q') : Lead nm ix p (ks ++ [key]) q' := by
  induction h with
  | nil => exact h1
  | mem a b c d _ ih => exact .mem a b c d (ih h1)
  | elt a b _ ih => exact .elt a b (ih h1)
/-- A key leads to one value. -/
theorem Lead.uniq {p a b : PT} {key : ByteArray} (h1 : Lead nm ix p [key] a) (h2 : Lead nm ix p [key] b) : a = b := by
  cases h1 with
  | @mem _ _ ns ks j n _ _ _ _ a1 a2 a3 a4 a5 =>
    cases a5
    cases h2 with
    | @mem _ _ _ _ j' n' _ _ _ _ b1 b2 b3 b4 b5 =>
      cases b5
      rcases Nat.lt_trichotomy j j' with g | g | g
      · exact absurd a3 (b4 j n g a1)
      · subst g; rw [a2] at b2; exact Option.some.inj b2
      · exact absurd b3 (a4 j' n' g b1)
  | elt a1 a2 a3 =>
    cases a3
    cases h2 with
    | elt b1 b2 b3 =>
      cases b3
      rw [a1] at b1
      cases b1
      rw [a2] at b2
      exact Option.some.inj b2
theorem isE_beh {c : Nat} (h : bt s (bl s c : Int) = 44 ∨ bt s (bl s c : Int) = 93 ∨ bt s (bl s c : Int) = 125) : isE (bt s (c : Int)) := by
  rcases Nat.lt_or_ge c (bl s c) with g | g
  · have := isB_or (bl_blank s c c (Nat.le_refl c) g)
    unfold isE; omega
  · have e : bl s c = c := by have := bl_ge s c; omega
    rw [e] at h
    unfold isE; omega
theorem mem_beh : ∀ (ks : List PT) (ns : List (Nat × Nat)) (first : Bool) (j e' t : Nat) (p : PT), WfM s first j ns ks e' → ks[t]? = some p → isE (bt s (p.e : Int))
  | [], ns, first, j, e', t, p, h, h2 => by simp at h2
  | p0 :: ks, ns, first, j, e', t, p, h, h2 => by
    unfold WfM at h
    obtain ⟨n0, ns', rfl, h0, hq, hs, hc, hb, hv, hM⟩ := h
    cases t with
    | zero =>
      simp only [List.getElem?_cons_zero, Option.some.injEq] at h2
      subst h2
      cases ks with
      | nil => unfold WfM at hM; exact isE_beh (.inr (.inr hM.2.1))
      | cons p1 ks =>
        unfold WfM at hM
        obtain ⟨n1, ns1, _, h1, _⟩ := hM
        exact isE_beh (.inl h1.1)
    | succ t =>
      simp only [List.getElem?_cons_succ] at h2
      exact mem_beh ks ns' false p0.e e' t p hM h2
theorem elt_beh : ∀ (ks : List PT) (first : Bool) (j e' t : Nat) (p : PT), WfE s first j ks e' → ks[t]? = some p → isE (bt s (p.e : Int))
  | [], first, j, e', t, p, h, h2 => by simp at h2
  | p0 :: ks, first, j, e', t, p, h, h2 => by
    unfold WfE at h
    obtain ⟨h0, hv, hE⟩ := h
    cases t with
    | zero =>
      simp only [List.getElem?_cons_zero, Option.some.injEq] at h2
      subst h2
      cases ks with
      | nil => unfold WfE at hE; exact isE_beh (.inr (.inl hE.1))
      | cons p1 ks =>
        unfold WfE at hE
        exact isE_beh (.inl hE.1.1)
    | succ t =>
      simp only [List.getElem?_cons_succ] at h2
      exact elt_beh ks false p0.e e' t p hE h2
/-- The value led to. -/
theorem Lead.wf {p q : PT} {ks : List ByteArray} (h : Lead nm ix p ks q) : WfV s p → WfV s q ∧ p.b ≤ q.b ∧ q.e ≤ p.e ∧ (q = p ∨ isE (bt s (q.e : Int))) := by
  induction h with
  | nil => exact fun hw => ⟨hw, Nat.le_refl _, Nat.le_refl _, .inl rfl⟩
  | @mem b e' ns ks t n p' q key rest h1 h2 h3 h4 h5 ih =>
    intro hw
    obtain ⟨w1, w2, w3, w4⟩ := Gk.wf_obj hw
    obtain ⟨m1, m2, m3, m4, m5, m6, m7⟩ := Gk.mem_at ks ns true (b + 1) e' t n p' w4 h1 h2
    obtain ⟨a1, a2, a3, a4⟩ := ih m5
    refine ⟨a1, by show b ≤ q.b; omega, by show q.e ≤ e'; omega, .inr ?_⟩
    rcases a4 with rfl | a4
    · exact mem_beh ks ns true (b + 1) e' t q w4 h2
    · exact a4
  | @elt b e' ns ks t p' q key rest h1 h2 h5 ih =>
    intro hw
    obtain ⟨w1, w2, w3, w4⟩ := Gk.wf_arr hw
    obtain ⟨m1, m2, m3, m4⟩ := Gk.elt_at ks true (b + 1) e' t p' w4 h2
    obtain ⟨a1, a2, a3, a4⟩ := ih m1
    refine ⟨a1, by show b ≤ q.b; omega, by show q.e ≤ e'; omega, .inr ?_⟩
    rcases a4 with rfl | a4
    · exact elt_beh ks true (b + 1) e' t q w4 h2
    · exact a4
theorem wf_first {p : PT} (h : WfV s p) : bl s p.b = p.b := by
  refine Gk.bl_self ?_
  obtain ⟨k, b, f, ns, ks⟩ := p
  show isB (bt s (b : Int)) = false
  cases hb : isB (bt s (b : Int)) with
  | false => rfl
  | true =>
    have hb := isB_or hb
    unfold WfV at h
    obtain ⟨hlt, _, ⟨_, _, hL⟩ | ⟨_, _, _, h1, _⟩ | ⟨_, _, h1, _⟩ | ⟨_, h1, _⟩⟩ := h
    · have := isL_iff.1 (hL.1 b (Nat.le_refl b) hlt); omega
    · omega
    · omega
    · omega
/-- An index's number: '[', decimal digits without a needless zero, ']'. -/
def ixS (key : ByteArray) : Option Nat := if 3 ≤ key.size ∧ bt key 0 = 91 ∧ bt key ((key.size - 1 : Nat) : Int) = 93 ∧ key.size ≤ 20 ∧ (4 ≤ key.size → bt key 1 ≠ 48) then Lib.decNat (key.extract 1 (key.size - 1)).data.toList else none
end Go.Proofs.YtlfebfkphgelfaaDoor.Ka
namespace Go.Proofs.YtlfebfkphgelfaaDoor.Ka
open Go Go.Proofs Go.RowKit Go.Proofs.YtlfebfkphgelfaaDoor.Rx Go.Proofs.YtlfebfkphgelfaaDoor.Tr Go.Proofs.YtlfebfkphgelfaaDoor.Pl Go.Proofs.YtlfebfkphgelfaaDoor.Pw Go.Proofs.YtlfebfkphgelfaaDoor.Sk Go.Proofs.YtlfebfkphgelfaaDoor.Sw

variable {w w' base : World} {x q : Sl} {s : ByteArray} {i0 i e l kl k : Nat} {r : Option Nat} {last : Bool} {keys : List ByteArray} {nm : Nat × Nat → ByteArray} {ix : ByteArray → Option Nat} {z0 z1 g3 T3 : Nat}
/-- The buffer of a search. -/
def Z3 (w : World) (g3 T3 : Nat) : Prop := ∃ l, l.length = 64 ∧ Blk w g3 (Je.cb l) T3
/-- What a search finds where it begins. -/
structure B0 (base : World) (x q : Sl) (s : ByteArray) (i0 e : Nat) (keys : List ByteArray) (z0 z1 g3 : Nat) : Prop where
  data : Tx base x s i0 e
  keys : Kx base q keys
  lt : Je.Lt base
  ev : Je.Ev base Je.gE
  o0 : base.heap.size ≤ z0
  o1 : z0 < z1
  o3 : z1 < g3
theorem B0.gT (h : B0 base x q s i0 e keys z0 z1 g3) : Je.gT < base.heap.size := Ms.cell_lt (h.lt 34 (by decide))
theorem B0.gE (h : B0 base x q s i0 e keys z0 z1 g3) : Je.gE < base.heap.size := by
  obtain ⟨t, v, h⟩ := h.ev; exact Ms.cell_lt h
/-- An escaped name is read into the buffer. -/
theorem une_any {y : Sl} {t : ByteArray} {nmr : List UInt8} (h : B0 base x q s i0 e keys z0 z1 g3) (hK : Kp Off base w) (h3 : Z3 w g3 T3) (ht : t.size ≤ 8000000000) (hT : Tx w y t 0 t.size) (hy : ∀ q, TB y q → q ≠ g3) (hue : Je.ue t 0 = some nmr) :
    Calls Tryd.prog 72 #[cfg 0, slV y, .slice (some ⟨g3, 0, none⟩) 64 64] w fun en w' => (∃ y' : Sl, en = .returned (.tuple #[slV y', .nilIface]) ∧ Je.Sb w' y' nmr) ∧ Kp (On g3) w w' ∧ Z3 w' g3 T3 := by
  obtain ⟨l3, hl3, hb3⟩ := h3
  obtain ⟨b, o, h1, h2, h4⟩ := hT.cell
  have hI : Je.In w t b o 0 t.size := ⟨fun {j} hj => by
    have := h4 j (by omega)
    rw [this, ← Ut.bt_bn], rfl⟩
  have hlen := hT.len
  have hcap := hT.cap
  have e1 := h.gT
  have e2 := h.gE
  have e3 := h.o0
  have e4 := h.o1
  have e5 := h.o3
  have hb : b ≠ g3 := hy b ⟨o, h1⟩
  have hsz := hK.size
  have hc := Je.ucfg_any (w := w) (s := t) (g := b) (y0 := o) (cap := y.2.2) (h0 := g3) (len2 := 64) (cap2 := 64) (T' := T3) (l := l3) ht hI (by omega) hb3 hl3 (h.lt.off' hK) (h.ev.kp hK id) h2 hb (by omega) (by omega) (by omega)
  have ea : slV y = .slice (some ⟨b, o, none⟩) t.size y.2.2 := by
    show Value.slice y.1 y.2.1 y.2.2 = _
    rw [h1, hlen, Nat.sub_zero]
  rw [ea]
  refine Calls.mono hc ?_
  rintro en w1 ⟨hU, k1, l', hl', hb'⟩
  unfold Je.UPost at hU
  rw [hue] at hU
  obtain ⟨y', rfl, hs⟩ := hU
  exact ⟨⟨y', rfl, hs⟩, k1, l', by omega, hb'⟩
theorem k_nameE {Q : Nat → List Value → World → Prop} {b16 : Bool} {key : ByteArray} {nmr : List UInt8} (hB : B0 base x q s i0 e keys z0 z1 g3) (h : SK w x q s i0 e keys 0 z0 z1) (h3 : Z3 w g3 T3) (hsl : ∀ (w : World), (Instr.sliceAt 117 (.pointer (some ⟨g3, 0, none⟩)) none none none).run Tryd.prog w = .ok (.slice (some ⟨g3, 0, none⟩) 64 64) w) (hs : s.size ≤ 8000000000) (hi : i0 ≤ i) (hlv : l + 1 ≤ i) (hK : Kp Off base w) (h34 : bt s (i : Int) = 34) (hb16 : b16 = true)
    (hq : QE s (i + 1) k) (hb : bl s (i + 1 + k + 1) < e) (h58 : bt s (bl s (i + 1 + k + 1) : Int) = 58) (hesc : esc s (i + 1) k = true) (hkey : keys[l]? = some key) (hue : Je.ue (s.extract (i + 1) (i + 1 + k)) 0 = some nmr)
    (hG : (ByteArray.mk nmr.toArray ≠ key ∧ Gk.Go s nm ix e keys (bl s (i + 1 + k + 1) + 1) (l + 1) kl false r) ∨
      (ByteArray.mk nmr.toArray = key ∧ kl = l ∧ (l + 1 < keys.length → Gk.Go s nm ix e keys (bl s (i + 1 + k + 1) + 1) (l + 1) (l + 1) true r) ∧ (l + 1 = keys.length → r = some (bl s (i + 1 + k + 1) + 1))))
    (hA : ∀ w', Kp Off base w' → Q 0 [.int .i64 (ans i0 r)] w')
    (hN : ∀ i' lv' kl' last' w', i < i' → lv' ≤ i' → Gk.Go s nm ix e keys i' lv' kl' last' r → SK w' x q s i0 e keys 0 z0 z1 → Kp Off base w' → Z3 w' g3 T3 → Q 1 [.int .i64 ((i' - i0 : Nat) : Int), .int .i64 (kl' : Int), .int .i64 (lv' : Int), .bool last'] w') :
    sat Tryd.prog (jsonparser_searchKeysConfig.t4 q.1 q.2.1 q.2.2 ⟨z0, 0, none⟩ ⟨z1, 0, none⟩ ⟨g3, 0, none⟩ (bt s (i : Int)) b16 (kl : Int) ((l + 1 : Nat) : Int) last ((i - i0 : Nat) : Int)) Q w := by
  subst hb16
  have hl := h.data.len
  have hes := h.data.es
  have hcap := h.data.cap
  have hge := bl_ge s (i + 1 + k + 1)
  have hbz0 := hB.o0
  have hbz1 := hB.o1
  have hbz3 := hB.o3
  have e1 : IntKind.wrap IntKind.i64 (((i - i0 : Nat) : Int) + (1 : Int)) = ((i + 1 - i0 : Nat) : Int) := by
    rw [wup _ (by omega)]
    have : i - i0 + 1 = i + 1 - i0 := by omega
    rw [this]
  have e2 : IntKind.wrap IntKind.i64 (IntKind.wrap IntKind.i64 (((i - i0 : Nat) : Int) + (1 : Int)) + ((k + 1 : Nat) : Int)) = ((i + 1 + k + 1 - i0 : Nat) : Int) := by
    rw [e1, wad _ _ (by omega)]
    have : i + 1 - i0 + (k + 1) = i + 1 + k + 1 - i0 := by omega
    rw [this]
  have e3 : IntKind.wrap IntKind.i64 (IntKind.wrap IntKind.i64 (IntKind.wrap IntKind.i64 (((i - i0 : Nat) : Int) + (1 : Int)) + ((k + 1 : Nat) : Int)) + ((bl s (i + 1 + k + 1) - (i + 1 + k + 1) : Nat) : Int)) = ((bl s (i + 1 + k + 1) - i0 : Nat) : Int) := by
    rw [e2, wad _ _ (by omega)]
    have : i + 1 + k + 1 - i0 + (bl s (i + 1 + k + 1) - (i + 1 + k + 1)) = bl s (i + 1 + k + 1) - i0 := by omega
    rw [this]
  have e5 : IntKind.wrap IntKind.i64 (IntKind.wrap IntKind.i64 (IntKind.wrap IntKind.i64 (((i - i0 : Nat) : Int) + (1 : Int)) + ((k + 1 : Nat) : Int)) - 1) = ((i + 1 + k - i0 : Nat) : Int) := by
    rw [e2, wdn _ (by omega) (by omega)]
    have : i + 1 + k + 1 - i0 - 1 = i + 1 + k - i0 := by omega
    rw [this]
  have ei : i0 + (i - i0) = i := by omega
  unfold jsonparser_searchKeysConfig.t4
  refine s_cut (fun z w' => ∃ (b : Bool) (i' lv' kl' : Nat) (last' : Bool), z = (b, (kl' : Int), (lv' : Int), last', ((i' - 1 - i0 : Nat) : Int), ()) ∧ i < i' ∧ lv' ≤ i' ∧ Gk.Go s nm ix e keys i' lv' kl' last' r ∧ SK w' x q s i0 e keys 0 z0 z1 ∧ Kp Off base w' ∧ Z3 w' g3 T3) (sat_iteT.2 ?_) ?_
  · refine s_load x (h.c1.cell 0) (s_at h.data (by omega) ?_)
    rw [ei]
    refine s_cut (fun z w' => z = (false, ()) ∧ w = w') (s_iteE (fun g => absurd g (by omega)) (fun _ => s_leaf ?_)) ?_
    · rw [if_pos rfl]; exact ⟨(false, ()), rfl, rfl, rfl⟩
    · rintro z w' ⟨rfl, rfl⟩
      show sat _ (jsonparser_searchKeysConfig.t5 q.1 q.2.1 ⟨z0, 0, none⟩ ⟨z1, 0, none⟩ ⟨g3, 0, none⟩ true (kl : Int) ((l + 1 : Nat) : Int) last ((i - i0 : Nat) : Int) (bt s (i : Int)) false) _ _
      rw [h34]
      unfold jsonparser_searchKeysConfig.t5
      refine sat_iteF.2 (str_pre h (by omega) hi rfl hq hb fun w4 k4 h4 => ?_)
      refine s_load x (h4.c1.cell 0) (s_atI h4.data e3 (by omega) ?_)
      rw [show i0 + (bl s (i + 1 + k + 1) - i0) = bl s (i + 1 + k + 1) by omega]
      refine s_iteE (fun _ => ?_) (fun g => absurd h58 g)
      refine s_iteD (fun g => absurd g (by omega)) (fun _ => s_load x (h4.c1.cell 0) ?_)
      rw [hesc, e5, e1]
      refine s_chk ⟨by omega, by omega, by omega⟩ ?_
      rw [Int.toNat_natCast, Int.toNat_natCast]
      obtain ⟨l3, hl3, hb3⟩ := h3
      have hb34 := k4.blk hb3 id
      have hlt3 := hb34.lt
      have K4 := hK.trans k4
      refine s_new (t := tBs) w4.heap.size rfl fun w5 k5 B5 _ => ?_
      refine s_cut (fun _ w' => Kp Off base w' ∧ Z3 w' g3 T3 ∧ SK w' x q s i0 e keys 0 z0 z1 ∧ ∃ y : Sl, Blk w' w4.heap.size [slV y] tBs ∧ (convert tBs 9 (slV y)).run Tryd.prog w' = .ok (.string ⟨nmr.toArray⟩) w') (s_ite (fun g => absurd (show (false : Bool) = true from g) (by decide)) (fun _ => s_drew ?_)) ?_
      · have k6 : Kp Off w5 w5.drew := (Kp.refl Off w5).drew
        have K6 := (K4.trans k5).trans k6
        have h6 := (h4.kp k5).kp k6
        have B6 := k6.blk B5 id
        have hb6 := k6.blk (k5.blk hb34 id) id
        generalize w5.drew = w6 at k6 K6 h6 B6 hb6
        refine ⟨(false, false, (0 : Int), ()), fun w'' hw'' => cfg_run ((Kp.of_below (S := Off) hw'').blk h6.c0 id), ?_⟩
        refine ⟨(some ⟨g3, 0, none⟩, 64, 64), fun w'' _ => hsl w'', ?_⟩
        have hS := h6.data.sub (k := i + 1) (f := i + 1 + k) (by omega) (by omega) (by omega)
        rw [show i + 1 + k - (i + 1) = i + 1 + k - i0 - (i + 1 - i0) by omega] at hS
        have hbk := hB.data.sub (k := i + 1) (f := i + 1 + k) (by omega) (by omega) (by omega)
        have hyq : ∀ p, TB ((if x.2.2 = i + 1 - i0 then x.1 else x.1.map fun y => y.add ((i + 1 - i0) * 1)), i + 1 + k - i0 - (i + 1 - i0), x.2.2 - (i + 1 - i0)) p → p ≠ g3 := by
          rintro p ⟨o, ho⟩ rfl
          obtain ⟨b, o', a1, a2, _⟩ := hbk.cell
          have a1 : (if x.2.2 = i + 1 - i0 then x.1 else x.1.map fun y => y.add ((i + 1 - i0) * 1)) = some ⟨b, o', none⟩ := a1
          have ho : (if x.2.2 = i + 1 - i0 then x.1 else x.1.map fun y => y.add ((i + 1 - i0) * 1)) = some ⟨p, o, none⟩ := ho
          rw [a1] at ho
          cases ho
          omega
        have hzs := ext_size (s := s) (p := i + 1) (k := k) (by omega)
        have hc := une_any hB K6 ⟨l3, hl3, hb6⟩ (by rw [hzs]; omega) hS.own hyq hue
        refine s_call hc ?_
        rintro en w7 ⟨⟨y', rfl, hSb⟩, k7, hz7⟩
        refine ⟨(y', Value.nilIface, ()), rfl, s_chk rfl (s_ite (fun g => absurd (show (false : Bool) = true from g) (by decide)) (fun _ => ?_))⟩
        have n38 : ¬ On g3 w4.heap.size := fun g => by have g : w4.heap.size = g3 := g; omega
        have B7 := k7.blk B6 n38
        have K7 : Kp Off base w7 := kpThen K6 k7 fun j hj c => by have c : j = g3 := c; omega
        refine s_store (B7.cell 0) (B7.free 0) (s_leaf ?_)
        rw [if_pos rfl]
        have kz : Kp (On w4.heap.size) w7 (w7.setCell ⟨w4.heap.size, 0, none⟩ (slV y')) := (Kp.refl _ w7).on 0 _
        have hsz := K4.size
        have K8 : Kp Off base (w7.setCell ⟨w4.heap.size, 0, none⟩ (slV y')) := K7.setNew (a := ⟨w4.heap.size, 0, none⟩) (by show base.heap.size ≤ w4.heap.size; exact hsz) _
        have B8 : Blk (w7.setCell ⟨w4.heap.size, 0, none⟩ (slV y')) w4.heap.size [slV y'] tBs := B7.set 0 _
        have hz0 := h4.c0.lt
        have hz1 := h4.c1.lt
        obtain ⟨l7, hl7, hb7⟩ := hz7
        refine ⟨(), rfl, K8, ⟨l7, hl7, kz.blk hb7 (fun g => by have g : g3 = w4.heap.size := g; omega)⟩, ⟨kz.blk (k7.blk h6.c0 (fun g => by have g : z0 = g3 := g; omega)) (fun g => by have g : z0 = w4.heap.size := g; omega), kz.blk (k7.blk h6.c1 (fun g => by have g : z1 = g3 := g; omega)) (fun g => by have g : z1 = w4.heap.size := g; omega), hB.data.kp K8, hB.keys.kp K8⟩, y', B8, ?_⟩
        refine Je.Sb.conv ?_
        obtain ⟨gb, ob, c1, c2, c3⟩ := hSb
        refine ⟨gb, ob, c1, c2, fun j hj => ?_⟩
        have c4 := c3 j hj
        rw [kz.cell (Ms.cell_lt c4) ?_]
        · exact c4
        · intro g
          have g : gb = w4.heap.size := g
          subst g
          rw [B7.cell] at c4
          cases hoj : ob + j with
          | zero => rw [hoj] at c4; simp at c4
          | succ n => rw [hoj] at c4; simp at c4
      · rintro _ w6 ⟨K6, hz6, h6, y, B6, hcv⟩
        refine t6_any (j := bl s (i + 1 + k + 1) - i0) h6.keys (by omega) (by omega) B6 hcv hkey e3 (fun g => ?_) (fun g => ?_)
        · rw [if_pos rfl]
          rcases hG with ⟨_, g2⟩ | ⟨g1, _⟩
          · exact ⟨(true, (kl : Int), ((l + 1 : Nat) : Int), false, ((bl s (i + 1 + k + 1) - i0 : Nat) : Int), ()), rfl, true, bl s (i + 1 + k + 1) + 1, l + 1, kl, false, rfl, by omega, by omega, g2, h6, K6, hz6⟩
          · exact absurd g1 g
        · rcases hG with ⟨g1, _⟩ | ⟨_, g2, g3, g4⟩
          · exact absurd g g1
          · refine ⟨g2, fun g5 => ?_, fun g5 => ?_⟩
            · rw [if_neg (by decide)]
              have hr := g4 g5
              have e7 : bl s (i + 1 + k + 1) - i0 + 1 = bl s (i + 1 + k + 1) + 1 - i0 := by omega
              rw [e7]
              subst hr
              exact hA w6 K6
            · rw [if_pos rfl]
              exact ⟨(true, ((l + 1 : Nat) : Int), ((l + 1 : Nat) : Int), true, ((bl s (i + 1 + k + 1) - i0 : Nat) : Int), ()), rfl, true, bl s (i + 1 + k + 1) + 1, l + 1, l + 1, true, rfl, by omega, by omega, g3 g5, h6, K6, hz6⟩
  · rintro z w' ⟨b, i', lv', kl', last', rfl, g1, g2, g3, g4, g5, g6⟩
    show sat _ (jsonparser_searchKeysConfig.t9 (kl' : Int) (lv' : Int) last' ((i' - 1 - i0 : Nat) : Int)) _ _
    unfold jsonparser_searchKeysConfig.t9
    refine s_leaf ?_
    have := Go.lt g3
    rw [wup _ (by omega)]
    have : i' - 1 - i0 + 1 = i' - i0 := by omega
    rw [this]
    exact hN i' lv' kl' last' w' g1 g2 g3 g4 g5 g6
end Go.Proofs.YtlfebfkphgelfaaDoor.Ka
namespace Go.Proofs.YtlfebfkphgelfaaDoor.Ka
open Go Go.Proofs Go.RowKit Go.Proofs.YtlfebfkphgelfaaDoor.Rx Go.Proofs.YtlfebfkphgelfaaDoor.Tr Go.Proofs.YtlfebfkphgelfaaDoor.Pl Go.Proofs.YtlfebfkphgelfaaDoor.Pw Go.Proofs.YtlfebfkphgelfaaDoor.Sk Go.Proofs.YtlfebfkphgelfaaDoor.Sw

variable {w w' base : World} {x q : Sl} {s : ByteArray} {i0 i e lv kl : Nat} {r : Option Nat} {last : Bool} {keys : List ByteArray} {nm : Nat × Nat → ByteArray} {ix : ByteArray → Option Nat} {z0 z1 g3 T3 : Nat}
theorem ixS_inv {key : ByteArray} {j : Nat} (h : ixS key = some j) : 3 ≤ key.size ∧ bt key 0 = 91 ∧ bt key ((key.size - 1 : Nat) : Int) = 93 ∧ key.size ≤ 20 ∧ Lib.decNat (key.extract 1 (key.size - 1)).data.toList = some j ∧ (4 ≤ key.size → bt key 1 ≠ 48) := by
  unfold ixS at h
  split at h
  · rename_i g; exact ⟨g.1, g.2.1, g.2.2.1, g.2.2.2.1, h, g.2.2.2.2⟩
  · cases h
theorem atoi_dec {l : List UInt8} {j : Nat} (h : Lib.decNat l = some j) : Lib.atoi l = some (j : Int) := by
  cases l with
  | nil => cases h
  | cons b l =>
    have hd : 48 ≤ b.toNat := by
      have h : Lib.decFrom 0 (b :: l) = some j := h
      unfold Lib.decFrom at h
      cases hv : Lib.digitVal b with
      | none => rw [hv] at h; cases h
      | some d =>
        unfold Lib.digitVal at hv
        split at hv
        · rename_i g; exact g.1
        · cases hv
    have h1 : (b == 45) = false := by
      rw [beq_eq_false_iff_ne]
      rintro rfl
      exact absurd hd (by decide)
    have h2 : (b == 43) = false := by
      rw [beq_eq_false_iff_ne]
      rintro rfl
      exact absurd hd (by decide)
    show (if (b == 45) = true then (Lib.decNat l).map fun (m : Nat) => -(m : Int) else if (b == 43) = true then (Lib.decNat l).map fun (m : Nat) => (m : Int) else (Lib.decNat (b :: l)).map fun (m : Nat) => (m : Int)) = _
    rw [h1, h2, h]; rfl
theorem atoi_any {key : ByteArray} {j : Nat} (h : ixS key = some j) (w : World) : Calls Tryd.prog 74 #[.string (key.extract 1 (key.size - 1))] w fun en w' => en = .returned (.tuple #[.int .i64 (j : Int), .nilIface]) ∧ Kp Off w w' := by
  obtain ⟨a1, _, _, a4, a5, _⟩ := ixS_inv h
  have hz : (key.extract 1 (key.size - 1)).size ≤ 18 := by rw [ByteArray.size_extract]; omega
  refine Calls.mono (Tryd.strconv_Atoi _ (j : Int) hz (atoi_dec a5) w) ?_
  rintro en w1 ⟨rfl, t, rfl⟩
  exact ⟨rfl, rfl, rfl, rfl, by rw [Lib.bytesWorld_size]; omega, fun k hk _ => Lib.bytesWorld_at_old w _ _ k hk⟩
theorem Go.inv_idx (h : Gk.Go s nm ix e keys i lv kl last r) (hc : bt s (i : Int) = 91) (hk : kl = lv) : ∃ (e' j : Nat) (ns : List (Nat × Nat)) (ks : List PT) (p : PT) (key : ByteArray), keys[lv]? = some key ∧ ix key = some j ∧ WfV s (.mk 5 i e' ns ks) ∧ e' ≤ e ∧ ks[j]? = some p ∧
    ((lv + 1 = keys.length ∧ r = some p.b) ∨ (lv + 1 < keys.length ∧ Gk.Go s nm ix p.e (keys.drop (lv + 1)) p.b 0 0 true r)) := by
  cases h with
  | skip _ _ g => exact absurd hc g
  | strv g => omega
  | keyN g => omega
  | keyM g => omega
  | keyL g => omega
  | opn _ g => omega
  | blk g => omega
  | arr _ g => exact absurd hk g
  | cls _ g => omega
  | clsE _ g => omega
  | idx0 a1 a2 a3 a4 a5 a6 => exact ⟨_, _, _, _, _, _, a1, a2, a3, a4, a5, .inl ⟨a6, rfl⟩⟩
  | idxS a1 a2 a3 a4 a5 a6 a7 => exact ⟨_, _, _, _, _, _, a1, a2, a3, a4, a5, .inr ⟨a6, a7⟩⟩
theorem Go.le (h : Gk.Go s nm ix e keys i lv kl last r) : ∀ r', r = some r' → i ≤ r' ∧ r' ≤ e := by
  induction h with
  | skip g _ _ _ _ _ _ ih => intro r' hr; have := ih r' hr; omega
  | @strv _ _ i _ _ _ _ k _ _ g _ _ ih => intro r' hr; have := ih r' hr; have := bl_ge s (i + 1 + k + 1); omega
  | @keyN _ _ i _ _ _ _ k _ _ _ _ g _ _ _ _ ih => intro r' hr; have := ih r' hr; have := bl_ge s (i + 1 + k + 1); omega
  | @keyM _ _ i _ _ _ k _ _ _ _ g _ _ _ _ _ ih => intro r' hr; have := ih r' hr; have := bl_ge s (i + 1 + k + 1); omega
  | @keyL _ _ i _ _ k _ _ _ _ g => intro r' hr; cases hr; have := bl_ge s (i + 1 + k + 1); omega
  | opn _ _ _ ih => intro r' hr; have := ih r' hr; omega
  | blk _ _ _ _ _ ih => intro r' hr; have := ih r' hr; omega
  | arr _ _ _ _ _ _ ih => intro r' hr; have := ih r' hr; omega
  | idx0 _ _ a3 a4 a5 _ =>
    intro r' hr
    cases hr
    have h1 := Gk.wf_arr a3
    have h2 := Gk.elt_at _ _ _ _ _ _ h1.2.2.2 a5
    have h3 := h2.1.lt
    omega
  | idxS _ _ a3 a4 a5 _ _ ih =>
    intro r' hr
    have := ih r' hr
    have h1 := Gk.wf_arr a3
    have h2 := Gk.elt_at _ _ _ _ _ _ h1.2.2.2 a5
    have h3 := h2.1.lt
    omega
  | cls _ _ _ ih => intro r' hr; have := ih r' hr; omega
  | clsE => intro r' hr; cases hr
/-- What a search for fewer keys gives. -/
def Sub (s : ByteArray) (n : Nat) : Prop := ∀ (w' : World) (y q' : Sl) (b e' : Nat) (r' : Option Nat) (ks' : List ByteArray), ks'.length < n → Je.Lt w' → Je.Ev w' Je.gE → Tx w' y s b e' → Kx w' q' ks' → ((ks' = [] ∧ r' = some b) ∨ (ks' ≠ [] ∧ Gk.Go s (nmS s) ixS e' ks' b 0 0 true r')) →
  Calls Tryd.prog 64 #[cfg 0, slV y, slV q'] w' fun en w'' => en = .returned (.int .i64 (ans b r')) ∧ Kp Off w' w''
/-- A round behind the fast skip. -/
theorem k_round {Q : Nat → List Value → World → Prop} (hB : B0 base x q s i0 e keys z0 z1 g3) (h : SK w x q s i0 e keys 0 z0 z1) (h3 : Z3 w g3 T3) (hsl : ∀ (w : World), (Instr.sliceAt 117 (.pointer (some ⟨g3, 0, none⟩)) none none none).run Tryd.prog w = .ok (.slice (some ⟨g3, 0, none⟩) 64 64) w) (hs : s.size ≤ 8000000000) (hi : i0 ≤ i) (hlv : lv ≤ i) (hK : Kp Off base w)
    (hG : Gk.Go s (nmS s) ixS e keys i lv kl last r) (hsub : Sub s keys.length)
    (hA : ∀ w', Kp Off base w' → Q 0 [.int .i64 (ans i0 r)] w')
    (hZ : r = none → (∀ j, i < j → j < e → isB (bt s (j : Int)) = true) → ∀ w', SK w' x q s i0 e keys 0 z0 z1 → Kp Off base w' → Z3 w' g3 T3 → Q 1 [.int .i64 ((i + 1 - i0 : Nat) : Int), .int .i64 (-1), .int .i64 0, .bool last] w')
    (hN : ∀ i' lv' kl' last' w', i < i' → lv' ≤ i' → Gk.Go s (nmS s) ixS e keys i' lv' kl' last' r → SK w' x q s i0 e keys 0 z0 z1 → Kp Off base w' → Z3 w' g3 T3 → Q 1 [.int .i64 ((i' - i0 : Nat) : Int), .int .i64 (kl' : Int), .int .i64 (lv' : Int), .bool last'] w') :
    sat Tryd.prog (jsonparser_searchKeysConfig.t3 q.1 q.2.1 q.2.2 ⟨z0, 0, none⟩ ⟨z1, 0, none⟩ x ⟨g3, 0, none⟩ (kl : Int) (lv : Int) last ((i - i0 : Nat) : Int)) Q w := by
  have hlt := Go.lt hG
  have hl := h.data.len
  have hes := h.data.es
  have hcap := h.data.cap
  have ei : i0 + (i - i0) = i := by omega
  obtain ⟨l3, hl3, hb3⟩ := h3
  -- rounds that leave the buffer alone
  have hN' : ∀ i' lv' kl' last' w', i < i' → lv' ≤ i' → Gk.Go s (nmS s) ixS e keys i' lv' kl' last' r → SK w' x q s i0 e keys 0 z0 z1 → Kp Off w w' → Q 1 [.int .i64 ((i' - i0 : Nat) : Int), .int .i64 (kl' : Int), .int .i64 (lv' : Int), .bool last'] w' :=
    fun i' lv' kl' last' w' g1 g2 g3 g4 g5 => hN i' lv' kl' last' w' g1 g2 g3 g4 (hK.trans g5) ⟨l3, hl3, g5.blk hb3 id⟩
  have hZ' : r = none → (∀ j, i < j → j < e → isB (bt s (j : Int)) = true) → ∀ w', SK w' x q s i0 e keys 0 z0 z1 → Kp Off w w' → Q 1 [.int .i64 ((i + 1 - i0 : Nat) : Int), .int .i64 (-1), .int .i64 0, .bool last] w' :=
    fun g1 g2 w' g3 g4 => hZ g1 g2 w' g3 (hK.trans g4) ⟨l3, hl3, g4.blk hb3 id⟩
  have hA' : ∀ w', Kp Off w w' → Q 0 [.int .i64 (ans i0 r)] w' := fun w' k => hA w' (hK.trans k)
  unfold jsonparser_searchKeysConfig.t3
  refine s_iteD (fun g => absurd g (by omega)) (fun _ => s_load x (h.c1.cell 0) (s_at h.data (by omega) ?_))
  rw [ei]
  by_cases h34 : bt s (i : Int) = 34
  · refine s_cut (fun z w' => z = (true, (kl : Int), (lv : Int), last, ((i - i0 : Nat) : Int), ()) ∧ w = w') (s_iteE (fun _ => s_leaf ?_) (fun g => absurd h34 g)) ?_
    · rw [if_pos rfl]
      refine ⟨(true, (kl : Int), (lv : Int), last, ((i - i0 : Nat) : Int), ()), ?_, rfl, rfl⟩
      rw [h34]; rfl
    · rintro z w' ⟨rfl, rfl⟩
      show sat _ (jsonparser_searchKeysConfig.t4 q.1 q.2.1 q.2.2 ⟨z0, 0, none⟩ ⟨z1, 0, none⟩ ⟨g3, 0, none⟩ (bt s (i : Int)) true (kl : Int) (lv : Int) last ((i - i0 : Nat) : Int)) _ _
      obtain ⟨k, hq, hb, ⟨hne, hg⟩ | ⟨h58, hse, l, key, rfl, hkey, hg⟩⟩ := Go.inv_str hG h34
      · exact k_strv h (by omega) hi hlv (Kp.refl Off w) h34 rfl hq hb hne hg hN'
      · cases hesc : esc s (i + 1) k with
        | false =>
          rw [nm_plain hse hesc] at hg
          exact k_name h (by omega) hi hlv (Kp.refl Off w) h34 rfl hq hb h58 hesc hkey hg hA' hN'
        | true =>
          obtain ⟨nmr, n1, _, n3⟩ := nm_ue hse
          rw [n3] at hg
          exact k_nameE hB h ⟨l3, hl3, hb3⟩ hsl hs hi hlv hK h34 rfl hq hb h58 hesc hkey n1 hg hA hN
  · refine s_cut (fun z w' => z = (bt s (i : Int) == 39, (kl : Int), (lv : Int), last, ((i - i0 : Nat) : Int), ()) ∧ w = w') (s_iteE (fun g => absurd g h34) (fun _ => s_leaf ?_)) ?_
    · rw [if_pos rfl]
      exact ⟨(bt s (i : Int) == 39, (kl : Int), (lv : Int), last, ((i - i0 : Nat) : Int), ()), rfl, rfl, rfl⟩
    · rintro z w' ⟨rfl, rfl⟩
      show sat _ (jsonparser_searchKeysConfig.t4 q.1 q.2.1 q.2.2 ⟨z0, 0, none⟩ ⟨z1, 0, none⟩ ⟨g3, 0, none⟩ (bt s (i : Int)) (bt s (i : Int) == 39) (kl : Int) (lv : Int) last ((i - i0 : Nat) : Int)) _ _
      by_cases h39 : bt s (i : Int) = 39
      · rw [h39]
        unfold jsonparser_searchKeysConfig.t4
        refine s_cut (fun _ _ => False) (sat_iteT.2 (s_load x (h.c1.cell 0) (s_at h.data (by omega) ?_))) (fun _ _ g => g.elim)
        rw [ei, h39]
        refine s_cut (fun z w' => z = (true, ()) ∧ w = w') (s_iteE (fun _ => ?_) (fun g => absurd rfl g)) ?_
        · refine s_load false (h.c0.cell 0) (s_leaf ?_)
          rw [if_pos rfl]; exact ⟨(true, ()), rfl, rfl, rfl⟩
        · rintro z w' ⟨rfl, rfl⟩
          show sat _ (jsonparser_searchKeysConfig.t5 q.1 q.2.1 ⟨z0, 0, none⟩ ⟨z1, 0, none⟩ ⟨g3, 0, none⟩ (39 == (39 : Int)) (kl : Int) (lv : Int) last ((i - i0 : Nat) : Int) 39 true) _ _
          unfold jsonparser_searchKeysConfig.t5
          refine sat_iteT.2 (s_leaf ?_)
          rw [if_neg (by decide), wup _ (by omega)]
          have : i - i0 + 1 = i + 1 - i0 := by omega
          rw [this]
          exact hN' (i + 1) lv kl last w (Nat.lt_succ_self i) (by omega) (Go.inv_skip hG (by omega) (by omega) (by omega) (by omega)).2 h (Kp.refl Off w)
      · have hb39 : (bt s (i : Int) == 39) = false := beq_eq_false_iff_ne.2 h39
        by_cases hx : bt s (i : Int) = 91 ∧ kl = lv
        · obtain ⟨h91, hkl⟩ := hx
          obtain ⟨e', j, ns, ks, p, key, a1, a2, a3, a4, a5, a6⟩ := Go.inv_idx hG h91 hkl
          obtain ⟨c1, c2, c3, c4, c5, _⟩ := ixS_inv a2
          have hw1 := Gk.wf_arr a3
          have hw2 := Gk.elt_at _ _ _ _ _ _ hw1.2.2.2 a5
          have hw3 := hw2.1.lt
          have hrb : ∀ r', r = some r' → p.b ≤ r' ∧ r' ≤ e := by
            intro r' hr
            rcases a6 with ⟨_, g⟩ | ⟨_, g⟩
            · rw [hr] at g; cases g; omega
            · have := Go.le g r' hr; omega
          subst hkl
          rw [hb39]
          unfold jsonparser_searchKeysConfig.t4
          refine s_cut (fun _ _ => False) (sat_iteF.2 ?_) (fun _ _ g => g.elim)
          rw [h91]
          refine s_iteE (fun g => absurd g (by decide)) (fun _ => s_iteE (fun g => absurd g (by decide)) (fun _ => s_iteE (fun _ => ?_) (fun g => absurd rfl g)))
          refine s_cut (fun z w' => z = (true, ()) ∧ w = w') (s_iteE (fun _ => s_key h.keys a1 (s_iteD (fun _ => s_key h.keys a1 (s_chk ⟨by omega, by omega⟩ (s_leaf ?_))) (fun g => absurd g (by omega)))) (fun g => absurd rfl g)) ?_
          · rw [if_pos rfl, c2]; exact ⟨(true, ()), rfl, rfl, rfl⟩
          · rintro z w' ⟨rfl, rfl⟩
            show sat _ (jsonparser_searchKeysConfig.t7 q.1 q.2.1 q.2.2 ⟨z0, 0, none⟩ ⟨z1, 0, none⟩ false (kl : Int) (kl : Int) last ((i - i0 : Nat) : Int) true) _ _
            refine t7_any h a1 c1 (by omega) c3 ?_
            refine t8_any (base := w) h (by omega) hi (by omega) (Kp.refl Off w) a1 c1 (by omega) (atoi_any a2) a3 a4 a5 hrb (fun w' y q' kw hT hKx => ?_) (fun w' kw => by rw [if_neg (by decide)]; exact hA' w' kw)
            have K' := hK.trans kw
            have hlk := (List.getElem?_eq_some_iff.1 a1).1
            refine hsub w' y q' p.b p.e r (keys.drop (kl + 1)) (by rw [List.length_drop]; omega) (hB.lt.off' K') (hB.ev.kp K' id) hT hKx ?_
            rcases a6 with ⟨g1, g2⟩ | ⟨g1, g2⟩
            · exact .inl ⟨List.drop_eq_nil_of_le (by omega), g2⟩
            · refine .inr ⟨fun g => ?_, g2⟩
              have := congrArg List.length g
              rw [List.length_drop] at this
              simp only [List.length_nil] at this
              omega
        · exact k_other (m := 0) h (by omega) hi hlv (Kp.refl Off w) hG h34 (fun g1 g2 => hx ⟨g1, g2⟩) hb39 hZ' hN'
abbrev tA : TypeId := 117
/-- Blanks up to the end: the keys are not found. -/
theorem end_any {R Q : Nat → List Value → World → Prop} {z0 z1 z3 : Nat} {w : World} {k5 k6 : Int} (h : SK w x q s i0 e keys 0 z0 z1) (hs : s.size ≤ 9000000000) (hi : i0 ≤ i) (hie : i ≤ e) (hbk : ∀ j, i ≤ j → j < e → isB (bt s (j : Int)) = true) (hA : Q 0 [.int .i64 (-1)] w) :
    sat Tryd.prog (jsonparser_searchKeysConfig.t1 q.1 q.2.1 q.2.2 ⟨z0, 0, none⟩ ⟨z1, 0, none⟩ x ⟨z3, 0, none⟩ ((i - i0 : Nat) : Int) k5 k6 last) (fun l' vs w'' => if l' = 1 then R l' vs w'' else Q l' vs w'') w := by
  have hl := h.data.len
  have hes := h.data.es
  unfold jsonparser_searchKeysConfig.t1
  refine s_iteD (fun _ => ?_) (fun _ => s_leaf (by rw [if_neg (by decide)]; exact hA))
  refine s_cut (fun z w' => z = (((e - i0 : Nat) : Int), ()) ∧ w = w') ?_ ?_
  · refine s_loop (fun n z w' => ∃ j : Nat, n = e - j ∧ z = (((j - i0 : Nat) : Int), ()) ∧ i ≤ j ∧ j ≤ e ∧ w = w') (e - i) (((i - i0 : Nat) : Int), ()) rfl ⟨i, rfl, rfl, Nat.le_refl i, hie, rfl⟩ ?_
    rintro n z w2 ⟨j, rfl, rfl, hj, hje, rfl⟩
    show sat _ (jsonparser_searchKeysConfig.t2 ⟨z1, 0, none⟩ x ((j - i0 : Nat) : Int)) _ _
    unfold jsonparser_searchKeysConfig.t2
    refine s_iteD (fun g => s_load x (h.c1.cell 0) (s_at h.data (by omega) ?_)) (fun g => s_leaf ?_)
    · have ej : i0 + (j - i0) = j := by omega
      rw [ej]
      have hb := isB_or (hbk j hj (by omega))
      refine s_iteD (fun _ => s_leaf ?_) (fun g => absurd (by omega) g)
      rw [if_pos rfl, wup _ (by omega)]
      have : j - i0 + 1 = j + 1 - i0 := by omega
      rw [this]
      exact ⟨e - (j + 1), (((j + 1 - i0 : Nat) : Int), ()), rfl, by omega, j + 1, rfl, rfl, by omega, by omega, rfl⟩
    · rw [if_neg (by decide), if_pos rfl]
      have : j = e := by omega
      subst this
      exact ⟨(((j - i0 : Nat) : Int), ()), rfl, rfl, rfl⟩
  · rintro z w' ⟨rfl, rfl⟩
    show sat _ (jsonparser_searchKeysConfig.t3 q.1 q.2.1 q.2.2 ⟨z0, 0, none⟩ ⟨z1, 0, none⟩ x ⟨z3, 0, none⟩ k5 k6 last ((e - i0 : Nat) : Int)) _ _
    unfold jsonparser_searchKeysConfig.t3
    refine s_iteD (fun _ => s_leaf ?_) (fun g => absurd (by omega) g)
    rw [if_neg (by decide)]
    exact hA
theorem search_step {n : Nat} (hlen : keys.length ≤ n) (hs : s.size ≤ 8000000000) (hsub : Sub s n) (hL : Je.Lt base) (hE : Je.Ev base Je.gE) (hT : Tx base x s i0 e) (hKx : Kx base q keys) (hG : (keys = [] ∧ r = some i0) ∨ (keys ≠ [] ∧ Gk.Go s (nmS s) ixS e keys i0 0 0 true r)) :
    Calls Tryd.prog 64 #[cfg 0, slV x, slV q] base fun en w'' => en = .returned (.int .i64 (ans i0 r)) ∧ Kp Off base w'' := by
  have hl := hKx.len
  refine jsonparser_searchKeysConfig.calls _ _ _ _ _ _ _ _ _ ?_
  unfold jsonparser_searchKeysConfig.t
  refine s_alloc ?_
  have b0 := Blk.new base (cfC 0) tCf
  have k0 : Kp Off base (base.alloc (.cells (cfC 0).toArray tCf (0, 0))) := (Kp.refl Off base).alloc _
  have z0' : (base.alloc (.cells (cfC 0).toArray tCf (0, 0))).heap.size = base.heap.size + 1 := by simp
  show sat _ _ _ (base.alloc (.cells (cfC 0).toArray tCf (0, 0)))
  generalize base.alloc (.cells (cfC 0).toArray tCf (0, 0)) = w1 at k0 b0 z0'
  refine s_new (t := tBs) (base.heap.size + 1) z0' fun w2 k2 b2 z2' => ?_
  have b02 := k2.blk b0 id
  refine s_load x (b2.cell 0) ?_
  rcases hG with ⟨rfl, rfl⟩ | ⟨hne, hG⟩
  · refine s_iteE (fun _ => s_leaf ⟨rfl, ?_, k0.trans k2⟩) (fun g => absurd (by rw [hl]; rfl) g)
    show Ending.returned (.int .i64 0) = .returned (.int .i64 ((i0 - i0 : Nat) : Int))
    rw [Nat.sub_self]; rfl
  have hpos : 0 < keys.length := List.length_pos_iff.2 hne
  refine s_iteE (fun g => absurd g (by omega)) (fun _ => ?_)
  obtain ⟨w3, hw3⟩ : ∃ w3, w2.alloc (.cells (Je.cb (List.replicate 64 0)).toArray tA (0, 0)) = w3 := ⟨_, rfl⟩
  obtain ⟨b3, k3, z3'⟩ := Je.new_blk hw3
  refine Sr.s_allocE (base.heap.size + 2) z2' w3 hw3 ?_
  rw [z2'] at b3
  have K3 := (k0.trans k2).trans k3
  have hB : B0 base x q s i0 e keys base.heap.size (base.heap.size + 1) (base.heap.size + 2) := ⟨hT, hKx, hL, hE, Nat.le_refl _, Nat.lt_succ_self _, Nat.lt_succ_self _⟩
  have hsl : ∀ (w : World), (Instr.sliceAt 117 (.pointer (some ⟨base.heap.size + 2, 0, none⟩)) none none none).run Tryd.prog w = .ok (.slice (some ⟨base.heap.size + 2, 0, none⟩) 64 64) w := fun w => by kernel_rfl
  refine s_loop (fun n z w' => (∃ (i lv kl : Nat) (last : Bool), n = e - i ∧ z = (((i - i0 : Nat) : Int), (kl : Int), (lv : Int), last, ()) ∧ i0 ≤ i ∧ lv ≤ i ∧ Gk.Go s (nmS s) ixS e keys i lv kl last r ∧ SK w' x q s i0 e keys 0 base.heap.size (base.heap.size + 1) ∧ Kp Off base w' ∧ Z3 w' (base.heap.size + 2) tA) ∨
      (∃ (i : Nat) (last : Bool), n = e - i ∧ z = (((i - i0 : Nat) : Int), (-1 : Int), (0 : Int), last, ()) ∧ i0 ≤ i ∧ i ≤ e ∧ r = none ∧ (∀ j, i ≤ j → j < e → isB (bt s (j : Int)) = true) ∧ SK w' x q s i0 e keys 0 base.heap.size (base.heap.size + 1) ∧ Kp Off base w')) (e - i0) ((0 : Int), (0 : Int), (0 : Int), true, ()) rfl
    (.inl ⟨i0, 0, 0, true, rfl, by rw [Nat.sub_self]; rfl, Nat.le_refl _, Nat.zero_le _, hG, ⟨k3.blk b02 id, k3.blk b2 id, hT.kp K3, hKx.kp K3⟩, K3, List.replicate 64 0, List.length_replicate, b3⟩) ?_
  rintro n z w4 (⟨i, lv, kl, last, rfl, rfl, hi, hlv, hGi, hSK, hK, hZ⟩ | ⟨i, last, rfl, rfl, hi, hie, hr, hbk, hSK, hK⟩)
  rotate_left
  · subst hr
    exact end_any hSK (by omega) hi hie hbk ⟨rfl, rfl, hK⟩
  have hlt := Go.lt hGi
  have hlx := hSK.data.len
  have hes := hSK.data.es
  show sat _ (jsonparser_searchKeysConfig.t1 q.1 q.2.1 q.2.2 ⟨base.heap.size, 0, none⟩ ⟨base.heap.size + 1, 0, none⟩ x ⟨base.heap.size + 2, 0, none⟩ ((i - i0 : Nat) : Int) (kl : Int) (lv : Int) last) _ _
  unfold jsonparser_searchKeysConfig.t1
  refine s_iteD (fun _ => ?_) (fun g => absurd g (by omega))
  refine s_cut (fun z w' => ∃ j : Nat, z = (((j - i0 : Nat) : Int), ()) ∧ i ≤ j ∧ Gk.Go s (nmS s) ixS e keys j lv kl last r ∧ w4 = w') (skip_any hSK (by omega) hi hGi fun j hj hGj => ?_) ?_
  · rw [if_pos rfl]
    exact ⟨(((j - i0 : Nat) : Int), ()), rfl, j, rfl, hj, hGj, rfl⟩
  rintro z w' ⟨j, rfl, hj, hGj, rfl⟩
  show sat _ (jsonparser_searchKeysConfig.t3 q.1 q.2.1 q.2.2 ⟨base.heap.size, 0, none⟩ ⟨base.heap.size + 1, 0, none⟩ x ⟨base.heap.size + 2, 0, none⟩ (kl : Int) (lv : Int) last ((j - i0 : Nat) : Int)) _ _
  have hlj := Go.lt hGj
  refine k_round hB hSK hZ hsl hs (by omega) (by omega) hK hGj (fun w' y q' b e' r' ks' hk => hsub w' y q' b e' r' ks' (by omega)) (fun w' k => ?_) (fun hr hbk w' g1 g2 g3 => ?_) (fun i' lv' kl' last' w' g1 g2 g3 g4 g5 g6 => ?_)
  · rw [if_neg (by decide)]
    exact ⟨rfl, rfl, k⟩
  · rw [if_pos rfl]
    exact ⟨e - (j + 1), (((j + 1 - i0 : Nat) : Int), (-1 : Int), (0 : Int), last, ()), rfl, by omega, .inr ⟨j + 1, last, rfl, rfl, by omega, by omega, hr, fun j' h1 h2 => hbk j' (by omega) h2, g1, g2⟩⟩
  · rw [if_pos rfl]
    exact ⟨e - i', (((i' - i0 : Nat) : Int), (kl' : Int), (lv' : Int), last', ()), rfl, by omega, .inl ⟨i', lv', kl', last', rfl, rfl, by omega, g2, g3, g4, g5, g6⟩⟩
theorem sub_all (hs : s.size ≤ 8000000000) : ∀ n, Sub s n
  | 0 => fun _ _ _ _ _ _ ks' h => absurd h (Nat.not_lt_zero _)
  | n + 1 => fun w' y q' b e' r' ks' h hL hE hT hK hG => search_step (n := n) (by omega) hs (sub_all hs n) hL hE hT hK hG
/-- The search for keys. -/
theorem search_opt (hs : s.size ≤ 8000000000) (hL : Je.Lt base) (hE : Je.Ev base Je.gE) (hT : Tx base x s i0 e) (hKx : Kx base q keys) (hG : (keys = [] ∧ r = some i0) ∨ (keys ≠ [] ∧ Gk.Go s (nmS s) ixS e keys i0 0 0 true r)) :
    Calls Tryd.prog 64 #[cfg 0, slV x, slV q] base fun en w'' => en = .returned (.int .i64 (ans i0 r)) ∧ Kp Off base w'' :=
  search_step (n := keys.length) (Nat.le_refl _) hs (sub_all hs _) hL hE hT hKx hG
/-- The search for keys that lead to a value. -/
theorem search_any {r : Nat} (hs : s.size ≤ 8000000000) (hL : Je.Lt base) (hE : Je.Ev base Je.gE) (hT : Tx base x s i0 e) (hKx : Kx base q keys) (hG : (keys = [] ∧ r = i0) ∨ (keys ≠ [] ∧ Gk.Go s (nmS s) ixS e keys i0 0 0 true (some r))) :
    Calls Tryd.prog 64 #[cfg 0, slV x, slV q] base fun en w'' => en = .returned (.int .i64 ((r - i0 : Nat) : Int)) ∧ Kp Off base w'' :=
  search_opt (r := some r) hs hL hE hT hKx (hG.imp (fun h => ⟨h.1, by rw [h.2]⟩) id)
end Go.Proofs.YtlfebfkphgelfaaDoor.Ka
namespace Go.Proofs.YtlfebfkphgelfaaDoor.Ka
open Go Go.Proofs Go.RowKit Go.Proofs.YtlfebfkphgelfaaDoor.Rx Go.Proofs.YtlfebfkphgelfaaDoor.Tr Go.Proofs.YtlfebfkphgelfaaDoor.Pl Go.Proofs.YtlfebfkphgelfaaDoor.Pw Go.Proofs.YtlfebfkphgelfaaDoor.Sk Go.Proofs.YtlfebfkphgelfaaDoor.Sw

variable {w w' : World} {x q : Sl} {s : ByteArray} {keys : List ByteArray} {p0 p : PT} {S : Nat → Prop}
/-- Keys lead in a text from its value to a value. -/
structure Led (s : ByteArray) (p0 : PT) (keys : List ByteArray) (p : PT) : Prop where
  at0 : bl s 0 = p0.b
  wf : WfV s p0
  fin : bl s p0.e = s.size
  lead : Gk.Lead (nmS s) ixS p0 keys p
theorem Led.wfp (h : Led s p0 keys p) : WfV s p := (Lead.wf h.lead h.wf).1
theorem Led.beh (h : Led s p0 keys p) : p.e = s.size ∨ isE (bt s (p.e : Int)) := by
  rcases (Lead.wf h.lead h.wf).2.2.2 with rfl | g
  · have hf := h.fin
    rcases Nat.lt_or_ge p.e (bl s p.e) with g | g
    · right
      have := isB_or (bl_blank s p.e p.e (Nat.le_refl _) g)
      unfold isE; omega
    · left
      have := bl_ge s p.e
      omega
  · exact .inr g
theorem Led.find (h : Led s p0 keys p) : ∃ r, r ≤ s.size ∧ bl s r = p.b ∧ ((keys = [] ∧ r = 0) ∨ (keys ≠ [] ∧ Gk.Go s (nmS s) ixS s.size keys 0 0 0 true (some r))) := by
  cases keys with
  | nil =>
    have hl := h.lead
    cases hl
    exact ⟨0, Nat.zero_le _, h.at0, .inl ⟨rfl, rfl⟩⟩
  | cons key rest =>
    have hlt := h.wf.lt
    obtain ⟨r, g1, g2⟩ := Gk.go_lead h.lead (by simp) h.wf s.size (key :: rest) 0 hlt.2 rfl
    have hg := Gk.Go.gap (s := s) (nm := nmS s) (ix := ixS) (a := 0) (b := p0.b) rfl (Nat.zero_le _) (by omega) (fun j _ hj => bl_blank s 0 j (Nat.zero_le _) (by rw [h.at0]; exact hj)) g1
    exact ⟨r, (Go.le g1 r rfl).2, g2, .inr ⟨by simp, hg⟩⟩
/-- The look-up by keys. -/
theorem getK_any (hs : s.size ≤ 8000000000) (hL : Je.Lt w) (hE : Je.Ev w Je.gE) (hT : Tx w x s 0 s.size) (hKx : Kx w q keys) (h : Led s p0 keys p) :
    Calls Tryd.prog 51 #[cfg 0, slV x, slV q] w (GR w s 0 p) := by
  obtain ⟨r, hr1, hr2, hr3⟩ := h.find
  have hl := hKx.len
  have hsr := search_any hs hL hE hT hKx hr3
  have hwp := (Lead.wf h.lead h.wf)
  have hpl := hwp.1.lt
  refine jsonparser_internalGetConfig.calls _ _ _ _ _ _ _ _ _ ?_
  unfold jsonparser_internalGetConfig.t
  refine s_alloc ?_
  have b0 := Blk.new w (cfC 0) tCf
  have k0 : Kp Off w (w.alloc (.cells (cfC 0).toArray tCf (0, 0))) := (Kp.refl Off w).alloc _
  show sat _ _ _ (w.alloc (.cells (cfC 0).toArray tCf (0, 0)))
  generalize w.alloc (.cells (cfC 0).toArray tCf (0, 0)) = w1 at k0 b0
  refine s_cut (fun z w' => z = ((r : Int), ()) ∧ Kp Off w1 w') (s_iteD (fun g => ?_) (fun g => s_leaf ?_)) ?_
  · refine s_eff (w' := w1) (false, false, (0 : Int), ()) (cfg_run b0) ?_
    have hsr1 := search_any hs (hL.off' k0) (hE.kp k0 id) (hT.kp k0) (hKx.kp k0) hr3
    refine s_call hsr1 ?_
    rintro en w2 ⟨rfl, k2⟩
    refine ⟨((r - 0 : Nat) : Int), rfl, s_iteE (fun g => absurd g (by omega)) (fun _ => s_leaf ?_)⟩
    rw [if_pos rfl]
    exact ⟨((r : Int), ()), rfl, rfl, k2⟩
  · rw [if_pos rfl]
    have : r = 0 := by
      rcases hr3 with ⟨_, g⟩ | ⟨g, _⟩
      · exact g
      · have := List.length_pos_iff.2 g; omega
    subst this
    exact ⟨((0 : Int), ()), rfl, rfl, Kp.refl _ _⟩
  · rintro z w' ⟨rfl, k1⟩
    have K := k0.trans k1
    refine get_t1 (i := 0) (e := s.size) (o := r) (hT.kp K) (by omega) hwp.1 (by rw [Nat.zero_add]; exact hr2) hpl.2 h.beh (k1.blk b0 id) fun y w'' k' hT' hy => ⟨rfl, y, rfl, hT', hy, K.trans k'⟩
/-- A value that is no array begins with no bracket. -/
theorem no_arr (h : WfV s p) (hk : p.k ≠ 5) : bt s (p.b : Int) ≠ 91 := by
  obtain ⟨k, b, f, ns, ks⟩ := p
  show bt s (b : Int) ≠ 91
  have hk : k ≠ 5 := hk
  unfold WfV at h
  obtain ⟨hlt, _, ⟨_, _, hL⟩ | ⟨_, _, _, h1, _⟩ | ⟨h1, _⟩ | ⟨_, h1, _⟩⟩ := h
  · have := isL_iff.1 (hL.1 b (Nat.le_refl b) hlt); omega
  · omega
  · exact absurd h1 hk
  · omega
def gA : Nat := 3
/-- ArrayEach by keys: an array's elements are called back with; for what is none there is an error. -/
theorem eachK_any {cf : FuncId} {first caps : Array Value} {Inv : Nat → World → Prop} (hg : goB Tryd.prog cf = true) (hs : s.size ≤ 8000000000) (hL : Je.Lt w) (hE : Je.Ev w Je.gE) (hA : Je.Ev w gA) (hT : Tx w x s 0 s.size) (hKx : Kx w q keys) (h : Led s p0 keys p)
    (hSb : ¬ S w.heap.size) (hxS : ∀ q, TB x q → ¬ S q) (hst : ∀ k w w', Inv k w → Kp Off w w' → Inv k w')
    (hcb : ∀ (k : Nat) (w' : World) (y : Sl) (c : PT), p.ks[k]? = some c → Kp S w w' → Inv k w' → w.heap.size < w'.heap.size → Tx w' y s (rb c) (re c) → y.2.2 = y.2.1 → 0 ≤ c.b → c.e ≤ s.size → WfV s c →
      Calls Tryd.prog cf (first ++ #[slV y, .int .i64 (jk c.k), .int .i64 ((c.e - 0 - (re c - rb c) : Nat) : Int), .nilIface] ++ caps) w' fun en w'' => en = .returned (.tuple #[]) ∧ Inv (k + 1) w'' ∧ Kp S w' w'')
    (hI : Inv 0 w) :
    Calls Tryd.prog 75 #[cfg 0, slV x, .func (.func cf) first caps, slV q] w fun en w' =>
      ((p.k = 5 ∧ en = .returned (.tuple #[.int .i64 ((p.e - 1 : Nat) : Int), .nilIface]) ∧ Inv p.ks.length w') ∨ (p.k ≠ 5 ∧ (∃ n t v, en = .returned (.tuple #[.int .i64 n, .iface t v])) ∧ Inv 0 w')) ∧ Kp S w w' := by
  obtain ⟨r, hr1, hr2, hr3⟩ := h.find
  have hl := hKx.len
  have hxl := hT.len
  have hxc := hT.cap
  have hwp := (Lead.wf h.lead h.wf)
  have hpl := hwp.1.lt
  have hp0 := h.wf.lt
  have h00 := h.at0
  have hgr := bl_ge s r
  -- the error of what is no array
  have err : ∀ {Q : Nat → List Value → World → Prop} {w1 : World} {n : Int}, Kp Off w w1 → (∀ w' t v, Kp Off w w' → Q 0 [.int .i64 n, .iface t v] w') →
      sat Tryd.prog (.drew <| .load (Addr.mk 3 0 Option.none) .any fun (v8 : Value) => .leaf 0 [(Value.int IntKind.i64 n), v8]) Q w1 := by
    intro Q w1 n k1 hQ
    refine s_drew ?_
    have k2 := k1.trans ((Kp.refl Off w1).drew)
    obtain ⟨t, v, hv⟩ := hA.kp k2 id
    exact s_load (Value.iface t v) hv (s_leaf (hQ _ t v k2))
  refine jsonparser_arrayEachConfig.calls _ _ _ _ _ _ _ _ _ _ ?_
  unfold jsonparser_arrayEachConfig.t
  refine s_alloc ?_
  have b0 := Blk.new w (cfC 0) tCf
  have k0 : Kp Off w (w.alloc (.cells (cfC 0).toArray tCf (0, 0))) := (Kp.refl Off w).alloc _
  show sat _ _ _ (w.alloc (.cells (cfC 0).toArray tCf (0, 0)))
  generalize w.alloc (.cells (cfC 0).toArray tCf (0, 0)) = v1 at k0 b0
  refine s_iteE (fun g => absurd g (by omega)) (fun _ => ?_)
  refine s_eff (w' := v1) (false, false, (0 : Int), ()) (cfg_run b0) ?_
  have hbe : bl s 0 < s.size := by omega
  refine s_call (next_any (m := 0) (hT.kp k0) (by omega) hbe) ?_
  rintro en v2 ⟨rfl, k2⟩
  have k02 := k0.trans k2
  have h2 := hT.kp k02
  have b2 := k2.blk b0 id
  refine ⟨((bl s 0 - 0 : Nat) : Int), rfl, s_iteE (fun g => absurd g (by omega)) (fun _ => ?_)⟩
  refine s_cut (fun z w' => z = (decide (keys = [] ∧ p.k ≠ 5), ()) ∧ v2 = w') (s_iteE (fun hz => s_at h2 (by omega) (s_leaf ?_)) (fun hz => s_leaf ?_)) ?_
  · rw [if_pos rfl]
    have hnil : keys = [] := List.length_eq_zero_iff.1 (by omega)
    refine ⟨(decide (keys = [] ∧ p.k ≠ 5), ()), ?_, rfl, rfl⟩
    subst hnil
    have hlead := h.lead
    cases hlead
    have e0 : 0 + (bl s 0 - 0) = p0.b := by omega
    rw [e0]
    by_cases hk : p0.k = 5
    · obtain ⟨k, b, f, ns, ks⟩ := p0
      have hk : k = 5 := hk
      subst hk
      have := (Gk.wf_arr h.wf).2.2.1
      have hd : decide (([] : List ByteArray) = [] ∧ PT.k (.mk 5 b f ns ks) ≠ 5) = false := decide_eq_false fun g => g.2 rfl
      rw [hd]
      show [Value.bool (bt s (b : Int) != 91)] = [Value.bool false]
      rw [this]; rfl
    · have := no_arr h.wf hk
      rw [decide_eq_true ⟨rfl, hk⟩]
      show [Value.bool (bt s (p0.b : Int) != 91)] = [Value.bool true]
      rw [bne_iff_ne.2 this]
  · rw [if_pos rfl]
    refine ⟨(decide (keys = [] ∧ p.k ≠ 5), ()), ?_, rfl, rfl⟩
    rw [decide_eq_false fun g => hz (by rw [hl, g.1]; rfl)]; rfl
  rintro z w' ⟨rfl, rfl⟩
  show sat _ (jsonparser_arrayEachConfig.t1 x.1 x.2.1 x.2.2 (.func (.func cf) first caps) q.1 q.2.1 q.2.2 ⟨w.heap.size, 0, none⟩ ((bl s 0 - 0 : Nat) : Int) (decide (keys = [] ∧ p.k ≠ 5))) _ _
  unfold jsonparser_arrayEachConfig.t1
  refine s_iteD (fun hc => err k02 fun w' t v kw => ⟨rfl, .inr ⟨hc.2, ⟨_, t, v, rfl⟩, hst _ _ _ hI kw⟩, kw.off⟩) (fun hc => ?_)
  refine s_cut (fun z w' => z = (((p.b + 1 : Nat) : Int), ()) ∧ p.k = 5 ∧ Kp Off v2 w') (s_iteD (fun g => ?_) (fun g => s_leaf ?_)) ?_
  · refine s_eff (w' := v2) (false, false, (0 : Int), ()) (cfg_run b2) ?_
    have hsr1 := search_any hs (hL.off' k02) (hE.kp k02 id) h2 (hKx.kp k02) hr3
    refine s_call hsr1 ?_
    rintro en v3 ⟨rfl, k3⟩
    refine ⟨((r - 0 : Nat) : Int), rfl, s_iteE (fun g => absurd g (by omega)) (fun _ => s_drew ?_)⟩
    have k3' : Kp Off v2 v3.drew := k3.drew
    have h3 := h2.kp k3'
    have b3 := k3'.blk b2 id
    generalize v3.drew = v4 at k3' h3 b3
    refine s_effS (false, false, (0 : Int), ()) (cfg_run b3) (s_chk ⟨by omega, by omega, by omega⟩ ?_)
    have hfr := h3.from r (by omega)
    have hnx := next_any (m := 0) hfr (by omega) (by rw [Nat.zero_add]; omega)
    rw [Nat.zero_add] at hnx
    rw [Nat.sub_zero, Int.toNat_natCast, Int.toNat_natCast]
    refine s_call hnx ?_
    rintro en v5 ⟨rfl, k5⟩
    refine ⟨((bl s r - r : Nat) : Int), rfl, s_iteE (fun g => absurd g (by omega)) (fun _ => ?_)⟩
    have h5 := h3.kp k5
    have e5 : IntKind.wrap IntKind.i64 ((r : Int) + ((bl s r - r : Nat) : Int)) = ((p.b : Nat) : Int) := by
      rw [wad _ _ (by omega)]
      have : r + (bl s r - r) = p.b := by omega
      rw [this]
    show sat Tryd.prog (.chk (((0 : Int) ≤ (IntKind.wrap IntKind.i64 ((r : Int) + ((bl s r - r : Nat) : Int)))) ∧ ((IntKind.wrap IntKind.i64 ((r : Int) + ((bl s r - r : Nat) : Int))) < ((x.2.1 : Nat) : Int))) <| .ptr x.1 fun z => .load (Addr.add z ((Int.toNat (IntKind.wrap IntKind.i64 ((r : Int) + ((bl s r - r : Nat) : Int)))) * 1)) (.int .u8) fun (i17 : Int) =>
            .ite (i17 != (91 : Int)) (
              .drew <|
              .load (Addr.mk 3 0 Option.none) .any fun (v18 : Value) =>
              .leaf 0 [(Value.int IntKind.i64 (IntKind.wrap IntKind.i64 ((r : Int) + ((bl s r - r : Nat) : Int)))), v18]) (
              .leaf 1 [(Value.int IntKind.i64 (IntKind.wrap IntKind.i64 ((IntKind.wrap IntKind.i64 ((r : Int) + ((bl s r - r : Nat) : Int))) + (1 : Int))))])) _ _
    rw [e5]
    refine s_at h5 (by omega) ?_
    rw [Nat.zero_add]
    have K5 : Kp Off w v5 := k02.trans (k3'.trans k5)
    refine s_iteN (fun c => err K5 fun w' t v kw => ?_) (fun c => s_leaf ?_)
    · rw [if_neg (by decide)]
      have hk : p.k ≠ 5 := fun hk => by
        obtain ⟨k, b, f, ns, ks⟩ := p
        have hk : k = 5 := hk
        subst hk
        exact c (Gk.wf_arr hwp.1).2.2.1
      exact ⟨rfl, .inr ⟨hk, ⟨_, t, v, rfl⟩, hst _ _ _ hI kw⟩, kw.off⟩
    · rw [if_pos rfl, wup _ (by omega)]
      refine ⟨(((p.b + 1 : Nat) : Int), ()), rfl, rfl, ?_, k3'.trans k5⟩
      by_cases hk : p.k = 5
      · exact hk
      · exact absurd c (no_arr hwp.1 hk)
  · rw [if_pos rfl]
    have hnil : keys = [] := List.length_eq_zero_iff.1 (by omega)
    subst hnil
    have hlead := h.lead
    cases hlead
    have hk : p0.k = 5 := Decidable.byContradiction fun hk => hc ⟨rfl, hk⟩
    rw [wup _ (by omega), Nat.sub_zero, h00]
    exact ⟨(((p0.b + 1 : Nat) : Int), ()), rfl, rfl, hk, Kp.refl _ _⟩
  rintro z w' ⟨rfl, hk, k3⟩
  obtain ⟨k, b, f, ns, ks⟩ := p
  have hk : k = 5 := hk
  subst hk
  have hwa := Gk.wf_arr hwp.1
  have K3 := k02.trans k3
  refine each_t2 (i := 0) (e := s.size) (b := b) (base := w) (m := 0) (Inv := Inv) hg (by omega) hwa.2.1 hSb hxS hst hcb (fun w' hK hI => ⟨rfl, .inl ⟨rfl, rfl, hI⟩, hK⟩) hwa.2.2.2 (Nat.zero_le _) (hT.kp K3) K3.off (hst _ _ _ hI K3) (k3.blk b2 id)
end Go.Proofs.YtlfebfkphgelfaaDoor.Ka
