/- fastjson's unescapeStringBestEffort: the walk. No statement of the set is proved here. -/
import Derived.Test.YtkpnomdmnhhaoaaGreatDoorZe
namespace Go.Proofs.YtkpnomdmnhhaoaaGreatDoor.Ze
open Go Go.Proofs Go.RowKit Go.Proofs.YtkpnomdmnhhaoaaGreatDoor.Rx Go.Proofs.YtkpnomdmnhhaoaaGreatDoor.Tr Go.Proofs.YtkpnomdmnhhaoaaGreatDoor.Pl Go.Proofs.YtkpnomdmnhhaoaaGreatDoor.Pw Go.Proofs.YtkpnomdmnhhaoaaGreatDoor.Ut Go.Proofs.YtkpnomdmnhhaoaaGreatDoor.Uq Go.Proofs.YtkpnomdmnhhaoaaGreatDoor.Bw Go.Proofs.YtkpnomdmnhhaoaaGreatDoor.Zu Go.Proofs.YtkpnomdmnhhaoaaGreatDoor.Zs Go.Proofs.YtkpnomdmnhhaoaaGreatDoor.Zo
open Go.Proofs.YtkpnomdmnhhaoaaGreatDoor.Sr (Sl slV tBs tB)
open Go.Proofs.YtkpnomdmnhhaoaaGreatDoor.Ql (tl tl_on tl_end gb_of)

variable {w w' w0 : World} {x s : ByteArray}
theorem size_list (u : ByteArray) : u.size = u.data.toList.length := by rw [Array.length_toList]; rfl
theorem bytes_back (x : ByteArray) : (⟨x.data.toList.toArray⟩ : ByteArray) = x := by cases x; simp
theorem tl_all (x : ByteArray) : (tl x 0).take x.size = x.data.toList := by
  show (x.data.toList.drop 0).take x.size = _
  rw [List.drop_zero]
  exact List.take_of_length_le (by rw [Array.length_toList]; exact Nat.le_refl _)
theorem sub_ext {i k : Nat} (h : i + k ≤ x.size) : (sfx x i).extract 0 k = x.extract i (i + k) := by
  rw [sub_sfx, Nat.min_eq_left h]
theorem sub_ext2 {i a b : Nat} (h : i + b ≤ x.size) : (sfx x i).extract a b = x.extract (i + a) (i + b) := by
  unfold sfx
  rw [ByteArray.extract_extract, Nat.min_eq_left h]
/-- The state between two rounds. -/
def RS (x : ByteArray) (r : List UInt8) (w : World) (p : Nat) (v : ByteArray × (Sl × PUnit)) (w' : World) : Prop :=
  ∃ (q : Nat) (l t : List UInt8), v.1 = sfx x q ∧ p < q ∧ q ≤ x.size ∧ OkU x q ∧ pd x q = true ∧ uo x q = some t ∧ l ++ t = r ∧ l.length ≤ q ∧ MB w' w.heap.size x.size v.2.1 l ∧ Kp Off w w'
theorem up_off {w0 w w' : World} (h : Kp Off w0 w) (k : Kp (Up w0.heap.size) w w') : Kp Off w0 w' := h.then k fun q hq hu => by have hu : w0.heap.size ≤ q := hu; omega
theorem unesc_any {r : List UInt8} (hs : x.size ≤ 100000) (hok : OkU x 0) (hpd : pd x 0 = true) (hr : uo x 0 = some r) : Calls Tryz.prog 50 #[.string x] w fun e w' => e = .returned (.string ⟨r.toArray⟩) ∧ Kp Off w w' := by
  refine fastjson_unescapeStringBestEffort.calls _ ?_
  unfold fastjson_unescapeStringBestEffort.t
  have hix := ix_sfx (s := x) 0 92
  rw [sfx_zero] at hix
  refine s_call (Tryz.strings_IndexByte x 92 w) ?_
  rintro e w1 ⟨rfl, rfl⟩
  refine ⟨Lib.indexByte x.data.toList 92, rfl, ?_⟩
  rcases hix with ⟨h1, h2⟩ | ⟨i0, h1, h2, h3, h4⟩
  · rw [h1]
    refine s_iteD (fun _ => s_leaf ⟨rfl, ?_, Kp.refl _ _⟩) (fun h => absurd (by decide) h)
    have := uo_run (x := x) (a := 0) (b := x.size) rfl (Nat.zero_le _) (Nat.le_refl _) (fun j _ hj => by have := h2 j (by omega); rwa [Nat.zero_add] at this)
    rw [hr, uo_end (Nat.le_refl _), Nat.sub_zero, tl_all] at this
    have this : r = x.data.toList ++ [] := Option.some.inj this
    rw [this, List.append_nil, bytes_back]; rfl
  rw [Nat.zero_add] at h2 h3
  have h4 : ∀ j, j < i0 → bn x j ≠ 92 := fun j hj => by have := h4 j hj; rwa [Nat.zero_add] at this
  rw [h1]
  refine s_iteD (fun h => by omega) (fun _ => ?_)
  refine s_call (s2b_any (x := x) (n := i0) (by omega)) ?_
  rintro e w2 ⟨cap, rfl, hcap, hMB, k2⟩
  refine ⟨(some ⟨w1.heap.size, 0, none⟩, x.size, cap), rfl, s_chk (by show (0 : Int) ≤ 0 ∧ (0 : Int) ≤ (i0 : Int) ∧ (i0 : Int) ≤ (cap : Int); omega) ?_⟩
  have ew : IntKind.wrap IntKind.i64 ((i0 : Int) + (1 : Int)) = ((i0 + 1 : Nat) : Int) := by rw [wrap_in (by omega) (by omega)]; omega
  rw [ew, Int.toNat_natCast, Int.toNat_natCast, Int.toNat_natCast]
  refine s_chk (by omega) ?_
  have hu0 := uo_run (x := x) (a := 0) (b := i0) rfl (Nat.zero_le _) (by omega) (fun j _ hj => h4 j hj)
  rw [hr, Nat.sub_zero] at hu0
  have hOk0 := OkU.next hok (Nat.zero_le _) (by omega) (fun j _ hj => h4 j hj)
  have hPd0 : pd x i0 = true := by rw [← pd_gap (s := x) (a := 0) (b := i0) rfl (Nat.zero_le _) (by omega) (fun j _ hj => h4 j hj)]; exact hpd
  obtain ⟨t0, ht0, hr0⟩ : ∃ t0, uo x i0 = some t0 ∧ (tl x 0).take i0 ++ t0 = r := by
    cases h : uo x i0 with
    | none => rw [h] at hu0; cases hu0
    | some t => rw [h] at hu0; exact ⟨t, rfl, (Option.some.inj hu0).symm⟩
  have hl0 : ((tl x 0).take i0).length ≤ i0 := by rw [List.length_take]; exact Nat.min_le_left _ _
  have e0 : (Value.slice (if cap = 0 then some ⟨w1.heap.size, 0, none⟩ else Option.map (fun (y2 : Addr) => (Addr.add y2 0)) (some ⟨w1.heap.size, 0, none⟩)) (i0 - 0) (cap - 0)) = slV (some ⟨w1.heap.size, 0, none⟩, i0, cap) := by
    rw [if_neg (by omega)]
    show Value.slice (some (Addr.add ⟨w1.heap.size, 0, none⟩ 0)) i0 cap = _
    rw [addr_add]; rfl
  have ex : x.extract (i0 + 1) x.size = sfx x (i0 + 1) := rfl
  rw [ex]
  refine s_loop (fun n v w' => ∃ (p : Nat) (z : Sl) (l t : List UInt8), n = x.size - p ∧ v = (z, sfx x (p + 1), ()) ∧ p < x.size ∧ bn x p = 92 ∧ OkU x p ∧ pd x p = true ∧ uo x p = some t ∧ l ++ t = r ∧ l.length ≤ p ∧ MB w' w1.heap.size x.size z l ∧ Kp Off w1 w') (x.size - i0) ((some ⟨w1.heap.size, 0, none⟩, i0, cap), sfx x (i0 + 1), ()) (by
      show [Value.slice (if cap = 0 then some ⟨w1.heap.size, 0, none⟩ else Option.map (fun (y2 : Addr) => (Addr.add y2 0)) (some ⟨w1.heap.size, 0, none⟩)) (i0 - 0) (cap - 0), _] = [slV (some ⟨w1.heap.size, 0, none⟩, i0, cap), _]
      rw [e0]) ⟨i0, _, _, t0, rfl, rfl, by omega, h3, hOk0, hPd0, ht0, hr0, hl0, hMB, k2⟩ ?_
  clear h1 h2 h3 h4 hMB k2 hu0 hOk0 hPd0 ht0 hr0 hl0 e0 ew ex hok hpd hr
  rintro n v w3 ⟨p, z, l, t, rfl, rfl, hp, hb, hOk, hPd, ht, hlt, hl, hMB, k3⟩
  show sat _ (fastjson_unescapeStringBestEffort.t1 z (sfx x (p + 1))) _ _
  unfold fastjson_unescapeStringBestEffort.t1
  have hz1 := sfx_size x (p + 1)
  have hz2 := sfx_size x (p + 2)
  -- what stands behind the backslash
  have hcase : p + 1 < x.size ∧ ((isX (bt x ((p + 1 : Nat) : Int)) = true ∧ uN x p = none ∧ OkU x (p + 2)) ∨ (∃ n, uN x p = some n ∧ ((pairU x p n = none ∧ OkU x (p + 6)) ∨ ∃ c, pairU x p n = some c ∧ OkU x (p + 12)))) := by
    cases hOk with
    | fin h => omega
    | plain h1 h2 => exact absurd hb h2
    | short h1 h2 h3 h4 h5 => exact ⟨h2, .inl ⟨h3, h4, h5⟩⟩
    | uni h1 h2 h3 => have := uN_lt h1; exact ⟨by omega, .inr ⟨_, h1, .inl ⟨h2, h3⟩⟩⟩
    | pair h1 h2 h3 => have := uN_lt h1; exact ⟨by omega, .inr ⟨_, h1, .inr ⟨_, h2, h3⟩⟩⟩
  obtain ⟨hp1, hcase⟩ := hcase
  clear hOk
  have hb0 : bt (sfx x (p + 1)) (0 : Int) = bt x ((p + 1 : Nat) : Int) := sfx_bt x (p + 1) 0
  have hbt1 : bt x ((p + 1 : Nat) : Int) = ((bn x (p + 1) : Nat) : Int) := bt_bn x (p + 1)
  refine s_iteD (fun _ => s_chk (by omega) (s_chk (by omega) ?_)) (fun h => by omega)
  have e2 : p + 1 + 1 = p + 2 := rfl
  simp only [Int.toNat_natCast, sfx_sfx, e2]
  rw [hb0, hbt1]
  have MQ : ∀ {k : Nat} {v : ByteArray × (Sl × PUnit)} {w' : World}, RS x r w1 p v w' → (∃ y : (Sh.cons .str (.cons .slice .nil)).Ty, [Value.string v.1, Value.slice v.2.1.1 v.2.1.2.1 v.2.1.2.2] = (Sh.cons .str (.cons .slice .nil)).vals y ∧ RS x r w1 p y w') := fun {k v w'} h => ⟨v, rfl, h⟩
  refine s_cut (fun v w' => RS x r w1 p v w') ?_ ?_
  rotate_left
  · rintro v w4 ⟨q, l', t', hv, hpq, hqs, hOk, hPd', ht', hlt', hl', hMB', k4⟩
    obtain ⟨v1, z', _⟩ := v
    have hv : v1 = sfx x q := hv
    subst hv
    have hMB' : MB w4 w1.heap.size x.size z' l' := hMB'
    show sat _ (fastjson_unescapeStringBestEffort.t12 (sfx x q) z') _ _
    unfold fastjson_unescapeStringBestEffort.t12
    have hzq := sfx_size x q
    have hix := ix_sfx (s := x) q 92
    refine s_call (Tryz.strings_IndexByte (sfx x q) 92 w4) ?_
    rintro e w5 ⟨rfl, rfl⟩
    refine ⟨Lib.indexByte (sfx x q).data.toList 92, rfl, ?_⟩
    rcases hix with ⟨h1, h2⟩ | ⟨j, h1, h2, h3, h4⟩
    · rw [h1]
      refine s_iteD (fun _ => ?_) (fun h => absurd (by decide) h)
      refine s_mbS hMB' rfl (by omega) fun z2 w6 hMB2 k6 => ?_
      refine s_call (b2s_any hMB2) ?_
      rintro e w7 ⟨rfl, rfl⟩
      refine ⟨_, rfl, s_leaf ?_⟩
      rw [if_neg (by decide)]
      refine ⟨rfl, ?_, up_off k4 k6⟩
      have := uo_run (x := x) (a := q) (b := x.size) rfl hqs (Nat.le_refl _) (fun j g1 g2 => by have := h2 (j - q) (by omega); rwa [show q + (j - q) = j by omega] at this)
      rw [ht', uo_end (Nat.le_refl _)] at this
      have this : t' = List.take (x.size - q) (tl x q) ++ [] := Option.some.inj this
      rw [List.append_nil] at this
      have e2 : (sfx x q).data.toList = t' := by rw [this]; exact tl_sfx hqs
      rw [e2, hlt']; rfl
    · rw [h1]
      refine s_iteD (fun h => by omega) (fun _ => s_chk (by omega) ?_)
      rw [Int.toNat_natCast]
      have hex : (sfx x q).extract 0 j = x.extract q (q + j) := sub_ext (by omega)
      rw [hex]
      have hsz : (x.extract q (q + j)).size = j := by rw [ByteArray.size_extract]; omega
      refine s_mbS hMB' rfl (by omega) fun z2 w6 hMB2 k6 => ?_
      have ew : IntKind.wrap IntKind.i64 ((j : Int) + (1 : Int)) = ((j + 1 : Nat) : Int) := by rw [wrap_in (by omega) (by omega)]; omega
      rw [ew, Int.toNat_natCast, Int.toNat_natCast, sfx_sfx]
      refine s_chk (by omega) (s_leaf ?_)
      rw [if_pos rfl]
      have hrun := uo_run (x := x) (a := q) (b := q + j) rfl (by omega) (by omega) (fun i g1 g2 => by have := h4 (i - q) (by omega); rwa [show q + (i - q) = i by omega] at this)
      rw [ht'] at hrun
      obtain ⟨t2, ht2, e2⟩ : ∃ t2, uo x (q + j) = some t2 ∧ t' = (tl x q).take (q + j - q) ++ t2 := by
        cases h : uo x (q + j) with
        | none => rw [h] at hrun; cases hrun
        | some t2 => rw [h] at hrun; exact ⟨t2, rfl, Option.some.inj hrun⟩
      have hlen : (x.extract q (q + j)).data.toList.length = j := by rw [Array.length_toList]; exact hsz
      exact ⟨x.size - (q + j), (z2, sfx x (q + (j + 1)), ()), rfl, by omega, q + j, z2, _, t2, rfl, rfl, by omega, h3,
        OkU.next hOk (by omega) (by omega) (fun i g1 g2 => by have := h4 (i - q) (by omega); rwa [show q + (i - q) = i by omega] at this),
        by rw [← pd_gap (s := x) (a := q) (b := q + j) rfl (by omega) (by omega) (fun i g1 g2 => by have := h4 (i - q) (by omega); rwa [show q + (i - q) = i by omega] at this)]; exact hPd', ht2,
        by rw [List.append_assoc, tl_sfx (by omega), ← e2]; exact hlt', by rw [List.length_append, hlen]; omega, hMB2, up_off k4 k6⟩
  -- a letter
  have letter : ∀ (c d : UInt8) {Q : Nat → List Value → World → Prop} {k : Nat} {ats : Array TypeId}, ats = #[tBs, tBs] → bn x (p + 1) = c.toNat → isX (c.toNat : Int) = true → sh c = d →
      (∀ (z' : Sl) (w' : World), RS x r w1 p (sfx x (p + 2), z', ()) w' → Q k [.string (sfx x (p + 2)), .slice z'.1 z'.2.1 z'.2.2] w') →
      sat Tryz.prog (.eff (Instr.buildSlice tBs 1 #[(0, bv d)]) .slice fun z5 => .eff (Builtin.append_ ats tBs #[(Value.slice (z).1 ((z).2).1 ((z).2).2), (Value.slice (z5).1 ((z5).2).1 ((z5).2).2)]) .slice fun z6 =>
        .leaf k [(Value.string (sfx x (p + 2))), (Value.slice (z6).1 ((z6).2).1 ((z6).2).2)]) Q w3 := by
    intro c d Q k ats hats hc hx hd hQ
    refine s_mb1 (b := d) hMB hats rfl (by omega) fun z2 w4 hMB2 k4 => s_leaf (hQ z2 w4 ?_)
    rcases hcase with ⟨_, hu, hOk⟩ | ⟨n, hu, _⟩
    · rw [uo_short hb hu hp1, gb_of hc, hd] at ht
      obtain ⟨t', h4, rfl⟩ := map_some ht
      exact ⟨p + 2, l ++ [d], t', rfl, by omega, by omega, hOk, by rw [← pd_short hb hu]; exact hPd, h4, by rw [← hlt]; simp, by simp; omega, hMB2, up_off k3 k4⟩
    · exfalso
      have h2 := (uN_esc hu).2
      rw [h2] at hc
      rw [← hc] at hx
      exact absurd hx (by decide)
  refine s_cut (fun v w' => RS x r w1 p v w') (s_iteE (fun e => letter 34 34 rfl (by have e : ((bn x (p + 1) : Nat) : Int) = 34 := e; show bn x (p + 1) = 34; omega) (by decide) (by decide) fun z' w' h => by rw [if_pos rfl]; exact MQ (k := 0) h) (fun n1 => ?_)) (fun v w' h => by
    show sat _ (fastjson_unescapeStringBestEffort.t11 v.1 v.2.1) _ _
    unfold fastjson_unescapeStringBestEffort.t11
    refine s_leaf ?_
    rw [if_pos rfl]; exact MQ (k := 0) h)
  refine s_cut (fun v w' => RS x r w1 p v w') (s_iteE (fun e => letter 92 92 rfl (by have e : ((bn x (p + 1) : Nat) : Int) = 92 := e; show bn x (p + 1) = 92; omega) (by decide) (by decide) fun z' w' h => by rw [if_pos rfl]; exact MQ (k := 0) h) (fun n2 => ?_)) (fun v w' h => by
    show sat _ (fastjson_unescapeStringBestEffort.t10 v.1 v.2.1) _ _
    unfold fastjson_unescapeStringBestEffort.t10
    refine s_leaf ?_
    rw [if_pos rfl]; exact MQ (k := 0) h)
  refine s_cut (fun v w' => RS x r w1 p v w') (s_iteE (fun e => letter 47 47 rfl (by have e : ((bn x (p + 1) : Nat) : Int) = 47 := e; show bn x (p + 1) = 47; omega) (by decide) (by decide) fun z' w' h => by rw [if_pos rfl]; exact MQ (k := 0) h) (fun n3 => ?_)) (fun v w' h => by
    show sat _ (fastjson_unescapeStringBestEffort.t9 v.1 v.2.1) _ _
    unfold fastjson_unescapeStringBestEffort.t9
    refine s_leaf ?_
    rw [if_pos rfl]; exact MQ (k := 0) h)
  refine s_cut (fun v w' => RS x r w1 p v w') (s_iteE (fun e => letter 98 8 rfl (by have e : ((bn x (p + 1) : Nat) : Int) = 98 := e; show bn x (p + 1) = 98; omega) (by decide) (by decide) fun z' w' h => by rw [if_pos rfl]; exact MQ (k := 0) h) (fun n4 => ?_)) (fun v w' h => by
    show sat _ (fastjson_unescapeStringBestEffort.t8 v.1 v.2.1) _ _
    unfold fastjson_unescapeStringBestEffort.t8
    refine s_leaf ?_
    rw [if_pos rfl]; exact MQ (k := 0) h)
  refine s_cut (fun v w' => RS x r w1 p v w') (s_iteE (fun e => letter 102 12 rfl (by have e : ((bn x (p + 1) : Nat) : Int) = 102 := e; show bn x (p + 1) = 102; omega) (by decide) (by decide) fun z' w' h => by rw [if_pos rfl]; exact MQ (k := 0) h) (fun n5 => ?_)) (fun v w' h => by
    show sat _ (fastjson_unescapeStringBestEffort.t7 v.1 v.2.1) _ _
    unfold fastjson_unescapeStringBestEffort.t7
    refine s_leaf ?_
    rw [if_pos rfl]; exact MQ (k := 0) h)
  refine s_cut (fun v w' => RS x r w1 p v w') (s_iteE (fun e => letter 110 10 rfl (by have e : ((bn x (p + 1) : Nat) : Int) = 110 := e; show bn x (p + 1) = 110; omega) (by decide) (by decide) fun z' w' h => by rw [if_pos rfl]; exact MQ (k := 0) h) (fun n6 => ?_)) (fun v w' h => by
    show sat _ (fastjson_unescapeStringBestEffort.t6 v.1 v.2.1) _ _
    unfold fastjson_unescapeStringBestEffort.t6
    refine s_leaf ?_
    rw [if_pos rfl]; exact MQ (k := 0) h)
  refine s_cut (fun v w' => RS x r w1 p v w') (s_iteE (fun e => letter 114 13 rfl (by have e : ((bn x (p + 1) : Nat) : Int) = 114 := e; show bn x (p + 1) = 114; omega) (by decide) (by decide) fun z' w' h => by rw [if_pos rfl]; exact MQ (k := 0) h) (fun n7 => ?_)) (fun v w' h => by
    show sat _ (fastjson_unescapeStringBestEffort.t5 v.1 v.2.1) _ _
    unfold fastjson_unescapeStringBestEffort.t5
    refine s_leaf ?_
    rw [if_pos rfl]; exact MQ (k := 0) h)
  refine s_cut (fun v w' => RS x r w1 p v w') (s_iteE (fun e => letter 116 9 rfl (by have e : ((bn x (p + 1) : Nat) : Int) = 116 := e; show bn x (p + 1) = 116; omega) (by decide) (by decide) fun z' w' h => by rw [if_pos rfl]; exact MQ (k := 0) h) (fun n8 => ?_)) (fun v w' h => by
    show sat _ (fastjson_unescapeStringBestEffort.t4 v.1 v.2.1) _ _
    unfold fastjson_unescapeStringBestEffort.t4
    refine s_leaf ?_
    rw [if_pos rfl]; exact MQ (k := 0) h)
  -- a number
  refine s_cut (fun v w' => RS x r w1 p v w') (s_iteE (fun e => ?_) (fun n9 => ?_)) (fun v w' h => by
    show sat _ (fastjson_unescapeStringBestEffort.t3 v.1 v.2.1) _ _
    unfold fastjson_unescapeStringBestEffort.t3
    refine s_leaf ?_
    rw [if_pos rfl]; exact MQ (k := 0) h)
  rotate_left
  · exfalso
    rcases hcase with ⟨hX, _⟩ | ⟨n, hu, _⟩
    · have := isX_iff.1 hX
      omega
    · have := (uN_esc hu).2
      omega
  have h117 : bn x (p + 1) = 117 := by omega
  rcases hcase with ⟨hX, _⟩ | ⟨v, hu, hcase⟩
  · exfalso
    have := isX_iff.1 hX
    omega
  have hul := uN_lt hu
  have hhx : Uq.hx x (p + 2) 4 = some v := by
    have hu' := hu
    unfold uN at hu'
    rw [if_pos ⟨by omega, hb, h117⟩] at hu'
    exact hu'
  refine s_iteD (fun h => by omega) (fun _ => s_chk (by omega) ?_)
  rw [sub_ext (x := x) (i := p + 2) (k := 4) (by omega)]
  have hsz : (x.extract (p + 2) (p + 2 + 4)).size = 4 := by rw [ByteArray.size_extract]; omega
  refine s_call (Hp.uint16_any (v := v) hsz (by rw [hx_same (o := x) (q := p + 2) ext_gb 4 (Nat.le_refl _)]; exact hhx)) ?_
  rintro e' w4 ⟨rfl, k4⟩
  have wv : IntKind.wrap IntKind.i32 (v : Int) = (v : Int) := by rw [IntKind.wrap_i32]; omega
  refine ⟨((v : Int), Value.nilIface, ()), rfl, s_chk rfl (sat_iteF.2 (s_chk (by omega) ?_))⟩
  rw [wv]
  have hMB4 := hMB.off k4
  have k34 := k3.trans k4
  refine s_call (sur_any hul.1) ?_
  rintro e' w5 ⟨rfl, rfl⟩
  refine ⟨sur v, rfl, ?_⟩
  cases hsv : sur v with
  | false =>
    have hpn : pairU x p v = none := by
      unfold pairU
      split
      · rw [if_neg fun h => by rw [sur_iff.2 (by omega)] at hsv; cases hsv]
      · rfl
    rcases hcase with ⟨_, hOk⟩ | ⟨c, hc, _⟩
    rotate_left
    · rw [hpn] at hc; cases hc
    refine sat_iteT.2 (s_eff (w' := w5) (Utf8.encode (v : Int)) (run_convert_int_string (P := Tryz.prog) w5 21 9 .i32 (v : Int) (by rw [Tryz.underlying21]; rfl) Tryz.underlying9) ?_)
    have henc := encode_enc (n := v) (by omega) hsv
    have hel := enc_short hul.1
    have hes : (Utf8.encode (v : Int)).size = (enc v).length := by rw [size_list, henc]
    refine s_mbS hMB4 rfl (by omega) fun z2 w6 hMB2 k6 => s_leaf ?_
    iterate 9 rw [if_neg (by decide)]
    rw [if_pos rfl]
    rw [henc] at hMB2
    rw [uo_one hu hpn] at ht
    obtain ⟨t', h4, rfl⟩ := map_some ht
    refine MQ (k := 0) (v := (sfx x (p + 2 + 4), z2, ())) ⟨p + 6, l ++ enc v, t', rfl, by omega, by omega, hOk, ?_, h4, by rw [← hlt, List.append_assoc], by rw [List.length_append]; omega, hMB2, up_off k34 k6⟩
    rw [pd_uni hu hpn, hsv] at hPd
    exact hPd
  | true =>
    rcases hcase with ⟨hpn, _⟩ | ⟨c, hc, hOk⟩
    · rw [pd_uni hu hpn, hsv] at hPd; cases hPd
    have hcl := pairU_le hc
    obtain ⟨m, hm, hvh, hml, hcm⟩ : ∃ m, uN x (p + 6) = some m ∧ (55296 ≤ v ∧ v ≤ 56319) ∧ (56320 ≤ m ∧ m ≤ 57343) ∧ c = 65536 + v % 1024 * 1024 + m % 1024 := by
      unfold pairU at hc
      split at hc
      · rename_i m hm
        split at hc
        · rename_i g
          exact ⟨m, hm, g.1, g.2, (Option.some.inj hc).symm⟩
        · cases hc
      · cases hc
    obtain ⟨hb6, hb7⟩ := uN_esc hm
    have hz6 := sfx_size x (p + 2 + 4)
    have e60 : bt (sfx x (p + 2 + 4)) (0 : Int) = 92 := by
      have h2 : bt x ((p + 6 : Nat) : Int) = 92 := by rw [bt_bn, hb6]; rfl
      exact (sfx_bt x (p + 2 + 4) 0).trans h2
    have e61 : bt (sfx x (p + 2 + 4)) (1 : Int) = 117 := by
      have h2 : bt x ((p + 6 + 1 : Nat) : Int) = 117 := by rw [bt_bn, hb7]; rfl
      exact (sfx_bt x (p + 2 + 4) 1).trans h2
    refine sat_iteF.2 ?_
    refine s_cut (fun y w' => y = (false, ()) ∧ w' = w5) ?_ ?_
    · refine s_iteD (fun h => by omega) (fun _ => s_chk (by omega) (s_iteN (fun h => absurd e60 h) (fun _ => s_chk (by omega) (s_leaf ?_))))
      rw [if_pos rfl, e61]
      exact ⟨(false, ()), rfl, rfl, rfl⟩
    rintro y w6 ⟨rfl, rfl⟩
    show sat _ (fastjson_unescapeStringBestEffort.t2 z (sfx x (p + 1)) ((v : Int), Value.nilIface, ()) false) _ _
    unfold fastjson_unescapeStringBestEffort.t2
    simp only [Int.toNat_natCast, sfx_sfx, e2]
    refine sat_iteF.2 (s_chk (by omega) ?_)
    rw [sub_ext2 (x := x) (i := p + 2 + 4) (a := 2) (b := 6) (by omega)]
    have hsz2 : (x.extract (p + 2 + 4 + 2) (p + 2 + 4 + 6)).size = 4 := by rw [ByteArray.size_extract]; omega
    have hhm : Uq.hx x (p + 2 + 4 + 2) 4 = some m := by
      have hu' := hm
      unfold uN at hu'
      rw [if_pos ⟨by omega, hb6, hb7⟩] at hu'
      exact hu'
    have hul2 := uN_lt hm
    refine s_call (Hp.uint16_any (v := m) hsz2 (by rw [hx_same (o := x) (q := p + 2 + 4 + 2) ext_gb 4 (Nat.le_refl _)]; exact hhm)) ?_
    rintro e' w7 ⟨rfl, k7⟩
    have wm : IntKind.wrap IntKind.i32 (m : Int) = (m : Int) := by rw [IntKind.wrap_i32]; omega
    refine ⟨((m : Int), Value.nilIface, ()), rfl, s_chk rfl (sat_iteF.2 ?_)⟩
    show sat _ (.call _ #[(Value.int IntKind.i32 (IntKind.wrap IntKind.i32 (v : Int))), (Value.int IntKind.i32 (IntKind.wrap IntKind.i32 (m : Int)))] _ _) _ _
    rw [wv, wm]
    refine s_call (dec_any hvh hml) ?_
    rintro e' w8 ⟨rfl, rfl⟩
    rw [← hcm]
    have hsc : sur c = false := by
      cases h : sur c with
      | false => rfl
      | true => have := sur_iff.1 h; omega
    refine ⟨(c : Int), rfl, s_eff (w' := w8) (Utf8.encode (c : Int)) (run_convert_int_string (P := Tryz.prog) w8 21 9 .i32 (c : Int) (by rw [Tryz.underlying21]; rfl) Tryz.underlying9) ?_⟩
    have henc := encode_enc (n := c) hcl.1 hsc
    have hel := (enc_len c).2
    have hes : (Utf8.encode (c : Int)).size = (enc c).length := by rw [size_list, henc]
    have hz9 := sfx_size x (p + 2 + 4)
    refine s_mbS (hMB4.off k7) rfl (by omega) fun z2 w9 hMB2 k9 => s_chk (by omega) (s_leaf ?_)
    rw [if_pos rfl]
    rw [henc] at hMB2
    rw [uo_pair hu hc] at ht
    obtain ⟨t', h4, rfl⟩ := map_some ht
    refine MQ (k := 0) (v := (sfx x (p + 2 + 4 + 6), z2, ())) ⟨p + 12, l ++ enc c, t', rfl, by omega, by omega, hOk, ?_, h4, by rw [← hlt, List.append_assoc], by rw [List.length_append]; omega, hMB2, up_off (k34.trans k7) k9⟩
    rw [pd_pair hu hc] at hPd
    exact hPd
end Go.Proofs.YtkpnomdmnhhaoaaGreatDoor.Ze
