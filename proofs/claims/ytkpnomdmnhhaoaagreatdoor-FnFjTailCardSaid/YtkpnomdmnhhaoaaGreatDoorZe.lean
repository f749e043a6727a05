/- fastjson's unescapeStringBestEffort over a string's inside whose escapes are whole and whose surrogates stand in pairs. No statement of the set is proved here. -/
import Derived.Test.YtkpnomdmnhhaoaaGreatDoorZo
import Derived.Test.YtkpnomdmnhhaoaaGreatDoorZh
import Derived.Test.YtkpnomdmnhhaoaaGreatDoorZs
import Derived.Test.YtkpnomdmnhhaoaaGreatDoorZn
namespace Go.Proofs.YtkpnomdmnhhaoaaGreatDoor.Ze
open Go Go.Proofs Go.RowKit Go.Proofs.YtkpnomdmnhhaoaaGreatDoor.Rx Go.Proofs.YtkpnomdmnhhaoaaGreatDoor.Tr Go.Proofs.YtkpnomdmnhhaoaaGreatDoor.Pl Go.Proofs.YtkpnomdmnhhaoaaGreatDoor.Pw Go.Proofs.YtkpnomdmnhhaoaaGreatDoor.Ut Go.Proofs.YtkpnomdmnhhaoaaGreatDoor.Uq Go.Proofs.YtkpnomdmnhhaoaaGreatDoor.Bw Go.Proofs.YtkpnomdmnhhaoaaGreatDoor.Zu Go.Proofs.YtkpnomdmnhhaoaaGreatDoor.Zs Go.Proofs.YtkpnomdmnhhaoaaGreatDoor.Zo
open Go.Proofs.YtkpnomdmnhhaoaaGreatDoor.Sr (Sl slV tBs tB)
open Go.Proofs.YtkpnomdmnhhaoaaGreatDoor.Ql (tl tl_on tl_end)
open Go.Proofs.YtkpnomdmnhhaoaaGreatDoor.Nt (build1)

variable {w w' w0 : World} {x s : ByteArray}
/-- Blocks from a number on. -/
def Up (base : Nat) : Nat → Prop := fun q => base ≤ q
/-- Bytes in a block, with room for more. -/
def MB (w : World) (base room : Nat) (z : Sl) (l : List UInt8) : Prop :=
  ∃ g cap, z = (some ⟨g, 0, none⟩, l.length, cap) ∧ base ≤ g ∧ g < w.heap.size ∧ room ≤ cap ∧ l.length ≤ room ∧ (∀ j b, l[j]? = some b → w.cell? ⟨g, j, none⟩ = some (bv b)) ∧ ∀ j, j < room → (∃ u, w.cell? ⟨g, j, none⟩ = some u) ∧ w.frozen? ⟨g, j, none⟩ = false
variable {base room : Nat} {z : Sl} {l : List UInt8}
theorem MB.off (h : MB w base room z l) (k : Kp Off w w') : MB w' base room z l := by
  obtain ⟨g, cap, h1, h2, h3, h4, h5, h6, h7⟩ := h
  have hb := k.block g h3 id
  refine ⟨g, cap, h1, h2, Nat.lt_of_lt_of_le h3 k.size, h4, h5, fun j b hj => (Zv.same_block hb).1.trans (h6 j b hj), fun j hj => ?_⟩
  obtain ⟨⟨u, hu⟩, hf⟩ := h7 j hj
  exact ⟨⟨u, (Zv.same_block hb).1.trans hu⟩, (Zv.same_block hb).2.trans hf⟩
theorem MB.app (h : MB w base room z l) {tx : TypeId} {y : Value} {bs : List UInt8} (hx : Src Tryz.prog 1 tx y bs.length (bs.map bv) w) (hn : l.length + bs.length ≤ room) :
    ∃ (z' : Sl) (w' : World), (Builtin.append_ #[tBs, tx] tBs #[slV z, y]).run Tryz.prog w = .ok (slV z') w' ∧ MB w' base room z' (l ++ bs) ∧ Kp (Up base) w w' := by
  obtain ⟨g, cap, rfl, h2, h3, h4, h5, h6, h7⟩ := h
  obtain ⟨w', g1, g2, g3, g4, g5⟩ := app_room (P := Tryz.prog) (e := tB) Tryz.underlying43 (info_some (by kernel_rfl)) (by kernel_rfl) hx (g := g) (n := l.length) (cap := cap) (by omega) (fun j hj => h7 _ (by omega))
  refine ⟨(some ⟨g, 0, none⟩, l.length + bs.length, cap), w', g1, ⟨g, cap, by rw [List.length_append], h2, Nat.lt_of_lt_of_le h3 g5.size, h4, by rw [List.length_append]; exact hn, fun j b hj => ?_, fun j hj => ?_⟩, g5.mono fun q _ hq => by have hq : q = g := hq; rw [hq]; exact h2⟩
  · rcases Nat.lt_or_ge j l.length with g' | g'
    · rw [List.getElem?_append_left g'] at hj
      rw [g3 j (.inl g')]
      exact h6 j b hj
    · rw [List.getElem?_append_right g'] at hj
      have := g2 (j - l.length) (bv b) (by rw [List.getElem?_map, hj]; rfl)
      rwa [show l.length + (j - l.length) = j by omega] at this
  · refine ⟨?_, (g4 j).trans (h7 j hj).2⟩
    rcases Nat.lt_or_ge j l.length with g' | g'
    · rw [g3 j (.inl g')]; exact (h7 j hj).1
    · rcases Nat.lt_or_ge j (l.length + bs.length) with g'' | g''
      · obtain ⟨b, hb⟩ : ∃ b, bs[j - l.length]? = some b := ⟨_, List.getElem?_eq_getElem (by omega)⟩
        have := g2 (j - l.length) (bv b) (by rw [List.getElem?_map, hb]; rfl)
        rw [show l.length + (j - l.length) = j by omega] at this
        exact ⟨_, this⟩
      · rw [g3 j (.inr g'')]; exact (h7 j hj).1
/-- As steps of a tree: a string's bytes, one byte. -/
theorem s_mbS {Q : Nat → List Value → World → Prop} {ats : Array TypeId} {u : ByteArray} {K : Sh.slice.Ty → T} (h : MB w base room z l) (ha : ats = #[tBs, 9]) (hn : l.length + u.size ≤ room)
    (hK : ∀ (z' : Sl) (w' : World), MB w' base room z' (l ++ u.data.toList) → Kp (Up base) w w' → sat Tryz.prog (K z') Q w') :
    sat Tryz.prog (.eff (Builtin.append_ ats tBs #[(Value.slice (z).1 ((z).2).1 ((z).2).2), (Value.string u)]) .slice K) Q w := by
  subst ha
  have hz : u.data.toList.length = u.size := by rw [Array.length_toList]; rfl
  have hx : Src Tryz.prog 1 9 (.string u) u.data.toList.length (u.data.toList.map bv) w := by
    rw [hz]; exact Src.ofString w Tryz.underlying9 u
  obtain ⟨z', w', h1, h2, h3⟩ := h.app hx (by omega)
  exact s_eff z' h1 (hK z' w' h2 h3)
theorem s_mb1 {Q : Nat → List Value → World → Prop} {ats : Array TypeId} {b : UInt8} {n : Int} {K : Sh.slice.Ty → T} (h : MB w base room z l) (ha : ats = #[tBs, tBs]) (hb : n = (b.toNat : Int)) (hn : l.length + 1 ≤ room)
    (hK : ∀ (z' : Sl) (w' : World), MB w' base room z' (l ++ [b]) → Kp (Up base) w w' → sat Tryz.prog (K z') Q w') :
    sat Tryz.prog (.eff (Instr.buildSlice tBs 1 #[(0, (Value.int IntKind.u8 n))]) .slice fun z5 =>
      .eff (Builtin.append_ ats tBs #[(Value.slice (z).1 ((z).2).1 ((z).2).2), (Value.slice (z5).1 ((z5).2).1 ((z5).2).2)]) .slice K) Q w := by
  subst ha; subst hb
  have hbd := build1 (P := Tryz.prog) (w := w) (t := tBs) (size := 1) (z0 := .int .u8 0) Tryz.underlying43 (info_some (by kernel_rfl)) (by kernel_rfl) (by kernel_rfl) (by decide) (by decide) (bv b) [bv b] rfl rfl
  have k1 : Kp Off w (w.alloc (.cells [bv b].toArray tB)) := (Kp.refl _ w).alloc _
  have hx : Src Tryz.prog 1 tBs (.slice (some ⟨w.heap.size, 0, none⟩) 1 1) [b].length ([b].map bv) (w.alloc (.cells [bv b].toArray tB)) :=
    Src.ofSlice _ Tryz.underlying43 ⟨w.heap.size, 0, none⟩ 1 1 [bv b] rfl (fun j u hj => by
      rw [addr_add, Nat.zero_add]
      exact ((Blk.new w [bv b] tB).cell j).trans hj) (fun u hu => by
      rcases List.mem_cons.1 hu with rfl | hu
      · rfl
      · exact absurd hu List.not_mem_nil)
  obtain ⟨z', w', h1, h2, h3⟩ := (h.off k1).app hx hn
  exact s_eff (some ⟨w.heap.size, 0, none⟩, 1, 1) hbd (s_eff z' h1 (hK z' w' h2 ((Kp.off k1).trans h3)))
/-- The bytes as a string. -/
theorem MB.toStr (h : MB w base room z l) : (convert tBs 9 (slV z)).run Tryz.prog w = .ok (.string ⟨l.toArray⟩) w := by
  obtain ⟨g, cap, rfl, h2, h3, h4, h5, h6, h7⟩ := h
  exact run_convert_bytes_back (P := Tryz.prog) w tBs 9 tB ⟨g, 0, none⟩ cap l Tryz.underlying43 Tryz.underlying5 Tryz.underlying9 (fun j hj => by
    rw [addr_add, Nat.zero_add]; exact h6 j _ (List.getElem?_eq_getElem hj))
theorem b2s_any (h : MB w base room z l) : Calls Tryz.prog 37 #[slV z] w fun e w' => e = .returned (.string ⟨l.toArray⟩) ∧ w' = w := by
  refine fastjson_b2s.calls _ _ _ ?_
  unfold fastjson_b2s.t
  exact s_eff (⟨l.toArray⟩ : ByteArray) h.toStr (s_leaf ⟨rfl, rfl, rfl⟩)
/-- What s2b gives, cut to its first bytes. -/
theorem s2b_any {n : Nat} (hn : n ≤ x.size) : Calls Tryz.prog 54 #[.string x] w fun e w' => ∃ (cap : Nat), e = .returned (.slice (some ⟨w.heap.size, 0, none⟩) x.size cap) ∧ x.size ≤ cap ∧ MB w' w.heap.size x.size (some ⟨w.heap.size, 0, none⟩, n, cap) ((tl x 0).take n) ∧ Kp Off w w' := by
  refine fastjson_s2b.calls _ ?_
  unfold fastjson_s2b.t
  have hr := Lib.run_convert_string_bytes (P := Tryz.prog) w 9 tBs tB x Tryz.underlying9 Tryz.underlying43 Tryz.underlying5
  have hg := grownCap_ge w x.size 0 tB
  refine s_eff (some ⟨w.heap.size, 0, none⟩, x.size, grownCap w x.size 0 tB) hr (s_leaf ⟨rfl, grownCap w x.size 0 tB, rfl, hg, ?_, ?_⟩)
  · have hl : ((tl x 0).take n).length = n := by
      rw [List.length_take]
      show min n (x.data.toList.drop 0).length = n
      rw [List.drop_zero, Array.length_toList]
      exact Nat.min_eq_left hn
    refine ⟨w.heap.size, grownCap w x.size 0 tB, by rw [hl], Nat.le_refl _, by rw [Lib.bytesWorld_size]; omega, hg, by omega, fun j b hj => ?_, fun j hj => ⟨⟨_, Lib.bytesWorld_cell w tB x j hj⟩, ?_⟩⟩
    · have hjl := (List.getElem?_eq_some_iff.1 hj).1
      rw [hl] at hjl
      rw [Lib.bytesWorld_cell w tB x j (by omega)]
      rw [List.getElem?_take_of_lt hjl] at hj
      have hj : (x.data.toList.drop 0)[j]? = some b := hj
      rw [List.drop_zero] at hj
      rw [List.getD_eq_getElem?_getD, hj]; rfl
    · have h1 := Lib.bytesWorld_at_new w tB x
      unfold World.frozen?
      rw [h1]
      have hsz : (Lib.bytesCells w tB x).size = grownCap w x.size 0 tB := by
        unfold Lib.bytesCells
        rw [Array.size_append, Array.size_map, Array.size_replicate]
        show x.size + _ = _
        omega
      rw [hsz]
      simp; omega
  · refine ⟨rfl, rfl, rfl, by rw [Lib.bytesWorld_size]; omega, fun k hk _ => Lib.bytesWorld_at_old w tB x k hk⟩
/-! ## Plain -/
theorem uo_run : ∀ {n a b : Nat}, b - a = n → a ≤ b → b ≤ x.size → (∀ j, a ≤ j → j < b → bn x j ≠ 92) → uo x a = (uo x b).map ((tl x a).take (b - a) ++ ·)
  | 0, a, b, hn, hab, _, _ => by
    have : a = b := by omega
    subst this
    rw [Nat.sub_self, List.take_zero]
    cases uo x a <;> rfl
  | n + 1, a, b, hn, hab, hb, h => by
    rw [uo_plain (by omega) (h a (Nat.le_refl a) (by omega)), uo_run (n := n) (a := a + 1) (b := b) (by omega) (by omega) hb fun j g1 g2 => h j (by omega) g2]
    rw [tl_on (show a < x.size by omega), show b - a = (b - (a + 1)) + 1 by omega, List.take_succ_cons]
    cases uo x b <;> rfl
theorem OkU.next {a b : Nat} (h : OkU x a) (hab : a ≤ b) (hb : b ≤ x.size) (hp : ∀ j, a ≤ j → j < b → bn x j ≠ 92) : OkU x b := by
  induction hd : b - a generalizing a with
  | zero =>
    have : a = b := by omega
    subst this; exact h
  | succ n ih =>
    have h92 := hp a (Nat.le_refl a) (by omega)
    cases h with
    | fin h => omega
    | plain h1 h2 h3 => exact ih h3 (by omega) (fun j g1 g2 => hp j (by omega) g2) (by omega)
    | short h1 => exact absurd h1 h92
    | uni h1 => exact absurd (uN_esc h1).1 h92
    | pair h1 => exact absurd (uN_esc h1).1 h92
theorem tl_sfx {a b : Nat} (hab : a ≤ b) : (x.extract a b).data.toList = (tl x a).take (b - a) := by
  have := Ql.extract_tl x a (b - a)
  rwa [show a + (b - a) = b by omega] at this
theorem valid_of {n : Nat} (hn : n ≤ 1114111) (hs' : ¬ (55296 ≤ n ∧ n ≤ 57343)) : Utf8.valid (n : Int) = true := by
  unfold Utf8.valid
  by_cases h : n < 55296
  · rw [decide_eq_true (by omega : (0 : Int) ≤ (n : Int)), decide_eq_true (by omega : (n : Int) < 55296)]
    exact Bool.true_or _
  · rw [decide_eq_true (by omega : (57344 : Int) ≤ (n : Int)), decide_eq_true (by omega : (n : Int) ≤ 1114111)]
    exact Bool.or_true _
theorem encode_enc {n : Nat} (hn : n ≤ 1114111) (hs : sur n = false) : (Utf8.encode (n : Int)).data.toList = enc n := by
  have hs' : ¬ (55296 ≤ n ∧ n ≤ 57343) := fun h => by rw [sur_iff.2 h] at hs; cases hs
  have hv := valid_of hn hs'
  have hc : (if Utf8.valid (n : Int) = true then ((n : Int)).toNat else Utf8.runeError) = n := by rw [if_pos hv, Int.toNat_natCast]
  unfold Utf8.encode
  simp only [hc]
  unfold enc
  by_cases h1 : n < 128
  · rw [if_pos h1, if_pos h1]
  by_cases h2 : n < 2048
  · rw [if_neg h1, if_neg h1, if_pos h2, if_pos h2]
  rw [if_neg h1, if_neg h1, if_neg h2, if_neg h2, if_neg hs']
  by_cases h3 : n < 65536
  · rw [if_pos h3, if_pos h3]
  · rw [if_neg h3, if_neg h3]
theorem enc_short {n : Nat} (h : n < 65536) : (enc n).length ≤ 3 := by
  unfold enc
  repeat' split
  all_goals simp
/-- The digits' value, as ParseUint reads them. -/
theorem hx_same {o s' : ByteArray} {q : Nat} (h : ∀ k, k < 4 → s'.data.toList.getD k 0 = gb o (q + k)) : ∀ j, j ≤ 4 → Hp.hx s' j = Uq.hx o q j
  | 0, _ => rfl
  | j + 1, hj => by
    unfold Hp.hx Uq.hx
    rw [hx_same h j (by omega), h j (by omega)]
    rfl
theorem ext_gb {o : ByteArray} {q : Nat} : ∀ k, k < 4 → (o.extract q (q + 4)).data.toList.getD k 0 = gb o (q + k) := fun k hk => by
  rw [Ql.extract_tl o q 4]
  unfold gb
  rw [List.getD_eq_getElem?_getD, List.getD_eq_getElem?_getD, List.getElem?_take_of_lt hk]
  show ((o.data.toList.drop q)[k]?).getD 0 = _
  rw [List.getElem?_drop]
theorem sur_any {n : Nat} (hn : n < 65536) : Calls Tryz.prog 77 #[.int .i32 n] w fun e w' => e = .returned (.bool (sur n)) ∧ w' = w := by
  refine utf16_IsSurrogate.calls _ ?_
  unfold utf16_IsSurrogate.t
  refine s_iteD (fun h => s_leaf ⟨rfl, ?_, rfl⟩) (fun h => s_leaf ⟨rfl, ?_, rfl⟩)
  · have : sur n = decide ((n : Int) < 57344) := by
      unfold sur
      rw [decide_eq_true (by omega : 55296 ≤ n), Bool.true_and]
      exact decide_eq_decide.2 (by omega)
    rw [this]; rfl
  · have : sur n = false := by
      unfold sur
      rw [decide_eq_false (by omega : ¬ 55296 ≤ n), Bool.false_and]
    rw [this]; rfl
theorem dec_any {n m : Nat} (hn : 55296 ≤ n ∧ n ≤ 56319) (hm : 56320 ≤ m ∧ m ≤ 57343) : Calls Tryz.prog 78 #[.int .i32 n, .int .i32 m] w fun e w' => e = .returned (.int .i32 (65536 + n % 1024 * 1024 + m % 1024 : Nat)) ∧ w' = w := by
  refine utf16_DecodeRune.calls _ _ ?_
  unfold utf16_DecodeRune.t
  have wi : ∀ {z : Int}, 0 ≤ z → z < 2147483648 → IntKind.wrap .i32 z = z := fun {z} h1 h2 => by rw [IntKind.wrap_i32]; omega
  refine s_iteD (fun _ => s_iteD (fun _ => s_iteD (fun _ => s_iteD (fun _ => s_chk (by decide) (s_leaf ⟨rfl, ?_, rfl⟩)) (fun h => by omega)) (fun h => by omega)) (fun h => by omega)) (fun h => by omega)
  have e1 : IntKind.wrap .i32 ((n : Int) - 55296) = ((n % 1024 : Nat) : Int) := by rw [wi (by omega) (by omega)]; omega
  have e2 : IntKind.wrap .i32 ((m : Int) - 56320) = ((m % 1024 : Nat) : Int) := by rw [wi (by omega) (by omega)]; omega
  rw [e1, e2]
  have e3 : IntKind.wrap .i32 (((n % 1024 : Nat) : Int) * 1024) = ((1024 * (n % 1024) : Nat) : Int) := by rw [wi (by omega) (by omega)]; omega
  rw [e3, BitVec.ofInt_natCast, BitVec.ofInt_natCast, BitVec.toNat_or, BitVec.toNat_ofNat, BitVec.toNat_ofNat, Nat.mod_eq_of_lt (by omega : 1024 * (n % 1024) < 2 ^ 32), Nat.mod_eq_of_lt (by omega : m % 1024 < 2 ^ 32)]
  have e4 : 1024 * (n % 1024) ||| m % 1024 = 1024 * (n % 1024) + m % 1024 := (Nat.two_pow_add_eq_or_of_lt (i := 10) (by omega) (n % 1024)).symm
  rw [e4, wi (z := ((1024 * (n % 1024) + m % 1024 : Nat) : Int)) (by omega) (by omega), wi (by omega) (by omega)]
  show Ending.returned (.int .i32 _) = _
  congr 2
  omega
end Go.Proofs.YtkpnomdmnhhaoaaGreatDoor.Ze
