/- pretty's Spec takes away the comma ahead of a closing bracket. No condition beyond the statement's own guards. -/
import Derived.Test.YtdjilnhalpmabaaQt
import Derived.Test.YtdjilnhalpmabaaPp
import Derived.OpenShut
namespace Go.Proofs.Ytdjilnhalpmabaa.LawPrSpecComma
open Go Go.Proofs Go.Proofs.Ytdjilnhalpmabaa.Rx Go.Proofs.Ytdjilnhalpmabaa.Tr Go.Proofs.Ytdjilnhalpmabaa.Pl Go.Proofs.Ytdjilnhalpmabaa.Sr Go.Proofs.Ytdjilnhalpmabaa.Qs

theorem bt_app (x y : ByteArray) (k : Nat) : bt (x ++ y) (k : Nat) = if k < x.size then bt x (k : Nat) else bt y ((k - x.size : Nat) : Int) := by
  unfold bt
  rw [Int.toNat_natCast, Int.toNat_natCast]
  have e : (x ++ y).data.toList = x.data.toList ++ y.data.toList := by simp [ByteArray.data_append]
  rw [e]
  have hl : x.data.toList.length = x.size := by simp
  split
  · rw [List.getD_eq_getElem?_getD, List.getD_eq_getElem?_getD, List.getElem?_append_left (by omega)]
  · rw [List.getD_eq_getElem?_getD, List.getD_eq_getElem?_getD, List.getElem?_append_right (by omega), hl]
theorem size_app (x y : ByteArray) : (x ++ y).size = x.size + y.size := ByteArray.size_append
def one1 (c : UInt8) : ByteArray := ByteArray.mk #[c]
theorem one_size (c : UInt8) : (one1 c).size = 1 := id rfl
theorem one_bt (c : UInt8) : bt (one1 c) ((0 : Nat) : Int) = c.toNat := rfl

theorem prPlaces_any {s : ByteArray} {w : World} : Calls Try.prog 15 #[.string s] w fun e w' => (∃ (k b e1 : Int) (na ka : Sl) (x : Bool), e = .returned (.tuple #[.agg (pc k b e1 na ka).toArray, .bool x]) ∧ (x = true → (places s).isSome = true)) ∧ Kp Off w w' := by
  refine laws_prPlaces.calls _ ?_
  unfold laws_prPlaces.t
  refine s_alloc ?_
  have hb := Blk.new w zp tP
  have k0 : Kp Off w (w.alloc (.cells zp.toArray tP (0, 0))) := (Kp.refl Off w).alloc _
  refine s_iteD (fun h => ?_) (fun h => ?_)
  · refine p_no hb rfl fun w' k => ⟨rfl, ⟨_, _, _, _, _, false, rfl, fun h => by cases h⟩, k0.then k fun q hq e => by have : q = w.heap.size := e; omega⟩
  · refine s_call (places_any (by omega)) ?_
    rintro e w1 ⟨k, b, e1, na, ka, rfl, k1, hp⟩
    refine ⟨((k, b, e1, na, ka, ()), (places s).isSome, ()), rfl, ?_⟩
    obtain ⟨w2, h2, h3, h4⟩ := storeP (k1.blk hb (fun h => h)) rfl k b e1 na ka
    refine s_effU h2 ?_
    refine s_effS (k, b, e1, na, ka, ()) (loadP h3) (s_leaf ⟨rfl, ⟨k, b, e1, na, ka, _, rfl, fun h => h⟩, ?_⟩)
    exact (k0.trans k1).then h4 fun q hq e => by have : q = w.heap.size := e; omega

/-- The scanner goes over a whole JSON text. -/
theorem text_run {a : ByteArray} (h : (places a).isSome = true) : Run a 0 a.size := by
  unfold places at h
  cases hv : val a (bl a 0) with
  | none => rw [hv] at h; cases h
  | some p =>
    rw [hv] at h
    simp only [Option.bind_some] at h
    split at h
    · rename_i he
      have hb := bl_le a 0 (Nat.zero_le _)
      obtain ⟨r, _⟩ := (runs (s := a) _ _ (Nat.le_refl _) hb).1 _ hv
      have := val_end hb hv
      have r2 := Run.blanks (s := a) (i := p.e) this.2.2
      rw [he] at r2
      exact ((Run.blanks (Nat.zero_le _)).trans r).trans r2
    · cases h
def blk1 (e : ByteArray) : Prop := ∀ k : Nat, k < e.size → isB (bt e (k : Nat)) = true

/-- "[a,edge]" and what comes of it. -/
theorem arr_any {a e : ByteArray} {w : World} (ha : (places a).isSome = true) (he : blk1 e) (hs : a.size + e.size < 1000000) :
    Calls Try.prog 16 #[.string ((((one1 91 ++ a) ++ one1 44) ++ e) ++ one1 93)] w fun en w' => en = .returned (.string ((((one1 91 ++ a) ++ one1 32) ++ e) ++ one1 93)) ∧ Kp Off w w' := by
  have hz : ((((one1 91 ++ a) ++ one1 44) ++ e) ++ one1 93).size = a.size + e.size + 3 := by simp only [size_app, one_size]; omega
  have hb : ∀ (d : UInt8) (k : Nat), bt ((((one1 91 ++ a) ++ one1 d) ++ e) ++ one1 93) (k : Nat) =
      if k < 1 then 91 else if k < 1 + a.size then bt a ((k - 1 : Nat) : Int) else if k < 1 + a.size + 1 then (d.toNat : Int) else if k < 1 + a.size + 1 + e.size then bt e ((k - (1 + a.size + 1) : Nat) : Int) else bt (one1 93) ((k - (1 + a.size + 1 + e.size) : Nat) : Int) := by
    intro d k
    simp only [bt_app, size_app, one_size]
    by_cases h1 : k < 1
    · rw [if_pos (by omega), if_pos (by omega), if_pos (by omega), if_pos h1, if_pos h1]
      have : k = 0 := by omega
      subst this; rfl
    by_cases h2 : k < 1 + a.size
    · rw [if_pos (by omega), if_pos (by omega), if_pos h2, if_neg h1, if_neg h1, if_pos h2]
    by_cases h3 : k < 1 + a.size + 1
    · rw [if_pos (by omega), if_pos h3, if_neg h2, if_neg h1, if_neg h2, if_pos h3]
      have : k - (1 + a.size) = 0 := by omega
      rw [this]; rfl
    by_cases h4 : k < 1 + a.size + 1 + e.size
    · rw [if_pos h4, if_neg h3, if_neg h1, if_neg h2, if_neg h3, if_pos h4]
    · rw [if_neg h4, if_neg h1, if_neg h2, if_neg h3, if_neg h4]
  have hr := text_run ha
  refine prSpec_any (c := 1 + a.size) (by omega) (by omega) ?_ ?_ ?_ ?_ ?_ ?_ ?_
  · have r1 : Run ((((one1 91 ++ a) ++ one1 44) ++ e) ++ one1 93) 0 1 := Run.one (x := 91) (by decide) (by rw [hb 44 0, if_pos (by omega)])
    have r2 := hr.shift (t := (((one1 91 ++ a) ++ one1 44) ++ e) ++ one1 93) (d := 1) (fun k hk => by rw [hb 44 (k + 1), if_neg (by omega), if_pos (by omega)]; congr 1) (by omega)
    have r3 : Run ((((one1 91 ++ a) ++ one1 44) ++ e) ++ one1 93) (a.size + 1) (a.size + 1 + 1) := Run.one (x := 44) (by decide) (by rw [hb 44 (a.size + 1), if_neg (by omega), if_neg (by omega), if_pos (by omega)]; rfl)
    rw [hz]
    refine ((r1.trans r2).trans r3).trans (.bytes (by omega) (by omega) fun k h1 h2 => ?_)
    rw [hb 44 k, if_neg (by omega), if_neg (by omega), if_neg (by omega), if_pos (by omega)]
    have := isB_of (he (k - (1 + a.size + 1)) (by omega))
    exact ⟨this.1, this.2.1, this.2.2.1, this.2.2.2.1⟩
  · left
    rw [hz, hb 44 _, if_neg (by omega), if_neg (by omega), if_neg (by omega), if_neg (by omega)]
    rw [show a.size + e.size + 3 - 1 - (1 + a.size + 1 + e.size) = 0 from by omega]; rfl
  · omega
  · rw [hb 44 _, if_neg (by omega), if_neg (by omega), if_pos (by omega)]; rfl
  · intro k h1 h2
    rw [hb 44 k, if_neg (by omega), if_neg (by omega), if_neg (by omega), if_pos (by omega)]
    exact (isB_of (he (k - (1 + a.size + 1)) (by omega))).2.2.2.2
  · simp only [size_app, one_size]
  · intro k hk
    rw [hb 32 k, hb 44 k]
    by_cases h : k = 1 + a.size
    · rw [if_neg (by omega), if_neg (by omega), if_pos (by omega), if_pos h]; rfl
    · rw [if_neg h]
      by_cases h1 : k < 1
      · rw [if_pos h1, if_pos h1]
      by_cases h2 : k < 1 + a.size
      · rw [if_neg h1, if_neg h1, if_pos h2, if_pos h2]
      · have h3 : ¬ k < 1 + a.size + 1 := by omega
        rw [if_neg h1, if_neg h1, if_neg h2, if_neg h2, if_neg h3, if_neg h3]
def pre : ByteArray := ByteArray.mk #[(123 : UInt8), (34 : UInt8), (97 : UInt8), (34 : UInt8), (58 : UInt8)]
theorem pre_size : pre.size = 5 := id rfl
/-- "{"a":a edge,edge}" and what comes of it. -/
theorem obj_any {a e : ByteArray} {w : World} (ha : (places a).isSome = true) (he : blk1 e) (hs : a.size + e.size < 1000000) :
    Calls Try.prog 16 #[.string (((((pre ++ a) ++ e) ++ one1 44) ++ e) ++ one1 125)] w fun en w' => en = .returned (.string (((((pre ++ a) ++ e) ++ one1 32) ++ e) ++ one1 125)) ∧ Kp Off w w' := by
  have hz : (((((pre ++ a) ++ e) ++ one1 44) ++ e) ++ one1 125).size = a.size + e.size + e.size + 7 := by simp only [size_app, one_size, pre_size]; omega
  have hb : ∀ (d : UInt8) (k : Nat), bt (((((pre ++ a) ++ e) ++ one1 d) ++ e) ++ one1 125) (k : Nat) =
      if k < 5 then bt pre (k : Nat) else if k < 5 + a.size then bt a ((k - 5 : Nat) : Int) else if k < 5 + a.size + e.size then bt e ((k - (5 + a.size) : Nat) : Int) else if k < 5 + a.size + e.size + 1 then (d.toNat : Int) else
        if k < 5 + a.size + e.size + 1 + e.size then bt e ((k - (5 + a.size + e.size + 1) : Nat) : Int) else bt (one1 125) ((k - (5 + a.size + e.size + 1 + e.size) : Nat) : Int) := by
    intro d k
    simp only [bt_app, size_app, one_size, pre_size]
    by_cases h1 : k < 5
    · rw [if_pos (by omega), if_pos (by omega), if_pos (by omega), if_pos (by omega), if_pos h1, if_pos h1]
    by_cases h2 : k < 5 + a.size
    · rw [if_pos (by omega), if_pos (by omega), if_pos (by omega), if_pos h2, if_neg h1, if_neg h1, if_pos h2]
    by_cases h3 : k < 5 + a.size + e.size
    · rw [if_pos (by omega), if_pos (by omega), if_pos h3, if_neg h2, if_neg h1, if_neg h2, if_pos h3]
    by_cases h4 : k < 5 + a.size + e.size + 1
    · rw [if_pos (by omega), if_pos h4, if_neg h3, if_neg h1, if_neg h2, if_neg h3, if_pos h4]
      have : k - (5 + a.size + e.size) = 0 := by omega
      rw [this]; rfl
    by_cases h5 : k < 5 + a.size + e.size + 1 + e.size
    · rw [if_pos h5, if_neg h4, if_neg h1, if_neg h2, if_neg h3, if_neg h4, if_pos h5]
    · rw [if_neg h5, if_neg h1, if_neg h2, if_neg h3, if_neg h4, if_neg h5]
  have hr := text_run ha
  have hbT := hb 44
  generalize hT : ((((pre ++ a) ++ e) ++ one1 44) ++ e) ++ one1 125 = T at hz hbT ⊢
  refine prSpec_any (c := 5 + a.size + e.size) (by omega) (by omega) ?_ ?_ ?_ ?_ ?_ ?_ ?_
  · have b0 : bt T ((0 : Nat) : Int) = 123 := by rw [hbT 0, if_pos (by omega)]; rfl
    have b1 : bt T ((1 : Nat) : Int) = 34 := by rw [hbT 1, if_pos (by omega)]; rfl
    have b2 : bt T ((2 : Nat) : Int) = 97 := by rw [hbT 2, if_pos (by omega)]; rfl
    have b3 : bt T ((3 : Nat) : Int) = 34 := by rw [hbT 3, if_pos (by omega)]; rfl
    have b4 : bt T ((4 : Nat) : Int) = 58 := by rw [hbT 4, if_pos (by omega)]; rfl
    have r0 : Run T 0 1 := Run.one (x := 123) (by decide) b0
    have hst : strE T 2 = some 4 := by
      rw [strE_plain (by omega) (by rw [b2]; decide) (by rw [b2]; decide) (by rw [b2]; decide)]
      exact strE_q b3
    have r1 : Run T 1 4 := .str b1 hst (.refl _)
    have r2 : Run T 4 5 := Run.one (x := 58) (by decide) b4
    have r3 := hr.shift (t := T) (d := 5) (fun k hk => by rw [hbT (k + 5), if_neg (by omega), if_pos (by omega)]; congr 1) (by omega)
    rw [Nat.zero_add] at r3
    have r4 : Run T (a.size + 5) (a.size + 5 + e.size) := .bytes (by omega) (by omega) fun k h1 h2 => by
      rw [hbT k, if_neg (by omega), if_neg (by omega), if_pos (by omega)]
      have := isB_of (he (k - (5 + a.size)) (by omega))
      exact ⟨this.1, this.2.1, this.2.2.1, this.2.2.2.1⟩
    have r5 : Run T (a.size + 5 + e.size) (a.size + 5 + e.size + 1) := Run.one (x := 44) (by decide) (by rw [hbT (a.size + 5 + e.size), if_neg (by omega), if_neg (by omega), if_neg (by omega), if_pos (by omega)]; rfl)
    have r6 : Run T (a.size + 5 + e.size + 1) (T.size - 1) := .bytes (by omega) (by omega) fun k h1 h2 => by
      rw [hbT k, if_neg (by omega), if_neg (by omega), if_neg (by omega), if_neg (by omega), if_pos (by omega)]
      have := isB_of (he (k - (5 + a.size + e.size + 1)) (by omega))
      exact ⟨this.1, this.2.1, this.2.2.1, this.2.2.2.1⟩
    exact (((((r0.trans r1).trans r2).trans r3).trans r4).trans r5).trans r6
  · right
    rw [hbT (T.size - 1), if_neg (by omega), if_neg (by omega), if_neg (by omega), if_neg (by omega), if_neg (by omega)]
    rw [show T.size - 1 - (5 + a.size + e.size + 1 + e.size) = 0 from by omega]; rfl
  · omega
  · rw [hbT (5 + a.size + e.size), if_neg (by omega), if_neg (by omega), if_neg (by omega), if_pos (by omega)]; rfl
  · intro k h1 h2
    rw [hbT k, if_neg (by omega), if_neg (by omega), if_neg (by omega), if_neg (by omega), if_pos (by omega)]
    exact (isB_of (he (k - (5 + a.size + e.size + 1)) (by omega))).2.2.2.2
  · rw [hz]; simp only [size_app, one_size, pre_size]; omega
  · intro k hk
    rw [hb 32 k, hbT k]
    by_cases h : k = 5 + a.size + e.size
    · rw [if_neg (by omega), if_neg (by omega), if_neg (by omega), if_pos (by omega), if_pos h]; rfl
    · rw [if_neg h]
      by_cases h1 : k < 5
      · rw [if_pos h1, if_pos h1]
      by_cases h2 : k < 5 + a.size
      · rw [if_neg h1, if_neg h1, if_pos h2, if_pos h2]
      by_cases h3 : k < 5 + a.size + e.size
      · rw [if_neg h1, if_neg h1, if_neg h2, if_neg h2, if_pos h3, if_pos h3]
      · have h4 : ¬ k < 5 + a.size + e.size + 1 := by omega
        rw [if_neg h1, if_neg h1, if_neg h2, if_neg h2, if_neg h3, if_neg h3, if_neg h4, if_neg h4]

theorem walk (a : ByteArray) (b c : Int) (w : World) (hsz : a.size ≤ 140737488351232) (_ : (Lit.int .u64 b).wf = true) (_ : (Lit.int .i64 c).wf = true) :
    Calls Try.prog 6 #[.string a, .int .u64 b, .int .i64 c] w fun e w' => e = .returned (.bool true) ∧ RowKit.Below w.heap.size w w' := by
  refine laws_FnPrSpecComma.calls _ _ _ ?_
  unfold laws_FnPrSpecComma.t
  have done : ∀ (w1 : World), Kp Off w w1 → (Ending.returned (retVal [.bool true]) = .returned (.bool true) ∧ RowKit.Below w.heap.size w w1) := fun w1 h => ⟨rfl, h.belowOff⟩
  refine s_iteD (fun _ => s_leaf ⟨rfl, done w (Kp.refl _ _)⟩) (fun hbig => ?_)
  refine s_call prPlaces_any ?_
  rintro e w1 ⟨⟨k, bb, e1, na, ka, x, rfl, hx⟩, k1⟩
  refine ⟨((k, bb, e1, na, ka, ()), x, ()), rfl, ?_⟩
  refine s_alloc ?_
  obtain ⟨w2, h2, hc2, k2⟩ := storeP (Blk.new w1 zp tP) rfl k bb e1 na ka
  refine s_effU h2 ?_
  have kc : Kp Off w1 w2 := (((Kp.refl (fun q => q = w1.heap.size) w1).alloc _).trans (k2.mono fun q _ h => h)).mono fun q hq h => by omega
  have k02 := k1.trans kc
  refine s_cut (fun x' w' => w2 = w' ∧ (x' = (true, ()) ∨ (x' = (false, ()) ∧ x = true ∧ a.size ≤ 4056 ∧ 0 ≤ c ∧ c ≤ 32))) ?_ ?_
  · cases x with
    | false => exact sat_iteT.2 (s_leaf (by rw [if_pos rfl]; exact ⟨(true, ()), rfl, rfl, .inl rfl⟩))
    | true =>
      refine sat_iteF.2 ?_
      refine s_iteD (fun _ => s_leaf (by rw [if_pos rfl]; exact ⟨(true, ()), rfl, rfl, .inl rfl⟩)) (fun h1 => ?_)
      refine s_iteD (fun _ => s_leaf (by rw [if_pos rfl]; exact ⟨(true, ()), rfl, rfl, .inl rfl⟩)) (fun h2 => s_leaf ?_)
      rw [if_pos rfl]
      by_cases h3 : c > 32
      · exact ⟨(decide (c > 32), ()), rfl, rfl, .inl (bpair (by simp [h3]))⟩
      · exact ⟨(decide (c > 32), ()), rfl, rfl, .inr ⟨bpair (by simp [h3]), rfl, by omega, by omega, by omega⟩⟩
  rintro x' w' ⟨rfl, rfl | ⟨rfl, rfl, ha, hc0, hc1⟩⟩
  · simp only [laws_FnPrSpecComma.t1]
    exact sat_iteT.2 (s_leaf ⟨rfl, done w2 k02⟩)
  simp only [laws_FnPrSpecComma.t1]
  refine sat_iteF.2 ?_
  have hpl := hx rfl
  refine s_loop (fun n x w' => ∃ (i : Nat) (e : ByteArray), x = ((i : Int), e, ()) ∧ (i : Int) ≤ c ∧ n = c.toNat - i ∧ e.size = i ∧ blk1 e ∧ Kp Off w w') c.toNat ((0 : Int), ByteArray.mk #[], ()) rfl
    ⟨0, ByteArray.mk #[], rfl, hc0, rfl, rfl, fun k hk => absurd hk (Nat.not_lt_zero k), k02⟩ ?_
  rintro n x w3 ⟨i, e, rfl, hi, rfl, hez, he, k3⟩
  simp only [laws_FnPrSpecComma.t2]
  refine s_iteD (fun hlt => ?_) (fun hge => ?_)
  · have hbs := run_buildSlice (P := Try.prog) w3 38 9 4 #[(0, (Value.string (ByteArray.mk #[(32 : UInt8)]))), (1, (Value.string (ByteArray.mk #[(9 : UInt8)]))), (2, (Value.string (ByteArray.mk #[(10 : UInt8)]))), (3, (Value.string (ByteArray.mk #[(13 : UInt8)])))]
      #[.string (one1 32), .string (one1 9), .string (one1 10), .string (one1 13)] _ (.string (ByteArray.mk #[])) Try.underlying38 (info_some (by kernel_rfl)) (by kernel_rfl) (of_decide_eq_true (by kernel_rfl)) (of_decide_eq_true (by kernel_rfl)) (by kernel_rfl)
    refine s_eff (some ⟨w3.heap.size, 0, none⟩, 4, 4) hbs ?_
    have hbk := Blk.new w3 [.string (one1 32), .string (one1 9), .string (one1 10), .string (one1 13)] 9
    have k4 : Kp Off w (w3.alloc (.cells [Value.string (one1 32), .string (one1 9), .string (one1 10), .string (one1 13)].toArray 9 (0, 0))) := k3.alloc _
    have eiu : IntKind.wrap .u64 (i : Int) = (i : Int) := wrapU_in (by omega) (by omega)
    rw [eiu, wrapU_in (n := (2 : Int) * (i : Int)) (by omega) (by omega)]
    generalize BitVec.ofInt 64 (Int.fdiv b ((2 : Int) ^ (min (Int.toNat ((2 : Int) * (i : Int))) 64))) = X
    have hle : (X &&& BitVec.ofInt 64 (3 : Int)).toNat ≤ 3 := by
      rw [BitVec.toNat_and]
      exact Nat.and_le_right
    generalize (X &&& BitVec.ofInt 64 (3 : Int)).toNat = m at *
    rw [wrapU_in (n := (m : Int)) (by omega) (by omega)]
    refine s_chk (by omega) (s_chk ⟨by omega, show (m : Int) < 4 by omega⟩ (s_ptr ?_))
    obtain ⟨d, hd, hcell⟩ : ∃ d : UInt8, isB (d.toNat : Int) = true ∧ (w3.alloc (.cells [Value.string (one1 32), .string (one1 9), .string (one1 10), .string (one1 13)].toArray 9 (0, 0))).cell? ((⟨w3.heap.size, 0, none⟩ : Addr).add (Int.toNat (m : Int) * 1)) = some (.string (one1 d)) := by
      rw [Int.toNat_natCast, Nat.mul_one, addr_add, Nat.zero_add, hbk.cell m]
      match m, hle with
      | 0, _ => exact ⟨32, rfl, rfl⟩
      | 1, _ => exact ⟨9, rfl, rfl⟩
      | 2, _ => exact ⟨10, rfl, rfl⟩
      | 3, _ => exact ⟨13, rfl, rfl⟩
    refine s_load (one1 d) hcell (s_chk ?_ (s_leaf ?_))
    · rw [one_size]; omega
    rw [if_pos rfl, wrap_in (by omega) (by omega)]
    refine ⟨c.toNat - (i + 1), (((i + 1 : Nat) : Int), e ++ one1 d, ()), rfl, by omega, i + 1, e ++ one1 d, rfl, by omega, rfl, by rw [size_app, one_size]; omega, ?_, k4⟩
    intro q hq
    rw [size_app, one_size] at hq
    rw [bt_app]
    split
    · exact he q (by omega)
    · rw [show q - e.size = 0 from by omega]; exact hd
  · have hsm : a.size + e.size < 1000000 := by omega
    have sz : ∀ c : UInt8, (ByteArray.mk #[c]).size = 1 := fun _ => rfl
    have szp : (ByteArray.mk #[(123 : UInt8), (34 : UInt8), (97 : UInt8), (34 : UInt8), (58 : UInt8)]).size = 5 := rfl
    refine s_chk (by omega) (s_chk (by simp only [size_app, sz]; omega) (s_chk (by simp only [size_app, sz]; omega) (s_chk (by simp only [size_app, sz]; omega) ?_)))
    refine s_call (arr_any hpl he hsm) ?_
    rintro en w4 ⟨rfl, k4⟩
    refine ⟨_, rfl, ?_⟩
    refine s_chk (by omega) (s_chk (by simp only [size_app, sz]; omega) (s_chk (by simp only [size_app, sz]; omega) (s_chk (by simp only [size_app, sz]; omega) ?_)))
    refine s_ite (fun _ => ?_) (fun h => ?_)
    · refine s_chk (by omega) (s_chk (by simp only [size_app, szp]; omega) (s_chk (by simp only [size_app, szp]; omega) (s_chk (by simp only [size_app, sz, szp]; omega) (s_chk (by simp only [size_app, sz, szp]; omega) ?_))))
      refine s_call (obj_any hpl he hsm) ?_
      rintro en w5 ⟨rfl, k5⟩
      refine ⟨_, rfl, ?_⟩
      refine s_chk (by omega) (s_chk (by simp only [size_app, szp]; omega) (s_chk (by simp only [size_app, szp]; omega) (s_chk (by simp only [size_app, sz, szp]; omega) (s_chk (by simp only [size_app, sz, szp]; omega) (s_leaf ?_)))))
      rw [if_neg (by decide)]
      refine ⟨rfl, ?_, ((k3.trans k4).trans k5).belowOff⟩
      have : ∀ x : ByteArray, strEq x x = true := fun x => strEq_iff.2 rfl
      exact congrArg (fun b => Ending.returned (retVal [.bool b])) (this _)
    · have ht : strEq ((((one1 91 ++ a) ++ one1 32) ++ e) ++ one1 93) ((((one1 91 ++ a) ++ one1 32) ++ e) ++ one1 93) = true := strEq_iff.2 rfl
      exact absurd (h.symm.trans ht) (by decide)
end Go.Proofs.Ytdjilnhalpmabaa.LawPrSpecComma
