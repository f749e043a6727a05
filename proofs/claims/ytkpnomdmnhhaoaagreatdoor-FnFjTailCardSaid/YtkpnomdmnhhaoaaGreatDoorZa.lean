/- Strings with their escapes whole, and surrogates in pairs; places in memory (some of it from this repo's jsonparser texts). No statement of the set is proved here. -/
import Derived.Test.YtkpnomdmnhhaoaaGreatDoorMF
import Derived.Test.YtkpnomdmnhhaoaaGreatDoorME
namespace Go.Proofs.YtkpnomdmnhhaoaaGreatDoor.Ka
open Go Go.Proofs Go.RowKit Go.Proofs.YtkpnomdmnhhaoaaGreatDoor.Rx Go.Proofs.YtkpnomdmnhhaoaaGreatDoor.Pl Go.Proofs.YtkpnomdmnhhaoaaGreatDoor.Pw Go.Proofs.YtkpnomdmnhhaoaaGreatDoor.Sk
/-- A name's characters, by its span. -/
def nmS (s : ByteArray) (n : Nat × Nat) : ByteArray := ⟨((Uq.uo (s.extract (n.1 + 1) (n.2 - 1)) 0).getD []).toArray⟩
theorem ext_size {s : ByteArray} {p k : Nat} (h : p + k ≤ s.size) : (s.extract p (p + k)).size = k := by rw [ByteArray.size_extract]; omega
theorem ext_bt {s : ByteArray} {p k j : Nat} (h : p + k ≤ s.size) (hj : j < k) : bt (s.extract p (p + k)) (j : Int) = bt s ((p + j : Nat) : Int) := bt_extract h (by omega)
theorem ext_bn {s : ByteArray} {p k j : Nat} (h : p + k ≤ s.size) (hj : j < k) : Ut.bn (s.extract p (p + k)) j = Ut.bn s (p + j) := by
  have := ext_bt h hj
  rw [Ut.bt_bn, Ut.bt_bn] at this
  exact Int.ofNat.inj this
theorem wfE_len {s : ByteArray} : ∀ (ks : List PT) (first : Bool) (j e : Nat), WfE s first j ks e → ks.length + j < e
  | [], first, j, e, h => by unfold WfE at h; have := bl_ge s j; simp; omega
  | p :: ks, first, j, e, h => by
    unfold WfE at h
    have a0 := wfE_len ks false p.e e h.2.2
    have a1 := h.2.1.lt
    have g := bl_ge s j
    have g2 := bl_ge s (bl s j + 1)
    have h0 := h.1
    have : j ≤ p.b := by split at h0 <;> omega
    rw [List.length_cons]; omega
end Go.Proofs.YtkpnomdmnhhaoaaGreatDoor.Ka
namespace Go.Proofs.YtkpnomdmnhhaoaaGreatDoor.Zu
open Go Go.Proofs Go.Proofs.YtkpnomdmnhhaoaaGreatDoor.Rx Go.Proofs.YtkpnomdmnhhaoaaGreatDoor.Pl Go.Proofs.YtkpnomdmnhhaoaaGreatDoor.Pw Go.Proofs.YtkpnomdmnhhaoaaGreatDoor.Sk Go.Proofs.YtkpnomdmnhhaoaaGreatDoor.Ut Go.Proofs.YtkpnomdmnhhaoaaGreatDoor.Uq
open Go.Proofs.YtkpnomdmnhhaoaaGreatDoor.Ka (ext_size ext_bt ext_bn nmS)

variable {s x : ByteArray}
/-- A string's inside from a place on: its escapes are whole. -/
inductive OkU (x : ByteArray) : Nat → Prop
  | fin {j : Nat} : x.size ≤ j → OkU x j
  | plain {j : Nat} : j < x.size → bn x j ≠ 92 → OkU x (j + 1) → OkU x j
  | short {j : Nat} : bn x j = 92 → j + 1 < x.size → isX (bt x ((j + 1 : Nat) : Int)) = true → uN x j = none → OkU x (j + 2) → OkU x j
  | uni {j n : Nat} : uN x j = some n → pairU x j n = none → OkU x (j + 6) → OkU x j
  | pair {j n c : Nat} : uN x j = some n → pairU x j n = some c → OkU x (j + 12) → OkU x j
/-- Half a surrogate pair. -/
def sur (n : Nat) : Bool := decide (55296 ≤ n) && decide (n ≤ 57343)
theorem sur_iff {n : Nat} : sur n = true ↔ 55296 ≤ n ∧ n ≤ 57343 := by simp [sur]
/-- Whether from a place on each escape of half a surrogate pair stands beside the other half. -/
def pd (s : ByteArray) (i : Nat) : Bool :=
  if i < s.size then
    if bn s i ≠ 92 then pd s (i + 1)
    else match uN s i with
      | none => pd s (i + 2)
      | some n => match pairU s i n with
        | some _ => pd s (i + 12)
        | none => if sur n then false else pd s (i + 6)
  else true
termination_by s.size - i
theorem pd_end {i : Nat} (h : s.size ≤ i) : pd s i = true := by rw [pd, if_neg (by omega)]
theorem pd_plain {i : Nat} (h : i < s.size) (hb : bn s i ≠ 92) : pd s i = pd s (i + 1) := by rw [pd, if_pos h, if_pos hb]
theorem pd_short {i : Nat} (hb : bn s i = 92) (hu : uN s i = none) : pd s i = pd s (i + 2) := by
  have hlt : i < s.size := lt_of_bn (by omega)
  rw [pd, if_pos hlt, if_neg (by simp [hb]), hu]
theorem pd_uni {i n : Nat} (hu : uN s i = some n) (hp : pairU s i n = none) : pd s i = (if sur n then false else pd s (i + 6)) := by
  have := uN_lt hu
  rw [pd, if_pos (by omega), if_neg (by simp [uN_bs hu]), hu]
  simp only
  rw [hp]
theorem pd_pair {i n c : Nat} (hu : uN s i = some n) (hp : pairU s i n = some c) : pd s i = pd s (i + 12) := by
  have := uN_lt hu
  rw [pd, if_pos (by omega), if_neg (by simp [uN_bs hu]), hu]
  simp only
  rw [hp]
/-- Where no backslash stands. -/
theorem pd_gap : ∀ {n a b : Nat}, b - a = n → a ≤ b → b ≤ s.size → (∀ j, a ≤ j → j < b → bn s j ≠ 92) → pd s a = pd s b
  | 0, a, b, hn, hab, _, _ => by
    have : a = b := by omega
    rw [this]
  | n + 1, a, b, hn, hab, hb, h => by
    rw [pd_plain (by omega) (h a (Nat.le_refl a) (by omega))]
    exact pd_gap (n := n) (by omega) (by omega) hb fun j g1 g2 => h j (by omega) g2
theorem hv_isH {n : Nat} (h : isH (n : Int) = true) : ∃ d, hv n = some d := by
  have h := isH_iff.1 h
  unfold hv
  rcases h with h | h | h
  · exact ⟨_, if_pos (by omega)⟩
  · exact ⟨_, by rw [if_neg (by omega), if_pos (by omega)]⟩
  · exact ⟨_, by rw [if_neg (by omega), if_neg (by omega), if_pos (by omega)]⟩
theorem hx_all {i : Nat} : ∀ {m : Nat}, (∀ d, d < m → isH (bt s ((i + d : Nat) : Int)) = true) → ∃ n, hx s i m = some n
  | 0, _ => ⟨0, rfl⟩
  | m + 1, h => by
    obtain ⟨a, ha⟩ := hx_all (m := m) fun d hd => h d (by omega)
    have h1 := h m (Nat.lt_succ_self m)
    rw [bt_bn] at h1
    obtain ⟨d, hd⟩ := hv_isH h1
    exact ⟨_, hx_some ha hd⟩
theorem ext_hx {p k : Nat} (h : p + k ≤ s.size) {i : Nat} : ∀ {m : Nat}, i + m ≤ k → hx (s.extract p (p + k)) i m = hx s (p + i) m
  | 0, _ => rfl
  | m + 1, hm => by
    unfold hx
    rw [ext_hx h (m := m) (by omega), ext_bn h (by omega), Nat.add_assoc]
theorem ext_uN {p k j : Nat} (h : p + k ≤ s.size) (hj : j + 6 ≤ k) : uN (s.extract p (p + k)) j = uN s (p + j) := by
  unfold uN
  rw [ext_size h, ext_bn h (by omega), ext_bn h (by omega), ext_hx h (by omega)]
  by_cases g : bn s (p + j) = 92 ∧ bn s (p + (j + 1)) = 117
  · rw [if_pos ⟨hj, g.1, g.2⟩, if_pos ⟨by omega, g.1, g.2⟩]; rfl
  · rw [if_neg fun c => g c.2, if_neg fun c => g c.2]
theorem uN_esc {i n : Nat} (h : uN s i = some n) : bn s i = 92 ∧ bn s (i + 1) = 117 := by
  unfold uN at h
  split at h
  · exact (by assumption : i + 6 ≤ s.size ∧ bn s i = 92 ∧ bn s (i + 1) = 117).2
  · cases h
theorem uN_no {i : Nat} (h : bn s (i + 1) ≠ 117) : uN s i = none := by
  unfold uN
  rw [if_neg fun c => h c.2.2]
theorem esc_u {i m : Nat} (h : escE s (i + 1) = some m) (hb : bt s (i : Int) = 92) (hu : isX (bt s ((i + 1 : Nat) : Int)) = false) : ∃ n, uN s i = some n ∧ m = i + 6 := by
  unfold escE at h
  rw [if_neg (by rw [hu]; decide)] at h
  split at h
  · rename_i g
    obtain ⟨e, hh⟩ := hexE_ok h
    have e' := (hexE_le h)
    have g1 : bn s (i + 1) = 117 := by rw [bt_bn] at g; exact Int.ofNat.inj g
    have g0 : bn s i = 92 := by rw [bt_bn] at hb; exact Int.ofNat.inj hb
    obtain ⟨n, hn⟩ := hx_all (m := 4) hh
    have h3 := hh 3 (by decide)
    have hz : i + 1 + 1 + 3 < s.size := lt_of_bt (by have := isH_iff.1 h3; omega)
    refine ⟨n, ?_, by omega⟩
    unfold uN
    rw [if_pos ⟨by omega, g0, g1⟩]; exact hn
  · cases h
/-- A string's inside is whole; pairs in the text are pairs in it. -/
theorem okU_of {p k : Nat} (h : p + k ≤ s.size) : ∀ (n j : Nat), k - j ≤ n → j ≤ k → strE s (p + j) = some (p + k + 1) → OkU (s.extract p (p + k)) j ∧ (pd s (p + j) = true → pd (s.extract p (p + k)) j = true ∧ pd s (p + k + 1) = true)
  | n, j, hn, hjk, hs => by
    have hz := ext_size h
    have hfin : ∀ {j}, j = k → strE s (p + j) = some (p + k + 1) → bn s (p + j) = 34 := fun {j} e hs => by
      subst e
      by_cases h34 : bt s ((p + j : Nat) : Int) = 34
      · rw [bt_bn] at h34; exact Int.ofNat.inj h34
      · exfalso
        have hlt : p + j < s.size := by have := strE_le hs; omega
        by_cases h32 : bt s ((p + j : Nat) : Int) < 32
        · rw [strE_ctl h32] at hs; cases hs
        by_cases h92 : bt s ((p + j : Nat) : Int) = 92
        · rw [strE_esc h92] at hs
          cases he : escE s (p + j + 1) with
          | none => rw [he] at hs; cases hs
          | some m =>
            rw [he] at hs
            have hs : strE s m = some (p + j + 1) := hs
            have h1 := strE_le hs
            have h2 := escE_le he
            omega
        · rw [strE_plain hlt h34 h32 h92] at hs
          have h1 := strE_le hs
          omega
    rcases Nat.lt_or_ge j k with hj | hj
    rotate_left
    · have e : j = k := by omega
      have h34 := hfin e hs
      refine ⟨.fin (by omega), fun hp => ⟨pd_end (by omega), ?_⟩⟩
      rw [pd_plain (lt_of_bn (by omega)) (by omega)] at hp
      rw [e] at hp; exact hp
    have hlt : p + j < s.size := by omega
    cases n with
    | zero => omega
    | succ n =>
    by_cases h34 : bt s ((p + j : Nat) : Int) = 34
    · rw [strE_q h34] at hs
      have := Option.some.inj hs
      omega
    by_cases h32 : bt s ((p + j : Nat) : Int) < 32
    · rw [strE_ctl h32] at hs; cases hs
    by_cases h92 : bt s ((p + j : Nat) : Int) = 92
    · rw [strE_esc h92] at hs
      have b92 : bn s (p + j) = 92 := by rw [bt_bn] at h92; exact Int.ofNat.inj h92
      have x92 : bn (s.extract p (p + k)) j = 92 := by rw [ext_bn h hj]; exact b92
      cases he : escE s (p + j + 1) with
      | none => rw [he] at hs; cases hs
      | some m =>
        rw [he] at hs
        have hs : strE s m = some (p + k + 1) := hs
        have h1 := strE_le hs
        have h2 := escE_le he
        by_cases hX : isX (bt s ((p + j + 1 : Nat) : Int)) = true
        · rw [escE_x hX] at he
          have hm := Option.some.inj he
          have hu117 : bn s (p + j + 1) ≠ 117 := fun c => by
            rw [bt_bn, c] at hX; exact absurd hX (by decide)
          have us : uN s (p + j) = none := uN_no hu117
          have ux : uN (s.extract p (p + k)) j = none := uN_no (by rw [ext_bn h (by omega)]; exact hu117)
          obtain ⟨a1, a2⟩ := okU_of h n (j + 2) (by omega) (by omega) (by rw [show p + (j + 2) = m by omega]; exact hs)
          refine ⟨.short x92 (by omega) (by rw [ext_bt h (by omega)]; exact hX) ux a1, fun hp => ?_⟩
          rw [pd_short b92 us] at hp
          rw [pd_short x92 ux]
          exact a2 hp
        · have hX : isX (bt s ((p + j + 1 : Nat) : Int)) = false := by simpa using hX
          obtain ⟨u, us, hm⟩ := esc_u he h92 hX
          have ux : uN (s.extract p (p + k)) j = some u := by rw [ext_uN h (by omega)]; exact us
          obtain ⟨a1, a2⟩ := okU_of h n (j + 6) (by omega) (by omega) (by rw [show p + (j + 6) = m by omega]; exact hs)
          cases hp : pairU s (p + j) u with
          | none =>
            have px : pairU (s.extract p (p + k)) j u = none := by
              cases hq : pairU (s.extract p (p + k)) j u with
              | none => rfl
              | some c =>
                exfalso
                have hq' := pairU_le hq
                have : pairU s (p + j) u = pairU (s.extract p (p + k)) j u := by
                  unfold pairU
                  rw [ext_uN h (by omega), show p + (j + 6) = p + j + 6 by omega]
                rw [this, hq] at hp; cases hp
            refine ⟨.uni ux px a1, fun hpd => ?_⟩
            rw [pd_uni us hp] at hpd
            rw [pd_uni ux px]
            cases hsu : sur u with
            | true => rw [hsu, if_pos rfl] at hpd; cases hpd
            | false =>
              rw [hsu] at hpd
              exact a2 hpd
          | some c =>
            have hc : ∃ m', uN s (p + j + 6) = some m' := by
              unfold pairU at hp
              split at hp
              · exact ⟨_, by assumption⟩
              · cases hp
            obtain ⟨m', um⟩ := hc
            have hb' := uN_esc um
            have hm6 : m = p + j + 6 := hm
            have hj6 : j + 6 < k := by
              rcases Nat.lt_or_ge (j + 6) k with g | g
              · exact g
              · exfalso
                have := hfin (j := j + 6) (by omega) (by rw [show p + (j + 6) = m by omega]; exact hs)
                rw [show p + (j + 6) = p + j + 6 by omega] at this
                omega
            have h92' : bt s ((p + j + 6 : Nat) : Int) = 92 := by rw [bt_bn, hb'.1]; rfl
            rw [hm6, strE_esc h92'] at hs
            cases he' : escE s (p + j + 6 + 1) with
            | none => rw [he'] at hs; cases hs
            | some m2 =>
              rw [he'] at hs
              have hs : strE s m2 = some (p + k + 1) := hs
              have hX' : isX (bt s ((p + j + 6 + 1 : Nat) : Int)) = false := by
                rw [bt_bn, hb'.2]; decide
              obtain ⟨_, _, hm2⟩ := esc_u he' h92' hX'
              have h1' := strE_le hs
              obtain ⟨c1, c2⟩ := okU_of h n (j + 12) (by omega) (by omega) (by rw [show p + (j + 12) = m2 by omega]; exact hs)
              have px : pairU (s.extract p (p + k)) j u = some c := by
                have : pairU s (p + j) u = pairU (s.extract p (p + k)) j u := by
                  unfold pairU
                  rw [ext_uN h (by omega), show p + (j + 6) = p + j + 6 by omega]
                rw [← this]; exact hp
              refine ⟨.pair ux px c1, fun hpd => ?_⟩
              rw [pd_pair us hp] at hpd
              rw [pd_pair ux px]
              exact c2 hpd
    · have b92 : bn s (p + j) ≠ 92 := fun g => h92 (by rw [bt_bn, g]; rfl)
      rw [strE_plain hlt h34 h32 h92] at hs
      obtain ⟨a1, a2⟩ := okU_of h n (j + 1) (by omega) (by omega) hs
      refine ⟨.plain (by omega) (by rw [ext_bn h hj]; exact b92) a1, fun hp => ?_⟩
      rw [pd_plain hlt b92] at hp
      rw [pd_plain (by omega) (by rw [ext_bn h hj]; exact b92)]
      exact a2 hp
/-- What the inside stands for. -/
theorem OkU.uo {j : Nat} (h : OkU x j) : ∃ r, Uq.uo x j = some r := by
  induction h with
  | fin h => exact ⟨[], uo_end h⟩
  | plain h1 h2 _ ih => obtain ⟨r, hr⟩ := ih; exact ⟨_, by rw [uo_plain h1 h2, hr]; rfl⟩
  | short h1 h2 _ h4 _ ih => obtain ⟨r, hr⟩ := ih; exact ⟨_, by rw [uo_short h1 h4 h2, hr]; rfl⟩
  | uni h1 h2 _ ih => obtain ⟨r, hr⟩ := ih; exact ⟨_, by rw [uo_one h1 h2, hr]; rfl⟩
  | pair h1 h2 _ ih => obtain ⟨r, hr⟩ := ih; exact ⟨_, by rw [uo_pair h1 h2, hr]; rfl⟩
/-- A name's or a string's characters. -/
theorem nm_uo {i k : Nat} (h : strE s (i + 1) = some (i + 1 + k + 1)) : ∃ r, Uq.uo (s.extract (i + 1) (i + 1 + k)) 0 = some r ∧ nmS s (i, i + 1 + k + 1) = ⟨r.toArray⟩ := by
  have hl := strE_le h
  obtain ⟨r, hr⟩ := (okU_of (s := s) (p := i + 1) (k := k) (by omega) _ 0 (Nat.le_refl _) (Nat.zero_le _) h).1.uo
  refine ⟨r, hr, ?_⟩
  show ByteArray.mk ((Uq.uo (s.extract (i + 1) (i + 1 + k + 1 - 1)) 0).getD []).toArray = _
  rw [Nat.add_sub_cancel, hr]; rfl
/-- Pairs from a value's place on to its end, and in its strings. -/
theorem pd_str {i e : Nat} (hb : bt s (i : Int) = 34) (h : strE s (i + 1) = some e) (hp : pd s i = true) : pd s (i + 1) = true ∧ pd s e = true ∧ pd (s.extract (i + 1) (e - 1)) 0 = true := by
  obtain ⟨k, rfl, _⟩ := strE_QE h
  have hl := strE_le h
  have b92 : bn s i ≠ 92 := fun g => by rw [bt_bn, g] at hb; exact absurd hb (by decide)
  rw [pd_plain (by omega) b92] at hp
  obtain ⟨a1, a2⟩ := (okU_of (s := s) (p := i + 1) (k := k) (by omega) _ 0 (Nat.le_refl _) (Nat.zero_le _) h).2 hp
  exact ⟨hp, a2, by rw [Nat.add_sub_cancel]; exact a1⟩
theorem pd_bl {j : Nat} (hj : j ≤ s.size) : pd s j = pd s (bl s j) :=
  pd_gap rfl (bl_ge s j) (bl_le s j hj) fun i g1 g2 c => by
    have := isB_iff.1 (bl_blank s j i g1 g2)
    rw [bt_bn, c] at this
    omega
theorem pd_one {j : Nat} {c : Int} (h : bt s (j : Int) = c) (h0 : c ≠ 0) (hc : c ≠ 92) : pd s j = pd s (j + 1) := by
  have hlt : j < s.size := lt_of_bt (by omega)
  exact pd_plain hlt fun g => hc (by rw [← h, bt_bn, g]; rfl)
mutual
/-- All strings of a value have their surrogates in pairs. -/
def PdV (s : ByteArray) : PT → Prop
  | .mk k b e ns ks => (k = 4 → pd (s.extract (b + 1) (e - 1)) 0 = true) ∧ (∀ n ∈ ns, pd (s.extract (n.1 + 1) (n.2 - 1)) 0 = true) ∧ PdL s ks
def PdL (s : ByteArray) : List PT → Prop
  | [] => True
  | p :: ks => PdV s p ∧ PdL s ks
end
mutual
theorem pd_val : ∀ (p : PT), WfV s p → pd s p.b = true → PdV s p ∧ pd s p.e = true
  | .mk k b e ns ks, h, hp => by
    unfold WfV at h
    unfold PdV
    have hp : pd s b = true := hp
    show _ ∧ pd s e = true
    obtain ⟨hlt, hle, ⟨rfl, rfl, hL, h⟩ | ⟨rfl, rfl, rfl, h1, h2⟩ | ⟨rfl, rfl, h1, h2⟩ | ⟨rfl, h1, h2⟩⟩ := h
    · refine ⟨⟨fun hk => ?_, fun n hn => (by cases hn), by unfold PdL; trivial⟩, ?_⟩
      · exfalso
        rcases h with ⟨g, _⟩ | ⟨g, _⟩ | ⟨g, _⟩ | ⟨g, _⟩ <;> omega
      · rw [← pd_gap (s := s) rfl (Nat.le_of_lt hlt) hle fun j g1 g2 c => by
          have := isL_iff.1 (hL j g1 g2)
          rw [bt_bn, c] at this
          omega]
        exact hp
    · obtain ⟨_, a2, a3⟩ := pd_str h1 h2 hp
      exact ⟨⟨fun _ => a3, fun n hn => (by cases hn), by unfold PdL; trivial⟩, a2⟩
    · have hp : pd s b = true := hp
      rw [pd_one h1 (by decide) (by decide)] at hp
      obtain ⟨a1, a2⟩ := pd_E true ks (b + 1) e h2 (by omega) hp
      exact ⟨⟨fun hk => (by cases hk), fun n hn => (by cases hn), a1⟩, a2⟩
    · have hp : pd s b = true := hp
      rw [pd_one h1 (by decide) (by decide)] at hp
      obtain ⟨a1, a2, a3⟩ := pd_M true ks (b + 1) e ns h2 (by omega) hp
      exact ⟨⟨fun hk => (by cases hk), a2, a1⟩, a3⟩
theorem pd_E : ∀ (first : Bool) (ks : List PT) (j e : Nat), WfE s first j ks e → j ≤ s.size → pd s j = true → PdL s ks ∧ pd s e = true
  | first, [], j, e, h, hj, hp => by
    unfold WfE at h
    obtain ⟨h1, rfl⟩ := h
    refine ⟨by unfold PdL; trivial, ?_⟩
    rw [pd_bl hj, pd_one h1 (by decide) (by decide)] at hp
    exact hp
  | first, p :: ks, j, e, h, hj, hp => by
    unfold WfE at h
    obtain ⟨h1, h2, h3⟩ := h
    rw [pd_bl hj] at hp
    have hpb : pd s p.b = true := by
      cases first with
      | true =>
        simp only [if_true] at h1
        rw [h1]; exact hp
      | false =>
        simp only [Bool.false_eq_true, if_false] at h1
        have hlt : bl s j < s.size := lt_of_bt (by rw [h1.1]; decide)
        rw [pd_one h1.1 (by decide) (by decide), pd_bl (by omega)] at hp
        rw [h1.2]; exact hp
    obtain ⟨a1, a2⟩ := pd_val p h2 hpb
    obtain ⟨b1, b2⟩ := pd_E false ks p.e e h3 h2.lt.2 a2
    exact ⟨by unfold PdL; exact ⟨a1, b1⟩, b2⟩
theorem pd_M : ∀ (first : Bool) (ks : List PT) (j e : Nat) (ns : List (Nat × Nat)), WfM s first j ns ks e → j ≤ s.size → pd s j = true → PdL s ks ∧ (∀ n ∈ ns, pd (s.extract (n.1 + 1) (n.2 - 1)) 0 = true) ∧ pd s e = true
  | first, [], j, e, ns, h, hj, hp => by
    unfold WfM at h
    obtain ⟨rfl, h1, rfl⟩ := h
    refine ⟨by unfold PdL; trivial, fun n hn => (by cases hn), ?_⟩
    rw [pd_bl hj, pd_one h1 (by decide) (by decide)] at hp
    exact hp
  | first, p :: ks, j, e, ns, h, hj, hp => by
    unfold WfM at h
    obtain ⟨n, ns', rfl, h1, hq, hs, hc, hb, h2, h3⟩ := h
    rw [pd_bl hj] at hp
    have hpn : pd s n.1 = true := by
      cases first with
      | true =>
        simp only [if_true] at h1
        rw [h1]; exact hp
      | false =>
        simp only [Bool.false_eq_true, if_false] at h1
        have hlt : bl s j < s.size := lt_of_bt (by rw [h1.1]; decide)
        rw [pd_one h1.1 (by decide) (by decide), pd_bl (by omega)] at hp
        rw [h1.2]; exact hp
    obtain ⟨_, a2, a3⟩ := pd_str hq hs hpn
    have hne := strE_le hs
    have hlt : bl s n.2 < s.size := lt_of_bt (by rw [hc]; decide)
    rw [pd_bl hne.2, pd_one hc (by decide) (by decide), pd_bl (by omega), ← hb] at a2
    obtain ⟨c1, c2⟩ := pd_val p h2 a2
    obtain ⟨b1, b2, b3⟩ := pd_M false ks p.e e ns' h3 h2.lt.2 c2
    refine ⟨by unfold PdL; exact ⟨c1, b1⟩, fun m hm => ?_, b3⟩
    rcases List.mem_cons.1 hm with rfl | hm
    · exact a3
    · exact b2 m hm
end
end Go.Proofs.YtkpnomdmnhhaoaaGreatDoor.Zu
namespace Go.Proofs.YtkpnomdmnhhaoaaGreatDoor.Lj
open Go Go.Proofs Go.RowKit Go.Proofs.YtkpnomdmnhhaoaaGreatDoor.Rx Go.Proofs.YtkpnomdmnhhaoaaGreatDoor.Tr Go.Proofs.YtkpnomdmnhhaoaaGreatDoor.Pl Go.Proofs.YtkpnomdmnhhaoaaGreatDoor.Pw
open Go.Proofs.YtkpnomdmnhhaoaaGreatDoor.Sr (slV tBs tB Sl tP pc PlAt AllAt RowIn spanC loadP storeP zp places)
open Go.Proofs.YtkpnomdmnhhaoaaGreatDoor.Ka (nmS ext_size)
theorem all_get {B : Nat → Prop} {w : World} : ∀ (ks : List PT) (xs : List Value) (i : Nat) (p : PT), AllAt B w ks xs → ks[i]? = some p →
    ∃ na ka : Sl, PlAt B w p (pc p.k p.b p.e na ka) ∧ ∀ j, j < 5 → xs[i * 5 + j]? = (pc p.k p.b p.e na ka)[j]?
  | [], xs, i, p, _, hi => by simp at hi
  | q :: ks, xs, i, p, h, hi => by
    unfold AllAt at h
    obtain ⟨cs, ys, rfl, hp, hr⟩ := h
    have hq := hp
    obtain ⟨k, b, e, ns, kk⟩ := q
    unfold PlAt at hp
    obtain ⟨na, ka, zs, rfl, _⟩ := hp
    cases i with
    | zero =>
      simp only [List.getElem?_cons_zero, Option.some.injEq] at hi
      subst hi
      refine ⟨na, ka, hq, fun j hj => ?_⟩
      rw [Nat.zero_mul, Nat.zero_add, List.getElem?_append_left (by rw [Sr.pc_len]; exact hj)]; rfl
    | succ i =>
      simp only [List.getElem?_cons_succ] at hi
      obtain ⟨na', ka', h1, h2⟩ := all_get ks ys i p hr hi
      refine ⟨na', ka', h1, fun j hj => ?_⟩
      rw [← h2 j hj, List.getElem?_append_right (by rw [Sr.pc_len]; omega), Sr.pc_len]
      congr 1; omega
theorem place_run {w : World} {bk o : Nat} {k b e : Int} {na ka : Sl} (h : ∀ j, j < 5 → w.cell? ⟨bk, o + j, none⟩ = (pc k b e na ka)[j]?) :
    (Instr.loadAt tP (.pointer (some ⟨bk, o, none⟩))).run Tryz.prog w = .ok (.agg (pc k b e na ka).toArray) w := by
  have hi := info_some (P := Tryz.prog) (t := tP) (by kernel_rfl)
  have hs : ((Tryz.prog.info? tP).get (by kernel_rfl)).size = 5 := by kernel_rfl
  have ha : aggT Tryz.prog tP = some true := by kernel_rfl
  have h0 : w.cell? ⟨bk, o, none⟩ = some (.int .i64 k) := h 0 (by decide)
  have h1 : w.cell? ⟨bk, o + 1, none⟩ = some (.int .i64 b) := h 1 (by decide)
  have h2 : w.cell? ⟨bk, o + 2, none⟩ = some (.int .i64 e) := h 2 (by decide)
  have h3 : w.cell? ⟨bk, o + 3, none⟩ = some (slV na) := h 3 (by decide)
  have h4 : w.cell? ⟨bk, o + 4, none⟩ = some (slV ka) := h 4 (by decide)
  simp only [Instr.loadAt, Instr.sureAddr, loadVar, Sem.run_bind, Sem.run_pure, Result.andThen_ok, run_agg ha, if_true, run_size hi, loadCells, hs]
  simp [loadCellsFrom, h0, h1, h2, h3, h4, pc, slV]
theorem span_get : ∀ (ns : List (Nat × Nat)) (i : Nat) (n : Nat × Nat), ns[i]? = some n → (ns.flatMap spanC)[i * 2]? = some (.int .i64 n.1) ∧ (ns.flatMap spanC)[i * 2 + 1]? = some (.int .i64 n.2)
  | [], i, n, h => by simp at h
  | m :: ns, i, n, h => by
    rw [List.flatMap_cons]
    have hl : (spanC m).length = 2 := rfl
    cases i with
    | zero =>
      simp only [List.getElem?_cons_zero, Option.some.injEq] at h
      subst h
      exact ⟨rfl, rfl⟩
    | succ i =>
      simp only [List.getElem?_cons_succ] at h
      obtain ⟨a, b⟩ := span_get ns i n h
      refine ⟨?_, ?_⟩
      · rw [List.getElem?_append_right (by rw [hl]; omega), hl, show (i + 1) * 2 - 2 = i * 2 by omega]; exact a
      · rw [List.getElem?_append_right (by rw [hl]; omega), hl, show (i + 1) * 2 + 1 - 2 = i * 2 + 1 by omega]; exact b
def Any : Nat → Prop := fun _ => True
theorem PlAt.any {B : Nat → Prop} {w w' : World} {p : PT} {cs : List Value} (h : PlAt B w p cs) (k : Kp Off w w') : PlAt Any w' p cs := Sr.PlAt.kp k (fun _ _ _ => ⟨trivial, id⟩) h
theorem RowIn.any {B : Nat → Prop} {w w' : World} {a : Sl} {n : Nat} {xs : List Value} {size : Nat} (h : RowIn B w a n xs size) (k : Kp Off w w') : RowIn Any w' a n xs size := Sr.RowIn.kp k (fun _ _ _ => ⟨trivial, id⟩) h
theorem PlAt.inv {B : Nat → Prop} {w : World} {p : PT} {na ka : Sl} (h : PlAt B w p (pc p.k p.b p.e na ka)) : RowIn B w na p.ns.length (p.ns.flatMap spanC) 2 ∧ ∃ xs, RowIn B w ka p.ks.length xs 5 ∧ AllAt B w p.ks xs := by
  obtain ⟨k, b, e, ns, ks⟩ := p
  unfold PlAt at h
  obtain ⟨na', ka', xs, h1, h2, h3, h4⟩ := h
  have h1 : pc (k : Int) b e na ka = pc k b e na' ka' := h1
  unfold pc at h1
  simp only [List.cons.injEq, Value.slice.injEq, true_and, and_true] at h1
  obtain ⟨⟨a1, a2, a3⟩, b1, b2, b3⟩ := h1
  have ea : na = na' := by obtain ⟨x, y, z⟩ := na; obtain ⟨x', y', z'⟩ := na'; cases a1; cases a2; cases a3; rfl
  have eb : ka = ka' := by obtain ⟨x, y, z⟩ := ka; obtain ⟨x', y', z'⟩ := ka'; cases b1; cases b2; cases b3; rfl
  subst ea; subst eb
  exact ⟨h2, xs, h3, h4⟩
theorem names_ok {s : ByteArray} : ∀ (ks : List PT) (ns : List (Nat × Nat)) (first : Bool) (j e : Nat), WfM s first j ns ks e → ns.length = ks.length ∧ ∀ n ∈ ns, strE s (n.1 + 1) = some n.2
  | [], ns, first, j, e, h => by
    unfold WfM at h
    obtain ⟨rfl, _⟩ := h
    exact ⟨rfl, fun n hn => by cases hn⟩
  | p :: ks, ns, first, j, e, h => by
    unfold WfM at h
    obtain ⟨n, ns', rfl, _, _, h1, _, _, _, h2⟩ := h
    obtain ⟨a, b⟩ := names_ok ks ns' false p.e e h2
    refine ⟨by rw [List.length_cons, List.length_cons, a], fun m hm => ?_⟩
    rcases List.mem_cons.1 hm with rfl | hm
    · exact h1
    · exact b m hm
theorem wf_names {s : ByteArray} {p : PT} (h : WfV s p) : ∀ n ∈ p.ns, strE s (n.1 + 1) = some n.2 := by
  obtain ⟨k, b, e, ns, ks⟩ := p
  unfold WfV at h
  intro n hn
  have hn : n ∈ ns := hn
  obtain ⟨_, _, ⟨h, _⟩ | ⟨_, h, _⟩ | ⟨_, h, _⟩ | ⟨_, _, h⟩⟩ := h
  · rw [h] at hn; cases hn
  · rw [h] at hn; cases hn
  · rw [h] at hn; cases hn
  · exact (names_ok _ _ _ _ _ h).2 n hn
theorem wfM_len {s : ByteArray} : ∀ (ks : List PT) (ns : List (Nat × Nat)) (first : Bool) (j e : Nat), WfM s first j ns ks e → ks.length + j < e
  | [], ns, first, j, e, h => by unfold WfM at h; have := bl_ge s j; simp; omega
  | p :: ks, ns, first, j, e, h => by
    unfold WfM at h
    obtain ⟨n, ns', _, h0, _, hs, _, hb, hv, hM⟩ := h
    have a0 := wfM_len ks ns' false p.e e hM
    have a1 := hv.lt
    have a2 := strE_le hs
    have a3 := bl_ge s n.2
    have a4 := bl_ge s (bl s n.2 + 1)
    have g := bl_ge s j
    have g2 := bl_ge s (bl s j + 1)
    have : j ≤ n.1 := by split at h0 <;> omega
    rw [List.length_cons]; omega
theorem wf_len {s : ByteArray} {p : PT} (h : WfV s p) : p.ks.length ≤ s.size ∧ p.ns.length ≤ s.size := by
  obtain ⟨k, b, e, ns, ks⟩ := p
  unfold WfV at h
  show ks.length ≤ s.size ∧ ns.length ≤ s.size
  obtain ⟨_, he, ⟨h1, h2, _⟩ | ⟨_, h1, h2, _⟩ | ⟨_, h1, _, h2⟩ | ⟨_, _, h⟩⟩ := h
  · subst h1; subst h2; exact ⟨Nat.zero_le _, Nat.zero_le _⟩
  · subst h1; subst h2; exact ⟨Nat.zero_le _, Nat.zero_le _⟩
  · subst h1
    have := Ka.wfE_len _ _ _ _ h2
    exact ⟨by omega, Nat.zero_le _⟩
  · have := wfM_len _ _ _ _ _ h
    have h2 := (names_ok _ _ _ _ _ h).1
    omega
theorem places_of {s : ByteArray} {p : PT} (h : places s = some p) : bl s 0 = p.b ∧ WfV s p ∧ bl s p.e = s.size := by
  have hfin : val s (bl s 0) = some p ∧ bl s p.e = s.size := by
    unfold places at h
    cases hv : val s (bl s 0) with
    | none => rw [hv] at h; cases h
    | some p' =>
      rw [hv] at h
      have hpl : (if bl s p'.e = s.size then some p' else none) = some p := h
      split at hpl
      · rename_i g; cases hpl; exact ⟨rfl, g⟩
      · cases hpl
  obtain ⟨hpb, hwf⟩ := val_wf (bl_le s 0 (Nat.zero_le _)) hfin.1
  exact ⟨hpb.symm, hwf, hfin.2⟩
/-- A name's characters. -/
theorem name_any {s : ByteArray} {n : Nat × Nat} {w : World} (hs : s.size ≤ 4000000) (h : strE s (n.1 + 1) = some n.2) : Calls Tryz.prog 43 #[.string (s.extract n.1 n.2)] w fun e w' => e = .returned (.string (nmS s n)) ∧ Kp Off w w' := by
  obtain ⟨i, e⟩ := n
  obtain ⟨k, hk, _⟩ := Sk.strE_QE h
  have hk : e = i + 1 + k + 1 := hk
  subst hk
  have hl := strE_le h
  obtain ⟨r, r2, r3⟩ := Zu.nm_uo h
  have hz : (s.extract i (i + 1 + k + 1)).size = k + 2 := by rw [ByteArray.size_extract]; omega
  have hinn : Uq.inn (s.extract i (i + 1 + k + 1)) = s.extract (i + 1) (i + 1 + k) := by
    unfold Uq.inn
    rw [hz, ByteArray.extract_extract]
    congr 1
    omega
  rw [r3]
  show Calls Tryz.prog 43 #[.string (s.extract i (i + 1 + k + 1))] w _
  exact Uq.unquote_any (by rw [hz]; omega) (by rw [hz]; omega) (by rw [hinn]; exact r2)
end Go.Proofs.YtkpnomdmnhhaoaaGreatDoor.Lj
