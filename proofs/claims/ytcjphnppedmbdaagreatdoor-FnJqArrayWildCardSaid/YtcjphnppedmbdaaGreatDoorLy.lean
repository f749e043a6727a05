/- jsonparser's ArrayEachWildcard and the thin package's JqArrayWild; the reference's Raw, the laws' jpKind. No statement of the set is proved here. -/
import Derived.Test.YtcjphnppedmbdaaGreatDoorLw
import Derived.Test.YtcjphnppedmbdaaGreatDoorMD
namespace Go.Proofs.YtcjphnppedmbdaaGreatDoor.Ka
open Go Go.Proofs Go.RowKit Go.Proofs.YtcjphnppedmbdaaGreatDoor.Rx Go.Proofs.YtcjphnppedmbdaaGreatDoor.Tr Go.Proofs.YtcjphnppedmbdaaGreatDoor.Pl Go.Proofs.YtcjphnppedmbdaaGreatDoor.Pw Go.Proofs.YtcjphnppedmbdaaGreatDoor.Sk

abbrev tAt : TypeId := 54
abbrev tAts : TypeId := 50
abbrev tCb : TypeId := 82
def atC (s : ByteArray) (k : Nat) (p : PT) : List Value := [.int .i64 (k : Int), .string (s.extract (rb p) (re p)), .int .i64 (jk p.k)]
/-- What is told of values in turn. -/
def told (s : ByteArray) : Nat → List PT → List Value
  | _, [] => []
  | k, p :: l => atC s k p ++ told s (k + 1) l
theorem told_snoc (s : ByteArray) (p : PT) : ∀ (l : List PT) (k : Nat), told s k (l ++ [p]) = told s k l ++ atC s (k + l.length) p
  | [], k => by simp [told]
  | c :: l, k => by
    show atC s k c ++ told s (k + 1) (l ++ [p]) = atC s k c ++ told s (k + 1) l ++ _
    rw [told_snoc s p l (k + 1), List.append_assoc, List.length_cons]
    congr 3; omega
theorem told_get (s : ByteArray) : ∀ (l : List PT) (k i : Nat) (p : PT), l[i]? = some p → ∀ j, j < 3 → (told s k l)[i * 3 + j]? = (atC s (k + i) p)[j]?
  | [], k, i, p, h, _, _ => by simp at h
  | c :: l, k, i, p, h, j, hj => by
    show (atC s k c ++ told s (k + 1) l)[i * 3 + j]? = _
    have hl : (atC s k c).length = 3 := rfl
    cases i with
    | zero =>
      simp only [List.getElem?_cons_zero, Option.some.injEq] at h
      subst h
      rw [Nat.zero_mul, Nat.zero_add, List.getElem?_append_left (by rw [hl]; exact hj)]; rfl
    | succ i =>
      simp only [List.getElem?_cons_succ] at h
      rw [List.getElem?_append_right (by rw [hl]; omega), hl, show (i + 1) * 3 + j - 3 = i * 3 + j by omega, told_get s l (k + 1) i p h j hj]
      rw [show k + 1 + i = k + (i + 1) by omega]
theorem own_ge {w : World} {base : Nat} {e : TypeId} {size : Nat} {v : Value} {n : Nat} {xs : List Value} (h : w.ownsRow base e size v n xs) : ∀ q, some q = v.ownBlock → base ≤ q := by
  obtain ⟨_, ⟨h2, _⟩ | ⟨g, cap, cur, rfl, hb, _⟩⟩ := h
  · intro q hq
    rw [h2] at hq
    simp [Value.ownBlock] at hq
  · intro q hq
    have : q = g := by simpa [Value.ownBlock] using hq
    omega
theorem push_at {w : World} {base : Nat} {x : Sl} {n : Nat} {xs : List Value} (hown : w.ownsRow base tAt 3 (slV x) n xs) (a : Int) (s : ByteArray) (k : Int) (hn : n + 1 ≤ 4294967296) (hbase : base ≤ w.heap.size) :
    ∃ w1, (Instr.buildSlice tAts 1 #[(0, .agg #[.int .i64 a, .string s, .int .i64 k])]).run Tryz.prog w = .ok (.slice (some ⟨w.heap.size, 0, none⟩) 1 1) w1 ∧
      ∃ (x' : Sl) (w2 : World), (Builtin.append_ #[tAts, tAts] tAts #[slV x, .slice (some ⟨w.heap.size, 0, none⟩) 1 1]).run Tryz.prog w1 = .ok (slV x') w2 ∧ w2.ownsRow base tAt 3 (slV x') (n + 1) (xs ++ [.int .i64 a, .string s, .int .i64 k]) ∧ x'.2.1 = n + 1 ∧
        Kp (fun q => some q = (slV x).ownBlock) w w2 := by
  obtain ⟨w1, h1, a', c, w2, h2, h3, h4, _⟩ := push_run (P := Tryz.prog) (t := tAts) (e := tAt) (z0 := .agg #[.int .i64 0, .string (ByteArray.mk #[]), .int .i64 0]) Tryz.underlying50 (info_some (by kernel_rfl)) (by kernel_rfl) (by kernel_rfl)
    (of_decide_eq_true (by kernel_rfl)) rfl (by decide) (by decide) hown (.agg #[.int .i64 a, .string s, .int .i64 k]) [.int .i64 a, .string s, .int .i64 k] rfl rfl (by intro u hu; simp at hu; rcases hu with rfl | rfl | rfl <;> rfl) hn hbase
  exact ⟨w1, h1, (a', n + 1, c), w2, h2, h3, rfl, h4⟩
abbrev cbV (N : Nat) : Value := .func (.func 48) #[] #[.pointer (some ⟨N, 0, none⟩)]
/-- As Tx.kpS; where nothing is held nothing is asked. -/
theorem Tx.kpP {w w' : World} {x : Sl} {s : ByteArray} {i e : Nat} {S : Nat → Prop} (h : Tx w x s i e) (k : Kp S w w') (hS : i < e → ∀ q, TB x q → ¬ S q) : Tx w' x s i e := by
  obtain ⟨b, o, h1, h2, h3⟩ := h.cell
  refine ⟨h.len, h.ie, h.es, h.cap, b, o, h1, Nat.lt_of_lt_of_le h2 k.size, fun j hj => ?_⟩
  rw [k.cell (a := ⟨b, o + j, none⟩) h2 (hS (by omega) b ⟨o, h1⟩)]; exact h3 j hj
/-- What the call backs keep: k elements told. -/
structure Tew (s : ByteArray) (ks : List PT) (N k : Nat) (w : World) : Prop where
  row : ∃ u : Sl, Blk w N [slV u] tAts ∧ w.ownsRow (N + 4) tAt 3 (slV u) k (told s 0 (ks.take k)) ∧ u.2.1 = k
  cb : Blk w (N + 2) [cbV N] tCb
  ix : Blk w (N + 3) [.int .i64 (k : Int)] tI
  size : N + 4 ≤ w.heap.size
variable {s : ByteArray} {ks : List PT} {N k : Nat} {w w' : World}
theorem Tew.kp (h : Tew s ks N k w) (kk : Kp Off w w') : Tew s ks N k w' := by
  obtain ⟨u, h1, h2, h3⟩ := h.row
  exact ⟨⟨u, kk.blk h1 id, owns_kp h2 kk (fun _ _ => id), h3⟩, kk.blk h.cb id, kk.blk h.ix id, Nat.le_trans h.size kk.size⟩
/-- The blocks that the call backs write. -/
def SW (N : Nat) (q : Nat) : Prop := q = N ∨ q = N + 3 ∨ N + 4 ≤ q
theorem tellw_any {p : PT} {y : Sl} {at_ : Int} (h : Tew s ks N k w) (hk : k ≤ 100000) (hp : ks[k]? = some p) (hT : Tx w y s (rb p) (re p)) :
    Calls Tryz.prog 66 (#[] ++ #[slV y, .int .i64 (jk p.k), .int .i64 at_, .nilIface] ++ #[.pointer (some ⟨N + 3, 0, none⟩), .pointer (some ⟨N + 2, 0, none⟩)]) w fun en w'' => en = .returned .nilIface ∧ Tew s ks N (k + 1) w'' ∧ Kp (SW N) w w'' := by
  obtain ⟨u, hb, ho, hu⟩ := h.row
  have hsz := h.size
  have htk : told s 0 (ks.take (k + 1)) = told s 0 (ks.take k) ++ atC s k p := by
    have hkl := (List.getElem?_eq_some_iff.1 hp).1
    have : ks.take (k + 1) = ks.take k ++ [p] := by rw [List.take_add_one, hp]; rfl
    rw [this, told_snoc, Nat.zero_add, List.length_take]
    congr 2
    omega
  refine jsonparser_ArrayEachWildcard_1.calls _ _ _ _ _ _ _ _ ?_
  unfold jsonparser_ArrayEachWildcard_1.t
  have w1' : IntKind.wrap IntKind.i64 ((k : Int) + 1) = ((k + 1 : Nat) : Int) := wup k (by omega)
  refine s_ptr (s_load (k : Int) (h.ix.cell 0) (s_ptr (s_load (k : Int) (h.ix.cell 0) (s_ptr (s_store (h.ix.cell 0) (h.ix.free 0) ?_)))))
  rw [w1']
  have kz : Kp (On (N + 3)) w (w.setCell ⟨N + 3, 0, none⟩ (.int .i64 ((k + 1 : Nat) : Int))) := (Kp.refl _ w).on 0 _
  have ix1 : Blk (w.setCell ⟨N + 3, 0, none⟩ (.int .i64 ((k + 1 : Nat) : Int))) (N + 3) [.int .i64 ((k + 1 : Nat) : Int)] tI := h.ix.set 0 _
  have n3 : ∀ {b : Nat}, b ≠ N + 3 → ¬ On (N + 3) b := fun hne e => hne (show _ = N + 3 from e)
  have cb1 := kz.blk h.cb (n3 (by omega))
  have hb1 := kz.blk hb (n3 (by omega))
  have ho1 := owns_kp ho kz fun q hq e => by
    have := own_ge ho q hq
    have : q = N + 3 := e
    omega
  have hT1 : Tx (w.setCell ⟨N + 3, 0, none⟩ (.int .i64 ((k + 1 : Nat) : Int))) y s (rb p) (re p) := hT.kpP kz fun hlt q hq e => by
    have e : q = N + 3 := e
    subst e
    exact hT.tbS hlt h.ix (fun c => by simp) hq
  have hs1 : N + 4 ≤ (w.setCell ⟨N + 3, 0, none⟩ (.int .i64 ((k + 1 : Nat) : Int))).heap.size := Nat.le_trans hsz kz.size
  show sat _ _ _ (w.setCell ⟨N + 3, 0, none⟩ (.int .i64 ((k + 1 : Nat) : Int)))
  generalize w.setCell ⟨N + 3, 0, none⟩ (.int .i64 ((k + 1 : Nat) : Int)) = w1 at kz ix1 cb1 hb1 ho1 hT1 hs1
  refine s_ptr (s_load (cbV N) (cb1.cell 0) ⟨48, #[], #[.pointer (some ⟨N, 0, none⟩)], rfl, by kernel_rfl, ?_⟩)
  have inner : Calls Tryz.prog 48 (#[] ++ #[.int .i64 (k : Int), slV y, .int .i64 (jk p.k), .int .i64 at_, .nilIface] ++ #[.pointer (some ⟨N, 0, none⟩)]) w1 fun en w'' => en = .returned .nilIface ∧ (∃ u : Sl, Blk w'' N [slV u] tAts ∧ w''.ownsRow (N + 4) tAt 3 (slV u) (k + 1) (told s 0 (ks.take (k + 1))) ∧ u.2.1 = k + 1) ∧ Kp (fun q => q = N ∨ N + 4 ≤ q) w1 w'' := by
    refine impl_JqArrayWild_1.calls _ _ _ _ _ _ _ _ ?_
    unfold impl_JqArrayWild_1.t
    refine s_ptr (s_load u (hb1.cell 0) ?_)
    refine s_eff (w' := w1) (s.extract (rb p) (re p)) hT1.toStr ?_
    obtain ⟨w2, g1, u', w3, g2, g3, g4, k3⟩ := push_at ho1 (k : Int) (s.extract (rb p) (re p)) (jk p.k) (by omega) hs1
    refine s_eff (some ⟨w1.heap.size, 0, none⟩, 1, 1) g1 (s_eff u' g2 ?_)
    have hge := own_ge ho1
    have hb3 : Blk w3 N [slV u] tAts := k3.blk hb1 fun g => by have := hge N g; omega
    have hge3 := own_ge g3
    refine s_ptr (s_store (hb3.cell 0) (hb3.free 0) (s_leaf ⟨rfl, rfl, ?_⟩))
    have ky : Kp (On N) w3 (w3.setCell ⟨N, 0, none⟩ (slV u')) := (Kp.refl _ w3).on 0 _
    have ks' : Kp (fun q => q = N ∨ N + 4 ≤ q) w1 w3 := k3.mono fun q _ g => .inr (by have := hge q g; omega)
    refine ⟨⟨u', hb3.set 0 _, ?_, g4⟩, ks'.trans (ky.mono fun q _ g => .inl g)⟩
    rw [htk]
    refine owns_kp g3 ky fun q hq g => ?_
    have := hge3 q hq
    have : q = N := g
    omega
  refine Calls.mono inner ?_
  rintro en w2 ⟨rfl, hrow, k2⟩
  refine ⟨Value.nilIface, rfl, s_leaf ⟨rfl, rfl, ⟨hrow, k2.blk cb1 (by rintro (g | g) <;> omega), k2.blk ix1 (by rintro (g | g) <;> omega), Nat.le_trans hs1 k2.size⟩, ?_⟩⟩
  exact (kz.mono fun q _ g => .inr (.inl g)).trans (k2.mono fun q _ g => by rcases g with g | g; exact .inl g; exact .inr (.inr g))
/-- ArrayEachWildcard by keys that lead to an array, with or without a last key "[*]". -/
def star : ByteArray := ByteArray.mk #[(91 : UInt8), (42 : UInt8), (93 : UInt8)]
theorem wild_any {q : Sl} {keys keys' : List ByteArray} {x : Sl} {p0 p : PT} (hs : s.size ≤ 65536) (hC : Je.Cv w) (hL : Je.Lt w) (hE : Je.Ev w Je.gE) (hT : Tx w x s 0 s.size) (hKx : Kx w q keys') (h : Led s p0 keys p) (hp5 : p.k = 5)
    (hk : (keys' = keys ∧ ∀ key, keys.getLast? = some key → key ≠ star) ∨ keys' = keys ++ [star]) (hkl : keys'.length ≤ 100000000000000)
    (hN : w.heap.size = N + 2) (hgN : Je.gC < N) (hx : ∀ b, TB x b → b = N + 1) (hb : Blk w N [slV (none, 0, 0)] tAts) :
    Calls Tryz.prog 47 #[slV x, cbV N, slV q] w fun en w' => en = .returned (.tuple #[.int .i64 (p.ks.length : Int), .nilIface]) ∧ Tew s p.ks N p.ks.length w' ∧ Kp (SW N) w w' := by
  have hql := hKx.len
  have hqc := hKx.cap
  have hlen := Lj.wf_len h.wfp
  refine jsonparser_ArrayEachWildcard.calls _ _ _ _ _ _ _ ?_
  unfold jsonparser_ArrayEachWildcard.t
  refine s_alloc ?_
  have c0 := Blk.new w [cbV N] tCb
  have k0 : Kp Off w (w.alloc (.cells #[cbV N] tCb (0, 0))) := (Kp.refl Off w).alloc _
  have z0 : (w.alloc (.cells #[cbV N] tCb (0, 0))).heap.size = N + 3 := by simp [hN]
  show sat _ _ _ (w.alloc (.cells #[cbV N] tCb (0, 0)))
  generalize w.alloc (.cells #[cbV N] tCb (0, 0)) = w1 at k0 c0 z0
  rw [hN] at c0 ⊢
  -- the last step, where the keys' row is at hand
  have fin : ∀ {Q : Nat → List Value → World → Prop} {K : Int × (Value × PUnit) → T} (q' : Sl), Kx w q' keys → (∀ w', Tew s p.ks N p.ks.length w' → Kp (SW N) w w' → sat Tryz.prog (K ((p.ks.length : Int), Value.nilIface, ())) Q w') →
      sat Tryz.prog (.alloc (Obj.cells #[(Value.int IntKind.i64 (0 : Int))] tI (0, 0)) fun (z7 : Addr) =>
        .store z7 (Value.int IntKind.i64 (0 : Int)) <|
        .call 65 #[slV x, (Value.func (.func 66) #[] #[(Value.pointer (some z7)), (Value.pointer (some ⟨N + 2, 0, none⟩))]), slV q'] (.tuple (.cons (.int .i64) (.cons .any .nil))) fun z8 => K z8) Q w1 := by
    intro Q K q' hKq hK
    refine s_new (t := tI) (N + 3) z0 fun w2 k2 i2 z2 => ?_
    refine s_store (i2.cell 0) (i2.free 0) ?_
    have ks2 : Kp Off w1 (w2.setCell ⟨N + 3, 0, none⟩ (.int .i64 0)) := k2.setNew (a := ⟨N + 3, 0, none⟩) (by show w1.heap.size ≤ N + 3; omega) _
    have i3 : Blk (w2.setCell ⟨N + 3, 0, none⟩ (.int .i64 0)) (N + 3) [.int .i64 ((0 : Nat) : Int)] tI := i2.set 0 _
    have z3 : (w2.setCell ⟨N + 3, 0, none⟩ (.int .i64 0)).heap.size = N + 3 + 1 := by simpa [World.setCell] using z2
    show sat _ _ _ (w2.setCell ⟨N + 3, 0, none⟩ (.int .i64 0))
    generalize w2.setCell ⟨N + 3, 0, none⟩ (.int .i64 0) = w3 at ks2 i3 z3
    have K3 := k0.trans ks2
    have hI : Tew s p.ks N 0 w3 := ⟨⟨(none, 0, 0), K3.blk hb id, ⟨rfl, .inl ⟨rfl, rfl⟩⟩, rfl⟩, ks2.blk c0 id, i3, by omega⟩
    have hg : goB Tryz.prog 66 = true := by kernel_rfl
    have H := eachErr_any (S := SW N) (Inv := fun k w => Tew s p.ks N k w) (cf := 66) (first := #[]) (caps := #[.pointer (some ⟨N + 3, 0, none⟩), .pointer (some ⟨N + 2, 0, none⟩)]) hg hs (hC.off K3) (hL.off' K3) (hE.kp K3 id) (hT.kp K3) (hKq.kp K3) h hp5
      (fun g => by rcases g with g | g | g <;> omega) (fun b hb' g => by have := hx b hb'; rcases g with g | g | g <;> omega) (fun k w w' h k' => h.kp k')
      (fun k w' y c hc _ hI hT' _ => tellw_any hI (by have := (List.getElem?_eq_some_iff.1 hc).1; omega) hc hT') hI
    have H2 : Calls Tryz.prog 65 #[slV x, (Value.func (.func 66) #[] #[(Value.pointer (some ⟨N + 3, 0, none⟩)), (Value.pointer (some ⟨N + 2, 0, none⟩))]), slV q'] w3 fun en w' => en = .returned (.tuple #[.int .i64 (p.ks.length : Int), .nilIface]) ∧ Tew s p.ks N p.ks.length w' ∧ Kp (SW N) w3 w' := by
      refine jsonparser_ArrayEachErr.calls _ _ _ _ _ _ _ ?_
      unfold jsonparser_ArrayEachErr.t
      refine s_call H ?_
      rintro en w4 ⟨⟨n, rfl⟩, h4, k4⟩
      exact ⟨(n, (p.ks.length : Int), Value.nilIface, ()), rfl, s_leaf ⟨rfl, rfl, h4, k4⟩⟩
    refine s_call H2 ?_
    rintro en w4 ⟨rfl, h4, k4⟩
    exact ⟨((p.ks.length : Int), Value.nilIface, ()), rfl, hK w4 h4 ((K3.mono fun _ _ c => c.elim).trans k4)⟩
  have hKx1 := hKx.kp k0
  rcases hk with ⟨rfl, hlast⟩ | rfl
  · -- no star
    refine s_cut (fun z w' => z = (false, ()) ∧ w1 = w') (s_iteD (fun g => ?_) (fun g => s_leaf ?_)) ?_
    · have hpos : 0 < keys'.length := by omega
      have w1' : IntKind.wrap IntKind.i64 (((q.2.1 : Nat) : Int) - 1) = ((keys'.length - 1 : Nat) : Int) := by rw [wrap_in (by omega) (by omega)]; omega
      rw [w1']
      have hkey : keys'[keys'.length - 1]? = some keys'[keys'.length - 1] := List.getElem?_eq_getElem (by omega)
      refine s_key hKx1 hkey (s_leaf ?_)
      rw [if_pos rfl]
      refine ⟨(false, ()), ?_, rfl, rfl⟩
      have hne := hlast keys'[keys'.length - 1] (by rw [List.getLast?_eq_getElem?, hkey])
      have : strEq keys'[keys'.length - 1] star = false := by
        cases hq : strEq keys'[keys'.length - 1] star with
        | false => rfl
        | true => exact absurd (strEq_iff.1 hq) hne
      show [Value.bool (strEq keys'[keys'.length - 1] star)] = _
      rw [this]; rfl
    · rw [if_pos rfl]; exact ⟨(false, ()), rfl, rfl, rfl⟩
    rintro z w' ⟨rfl, rfl⟩
    show sat _ (jsonparser_ArrayEachWildcard.t1 x.1 x.2.1 x.2.2 q.1 q.2.1 q.2.2 ⟨N + 2, 0, none⟩ false) _ _
    unfold jsonparser_ArrayEachWildcard.t1
    exact sat_iteF.2 (fin q hKx fun w' h1 h2 => s_leaf ⟨rfl, rfl, h1, h2⟩)
  · rw [List.length_append, List.length_singleton] at hql hkl
    refine s_cut (fun z w' => z = (true, ()) ∧ w1 = w') (s_iteD (fun g => ?_) (fun g => absurd g (by omega))) ?_
    · have w1' : IntKind.wrap IntKind.i64 (((q.2.1 : Nat) : Int) - 1) = ((keys.length : Nat) : Int) := by rw [wrap_in (by omega) (by omega)]; omega
      rw [w1']
      have hkey : (keys ++ [star])[keys.length]? = some star := by rw [List.getElem?_append_right (Nat.le_refl _), Nat.sub_self]; rfl
      refine s_key hKx1 hkey (s_leaf ?_)
      rw [if_pos rfl]
      refine ⟨(true, ()), ?_, rfl, rfl⟩
      show [Value.bool (strEq star star)] = _
      rw [strEq_iff.2 rfl]; rfl
    rintro z w' ⟨rfl, rfl⟩
    show sat _ (jsonparser_ArrayEachWildcard.t1 x.1 x.2.1 x.2.2 q.1 q.2.1 q.2.2 ⟨N + 2, 0, none⟩ true) _ _
    unfold jsonparser_ArrayEachWildcard.t1
    have w1' : IntKind.wrap IntKind.i64 (((q.2.1 : Nat) : Int) - 1) = ((keys.length : Nat) : Int) := by rw [wrap_in (by omega) (by omega)]; omega
    rw [w1']
    refine sat_iteT.2 (s_chk ⟨by omega, by omega, by omega⟩ ?_)
    rw [Int.toNat_natCast]
    have hKq : Kx w ((if q.2.2 = 0 then q.1 else q.1.map fun y => y.add 0), keys.length - 0, q.2.2 - 0) keys := by
      refine ⟨by show keys.length - 0 = keys.length; omega, by show keys.length - 0 ≤ q.2.2 - 0; omega, ?_⟩
      rcases hKx.cell with h0 | ⟨b, o, c1, c2, c3⟩
      · exact absurd h0 (by simp)
      · right
        refine ⟨b, o, ?_, c2, fun j key hj => c3 j key ?_⟩
        · show (if q.2.2 = 0 then q.1 else q.1.map fun y => y.add 0) = _
          rw [if_neg (by omega), c1, Option.map_some, addr_add]; rfl
        · rw [List.getElem?_append_left (List.getElem?_eq_some_iff.1 hj).1]; exact hj
    have hf := fin (Q := fun l vs w' => l = 0 ∧ Ending.returned (retVal vs) = .returned (.tuple #[.int .i64 (p.ks.length : Int), .nilIface]) ∧ Tew s p.ks N p.ks.length w' ∧ Kp (SW N) w w') (K := fun z6 => .leaf 0 [(Value.int IntKind.i64 (z6).1), ((z6).2).1]) ((if q.2.2 = 0 then q.1 else q.1.map fun y => y.add 0), keys.length - 0, q.2.2 - 0) hKq fun w' h1 h2 => s_leaf ⟨rfl, rfl, h1, h2⟩
    exact hf
/-- The thin package's. -/
theorem jqWild_any {q : Sl} {keys keys' : List ByteArray} {p0 p : PT} (hs : s.size ≤ 65536) (hC : Je.Cv w) (hL : Je.Lt w) (hE : Je.Ev w Je.gE) (hKx : Kx w q keys') (h : Led s p0 keys p) (hp5 : p.k = 5)
    (hk : (keys' = keys ∧ ∀ key, keys.getLast? = some key → key ≠ star) ∨ keys' = keys ++ [star]) (hkl : keys'.length ≤ 100000000000000) :
    Calls Tryz.prog 22 #[.string s, slV q] w fun en w' => (∃ u : Sl, en = .returned (.tuple #[slV u, .int .i64 (p.ks.length : Int), .bool true]) ∧ w'.ownsRow (w.heap.size + 4) tAt 3 (slV u) p.ks.length (told s 0 p.ks) ∧ u.2.1 = p.ks.length) ∧ Kp Off w w' := by
  refine impl_JqArrayWild.calls _ _ _ _ ?_
  unfold impl_JqArrayWild.t
  refine s_alloc ?_
  have b0 := Blk.new w [slV (none, 0, 0)] tAts
  have k0 : Kp Off w (w.alloc (.cells #[slV (none, 0, 0)] tAts (0, 0))) := (Kp.refl Off w).alloc _
  have z0 : (w.alloc (.cells #[slV (none, 0, 0)] tAts (0, 0))).heap.size = w.heap.size + 1 := by simp
  show sat _ _ _ (w.alloc (.cells #[slV (none, 0, 0)] tAts (0, 0)))
  generalize w.alloc (.cells #[slV (none, 0, 0)] tAts (0, 0)) = w1 at k0 b0 z0
  obtain ⟨x, w2, hcv, hT, k1, z1, hx⟩ := conv_any (w := w1) s
  rw [z0] at z1 hx
  refine s_eff x hcv ?_
  have b1 := k1.blk b0 id
  have k01 := k0.trans k1
  have hgC : Je.gC < w.heap.size := Ms.cell_lt (hC 0 _ rfl)
  have H := wild_any (N := w.heap.size) hs (hC.off k01) (hL.off' k01) (hE.kp k01 id) hT (hKx.kp k01) h hp5 hk hkl z1 hgC hx b1
  refine s_call H ?_
  rintro en w3 ⟨rfl, hI3, k3⟩
  refine ⟨((p.ks.length : Int), Value.nilIface, ()), rfl, s_drew ?_⟩
  obtain ⟨u, h1, h2, h3⟩ := (hI3.kp ((Kp.refl Off w3).drew)).row
  rw [List.take_length] at h2
  refine s_load u (h1.cell 0) (s_chk rfl (s_leaf ⟨rfl, ⟨u, rfl, h2, h3⟩, (k01.then k3 fun q hq g => by rcases g with g | g | g <;> omega).drew⟩))
end Go.Proofs.YtcjphnppedmbdaaGreatDoor.Ka
namespace Go.Proofs.YtcjphnppedmbdaaGreatDoor.Lj
open Go Go.Proofs Go.RowKit Go.Proofs.YtcjphnppedmbdaaGreatDoor.Rx Go.Proofs.YtcjphnppedmbdaaGreatDoor.Tr Go.Proofs.YtcjphnppedmbdaaGreatDoor.Pl Go.Proofs.YtcjphnppedmbdaaGreatDoor.Pw
open Go.Proofs.YtcjphnppedmbdaaGreatDoor.Sr (tP pc)
variable {s : ByteArray} {w w' : World}
/-- A place's text. -/
theorem raw_any {p : PT} {na ka : Sr.Sl} (hs : s.size ≤ 65536) (hw : WfV s p) : Calls Tryz.prog 23 #[.string s, .agg (pc p.k p.b p.e na ka).toArray] w fun e w' => e = .returned (.string (s.extract (Ka.rb p) (Ka.re p))) ∧ Kp Off w w' := by
  have hlt := hw.lt
  refine spec_Raw.calls _ _ _ _ _ _ _ _ _ _ ?_
  unfold spec_Raw.t
  refine s_alloc ?_
  have b0 := Blk.new w (pc p.k p.b p.e na ka) tP
  have k0 : Kp Off w (w.alloc (.cells (pc p.k p.b p.e na ka).toArray tP (0, 0))) := (Kp.refl Off w).alloc _
  show sat _ _ _ (w.alloc (.cells (pc p.k p.b p.e na ka).toArray tP (0, 0)))
  generalize w.alloc (.cells (pc p.k p.b p.e na ka).toArray tP (0, 0)) = w1 at k0 b0
  have c1 : w1.cell? (Addr.add ⟨w.heap.size, 0, none⟩ 1) = some (.int .i64 (p.b : Int)) := by rw [addr_add, Nat.zero_add, b0.cell]; rfl
  have c2 : w1.cell? (Addr.add ⟨w.heap.size, 0, none⟩ 2) = some (.int .i64 (p.e : Int)) := by rw [addr_add, Nat.zero_add, b0.cell]; rfl
  refine s_load (p.k : Int) (b0.cell 0) (s_iteE (fun hk => ?_) (fun hk => ?_))
  · have hk4 : p.k = 4 := by omega
    have h2 := Ka.str_len hw hk4
    have w1' : IntKind.wrap IntKind.i64 ((p.b : Int) + 1) = ((p.b + 1 : Nat) : Int) := by rw [wrap_in (by omega) (by omega)]; omega
    have w2' : IntKind.wrap IntKind.i64 ((p.e : Int) - 1) = ((p.e - 1 : Nat) : Int) := by rw [wrap_in (by omega) (by omega)]; omega
    refine s_load (p.b : Int) c1 (s_load (p.e : Int) c2 ?_)
    rw [w1', w2']
    refine s_chk ⟨by omega, by omega, by omega⟩ (s_leaf ⟨rfl, ?_, k0⟩)
    rw [Int.toNat_natCast, Int.toNat_natCast]
    unfold Ka.rb Ka.re
    rw [if_pos hk4, if_pos hk4]; rfl
  · have hk4 : p.k ≠ 4 := fun g => hk (by rw [g]; rfl)
    refine s_load (p.b : Int) c1 (s_load (p.e : Int) c2 (s_chk ⟨by omega, by omega, by omega⟩ (s_leaf ⟨rfl, ?_, k0⟩)))
    rw [Int.toNat_natCast, Int.toNat_natCast]
    unfold Ka.rb Ka.re
    rw [if_neg hk4, if_neg hk4]; rfl
theorem wf_kind {p : PT} (h : WfV s p) : p.k ≤ 6 := by
  obtain ⟨k, b, f, ns, ks⟩ := p
  show k ≤ 6
  unfold WfV at h
  obtain ⟨_, _, ⟨_, _, _, h⟩ | ⟨h, _⟩ | ⟨h, _⟩ | ⟨h, _⟩⟩ := h
  · rcases h with ⟨h, _⟩ | ⟨h, _⟩ | ⟨h, _⟩ | ⟨h, _⟩ <;> omega
  · omega
  · omega
  · omega
theorem jpKind_any {k : Nat} (hk : k ≤ 6) : Calls Tryz.prog 24 #[.int .i64 (k : Int)] w fun e w' => e = .returned (.int .i64 (Ka.jk k)) ∧ w' = w := by
  refine laws_jpKind.calls _ ?_
  unfold laws_jpKind.t
  have : k = 0 ∨ k = 1 ∨ k = 2 ∨ k = 3 ∨ k = 4 ∨ k = 5 ∨ k = 6 := by omega
  rcases this with rfl | rfl | rfl | rfl | rfl | rfl | rfl
  · exact sat_iteF.2 (sat_iteF.2 (sat_iteF.2 (sat_iteF.2 (sat_iteF.2 (sat_iteF.2 (s_leaf ⟨rfl, rfl, rfl⟩))))))
  · exact sat_iteF.2 (sat_iteF.2 (sat_iteF.2 (sat_iteF.2 (sat_iteF.2 (sat_iteT.2 (s_leaf ⟨rfl, rfl, rfl⟩))))))
  · exact sat_iteF.2 (sat_iteF.2 (sat_iteF.2 (sat_iteF.2 (sat_iteT.2 (sat_iteT.2 (s_leaf ⟨rfl, rfl, rfl⟩))))))
  · exact sat_iteF.2 (sat_iteT.2 (s_leaf ⟨rfl, rfl, rfl⟩))
  · exact sat_iteT.2 (s_leaf ⟨rfl, rfl, rfl⟩)
  · exact sat_iteF.2 (sat_iteF.2 (sat_iteF.2 (sat_iteT.2 (s_leaf ⟨rfl, rfl, rfl⟩))))
  · exact sat_iteF.2 (sat_iteF.2 (sat_iteT.2 (s_leaf ⟨rfl, rfl, rfl⟩)))
end Go.Proofs.YtcjphnppedmbdaaGreatDoor.Lj
