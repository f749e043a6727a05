/- impl.fjObject's callback: a name and a walked value are put behind an object's rows. No statement of the set is proved here. -/
import Derived.Test.YtkpnomdmnhhaoaaGreatDoorWa
import Derived.Test.YtkpnomdmnhhaoaaGreatDoorTm
namespace Go.Proofs.YtkpnomdmnhhaoaaGreatDoor.Zv
open Go Go.Proofs Go.RowKit Go.Proofs.YtkpnomdmnhhaoaaGreatDoor.Rx Go.Proofs.YtkpnomdmnhhaoaaGreatDoor.Tr Go.Proofs.YtkpnomdmnhhaoaaGreatDoor.Pl Go.Proofs.YtkpnomdmnhhaoaaGreatDoor.Pw Go.Proofs.YtkpnomdmnhhaoaaGreatDoor.Nt
open Go.Proofs.YtkpnomdmnhhaoaaGreatDoor.Sr (Sl slV tBs tB RowIn)
open Go.Proofs.YtkpnomdmnhhaoaaGreatDoor.Ka (nmS)
open Go.Proofs.YtkpnomdmnhhaoaaGreatDoor.Ze (MB bytes_back)

variable {w0 w w' w'' : World} {s : ByteArray} {F F1 : Nat × Nat → Prop} {p c : PT} {ka na nf : Sl} {xs zs : List Value} {i ik ix : Nat} {nt : NT} {cs : List Value}
/-- Later writes: F1's places, and blocks from a world on. -/
def New (w0 : World) (F1 : Nat × Nat → Prop) : Nat × Nat → Prop := fun y => F1 y ∨ w0.heap.size ≤ y.1
theorem Fr.new {S : Nat → Prop} (k : Kp S w w') (hS : ∀ q, S q → w0.heap.size ≤ q) : Fr (New w0 F1) w w' :=
  ⟨k.mono fun q _ h => ⟨0, .inr (hS q h)⟩, fun _ hG => Sm.kp k fun y hy => ⟨(hG y hy).1, fun c => (hG y hy).2 (.inr (hS _ c))⟩⟩
theorem Fr.late (h : Fr F w0 w) (k : Fr (New w0 F1) w w') (hF : ∀ y, F1 y → F y) : Fr F w0 w' :=
  ⟨h.kp.then k.kp fun q hq ⟨o, ho⟩ => ho.elim (fun g => ⟨o, hF _ g⟩) (fun g => by have g : w0.heap.size ≤ q := g; omega),
    fun G hG => (h.sm G hG).trans (k.sm G fun y hy => ⟨Nat.lt_of_lt_of_le (hG y hy).1 h.size, fun c => c.elim (fun g => (hG y hy).2 (hF y g)) (fun g => by have g : w0.heap.size ≤ y.1 := g; have := (hG y hy).1; omega)⟩)⟩
/-- Blocks of what was made since, but for the two rows'. -/
abbrev Ex (w0 : World) (ka na : Sl) : Nat → Prop := fun q => w0.heap.size + 2 ≤ q ∧ some q ≠ (slV na).ownBlock ∧ some q ≠ (slV ka).ownBlock
/-- An object that is being walked. -/
structure OS (s : ByteArray) (w0 w : World) (F : Nat × Nat → Prop) (p : PT) (ik ix : Nat) (ka nf na : Sl) (zs xs : List Value) : Prop where
  z0 : Blk w w0.heap.size zn tN
  n : Blk w (w0.heap.size + 1) (nc 6 (ByteArray.mk #[]) ka nf) tN
  k : w.ownsRow (w0.heap.size + 2) tStr 1 (slV ka) ik ((p.ns.take ik).map fun n => strV (nmS s n))
  x : w.ownsRow (w0.heap.size + 2) tN 4 (slV na) ix zs
  d : ∀ b, some b = (slV ka).ownBlock → some b ≠ (slV na).ownBlock
  fr : Fr F w0 w
  sz : w0.heap.size + 2 ≤ w.heap.size
/-- Writes that leave it alone. -/
def Mild (w0 : World) (ka na : Sl) (S : Nat → Prop) : Prop := ∀ q, S q → (w0.heap.size + 2 ≤ q ∧ some q ≠ (slV na).ownBlock ∧ some q ≠ (slV ka).ownBlock) ∨ q < w0.heap.size
theorem OS.mild {S : Nat → Prop} (h : OS s w0 w F p ik ix ka nf na zs xs) (k : Kp S w w') (hS : Mild w0 ka na S) (hfr : Fr F w0 w') : OS s w0 w' F p ik ix ka nf na zs xs :=
  ⟨k.blk h.z0 (fun c => by have := hS _ c; omega), k.blk h.n (fun c => by have := hS _ c; omega),
    owns_kp h.k k (fun q hq c => by
      rcases hS _ c with ⟨_, _, g⟩ | g
      · exact g hq
      · have := (h.k.lt q hq.symm).1; omega),
    owns_kp h.x k (fun q hq c => by
      rcases hS _ c with ⟨_, g, _⟩ | g
      · exact g hq
      · have := (h.x.lt q hq.symm).1; omega), h.d, hfr, Nat.le_trans h.sz k.size⟩
theorem OS.off (h : OS s w0 w F p ik ix ka nf na zs xs) (k : Kp Off w w') : OS s w0 w' F p ik ix ka nf na zs xs := h.mild k (fun _ c => c.elim) (h.fr.trans (Fr.off k))
theorem OS.set (h : OS s w0 w F p ik ix ka nf na zs xs) : OS s w0 (w.setCell ⟨w0.heap.size + 1, 3, none⟩ (slV na)) F p ik ix ka na na zs xs := by
  have k : Kp (On (w0.heap.size + 1)) w (w.setCell ⟨w0.heap.size + 1, 3, none⟩ (slV na)) := (Kp.refl _ w).on 3 _
  refine ⟨k.blk h.z0 (fun c => by have c : w0.heap.size = w0.heap.size + 1 := c; omega), h.n.set 3 (slV na), owns_kp h.k k (fun q hq c => ?_), owns_kp h.x k (fun q hq c => ?_), h.d, h.fr.then k fun q c => ?_, Nat.le_trans h.sz k.size⟩
  · have := (h.k.lt q hq.symm).1
    have c : q = w0.heap.size + 1 := c
    omega
  · have := (h.x.lt q hq.symm).1
    have c : q = w0.heap.size + 1 := c
    omega
  · have c : q = w0.heap.size + 1 := c
    omega
/-- The last element is written. -/
theorem OS.put (h : OS s w0 w F p ik (i + 1) ka nf na (xs ++ zn) xs) (hc : cs.length = 4) (h1 : ∀ u ∈ cs, u.oneCell' = true) :
    ∃ g w', na.1 = some ⟨g, 0, none⟩ ∧ na.2.1 = i + 1 ∧ (Instr.storeAt tN (.pointer (some ⟨g, i * 4, none⟩)) (.agg cs.toArray)).run Tryz.prog w = .ok () w' ∧ OS s w0 w' F p ik (i + 1) ka nf na (xs ++ cs) xs ∧ Kp (fun q => some q = (slV na).ownBlock) w w' := by
  obtain ⟨g, w', e1, e2, e3, e4, e5, e6, e7⟩ := put_last h.x rfl hc h1
  have hown : (slV na).ownBlock = some g := by
    show Value.ownBlock (.slice na.1 na.2.1 na.2.2) = _
    rw [e1]; rfl
  have e8 : Kp (fun q => some q = (slV na).ownBlock) w w' := e7.mono fun q _ c => by rw [hown]; exact congrArg some c
  refine ⟨g, w', e1, e2, e5, ⟨e7.blk h.z0 (fun c => by have c : w0.heap.size = g := c; omega), e7.blk h.n (fun c => by have c : w0.heap.size + 1 = g := c; omega), owns_kp h.k e7 (fun q hq c => ?_), e6, h.d, h.fr.then e7 fun q c => ?_, Nat.le_trans h.sz e7.size⟩, e8⟩
  · have c : q = g := c
    exact h.d q hq (by rw [hown, c])
  · have c : q = g := c
    omega
/-- The callback's end: the row grows by a new element, which is written, and the row goes into the object, in any order. -/
theorem s_cbTail {Q : Nat → List Value → World → Prop} {a b : Sl} {g : Nat} (h : OS s w0 w F p ik i ka na na xs xs) (hi : i + 1 ≤ 4294967296)
    (hA : AllN (Ex w0 ka na) w (treeL s (p.ks.take i)) xs) (hc : p.ks[i]? = some c) (hN : NdAt (Ex w0 ka na) w (treeN s c) (nc (treeN s c).k (treeN s c).t a b)) (hg : ∀ (j : Nat) (u : Value), zn[j]? = some u → w.cell? ⟨g, j, none⟩ = some u)
    (hQ : ∀ (na' : Sl) (xs' : List Value) (w' : World), OS s w0 w' F p ik (i + 1) ka na' na' xs' xs' → AllN (Ex w0 ka na') w' (treeL s (p.ks.take (i + 1))) xs' → Fr (New w0 F1) w w' → Q 0 [] w') :
    sat Tryz.prog (
      .eff (Builtin.append_ (Call.argTypes (Call.mk (Callee.builtin Builtin.append) #[(Operand.tmp 13), (Operand.tmp 17)] #[tNs, tNs])) tNs #[(Value.slice (na).1 ((na).2).1 ((na).2).2), (Value.slice (some ⟨g, 0, none⟩) 1 1)]) .slice fun (z10 : ((Option Addr) × (Nat × Nat))) =>
      .ptr (some ⟨w0.heap.size + 1, 0, none⟩) fun (z11 : Addr) =>
      .both (
        .chk (((0 : Int) ≤ ((((na).2).1 : Nat) : Int)) ∧ (((((na).2).1 : Nat) : Int) < ((((z10).2).1 : Nat) : Int))) <|
        .ptr (z10).1 fun (z12 : Addr) =>
        .both (
          .effU (Instr.storeAt tN (Value.pointer (some (Addr.add z12 ((Int.toNat ((((na).2).1 : Nat) : Int)) * 4)))) (.agg (nc (treeN s c).k (treeN s c).t a b).toArray)) <|
          .store (Addr.add z11 3) (Value.slice (z10).1 ((z10).2).1 ((z10).2).2) <|
          .leaf 0 []) (
          .store (Addr.add z11 3) (Value.slice (z10).1 ((z10).2).1 ((z10).2).2) <|
          .effU (Instr.storeAt tN (Value.pointer (some (Addr.add z12 ((Int.toNat ((((na).2).1 : Nat) : Int)) * 4)))) (.agg (nc (treeN s c).k (treeN s c).t a b).toArray)) <|
          .leaf 0 [])) (
        .store (Addr.add z11 3) (Value.slice (z10).1 ((z10).2).1 ((z10).2).2) <|
        .chk (((0 : Int) ≤ ((((na).2).1 : Nat) : Int)) ∧ (((((na).2).1 : Nat) : Int) < ((((z10).2).1 : Nat) : Int))) <|
        .ptr (z10).1 fun (z13 : Addr) =>
        .effU (Instr.storeAt tN (Value.pointer (some (Addr.add z13 ((Int.toNat ((((na).2).1 : Nat) : Int)) * 4)))) (.agg (nc (treeN s c).k (treeN s c).t a b).toArray)) <|
        .leaf 0 [])) Q w := by
  have hti := info_some (P := Tryz.prog) (t := tN) (by kernel_rfl)
  have hsz := h.sz
  obtain ⟨na', w1, r1, ho1, k1, hnew⟩ := push1 (P := Tryz.prog) (t := tNs) (z0 := .agg zn.toArray) Tryz.underlying24 hti (by kernel_rfl) (by kernel_rfl) (of_decide_eq_true (by kernel_rfl)) rfl (by decide) h.x zn rfl (nc_oneC _ _ _ _) (g := g) hg hi (by omega)
  refine s_eff na' r1 ?_
  have own_ge : ∀ q, some q = (slV na).ownBlock → w0.heap.size + 2 ≤ q := fun q hq => (h.x.lt q hq.symm).1
  have hz1 := k1.size
  -- behind the append
  have h1 : OS s w0 w1 F p ik (i + 1) ka na na' (xs ++ zn) xs := by
    refine ⟨k1.blk h.z0 (fun c => by have := own_ge _ c; omega), k1.blk h.n (fun c => by have := own_ge _ c; omega), owns_kp h.k k1 (fun q hq c => h.d q hq c), ho1, fun q hq c => ?_, h.fr.then k1 fun q c => by have := own_ge _ c; omega, by omega⟩
    rcases hnew q c with g | g
    · exact h.d q hq g
    · have := (h.k.lt q hq.symm).2; omega
  have mv : ∀ q, q < w.heap.size → Ex w0 ka na q → Ex w0 ka na' q ∧ ¬ (some q = (slV na).ownBlock) := fun q hq hx =>
    ⟨⟨hx.1, fun e => by
      rcases hnew q e with h' | h'
      · exact hx.2.1 h'
      · omega, hx.2.2⟩, hx.2.1⟩
  have hA1 := hA.kp k1 mv
  have hN1 := hN.kp k1 mv
  have f1 : Fr (New w0 F1) w w1 := Fr.new k1 fun q c => by have := own_ge q c; omega
  have hlen : na.2.1 = i := by
    obtain ⟨_, ⟨e, e0⟩ | ⟨_, _, _, e, _⟩⟩ := h.x
    · unfold slV at e
      simp only [Value.slice.injEq] at e
      rw [e.2.1, e0]
    · unfold slV at e
      simp only [Value.slice.injEq] at e
      exact e.2.1
  rw [hlen, Int.toNat_natCast]
  have own_ge' : ∀ q, some q = (slV na').ownBlock → w0.heap.size + 2 ≤ q := fun q hq => (h1.x.lt q hq.symm).1
  have fin : ∀ {w2 : World} {S : Nat → Prop}, OS s w0 w2 F p ik (i + 1) ka na' na' (xs ++ nc (treeN s c).k (treeN s c).t a b) xs → Kp S w1 w2 → (∀ q, S q → q = w0.heap.size + 1 ∨ some q = (slV na').ownBlock) → Q 0 [] w2 := fun {w2} {S} h2 k2 hS => by
    have mv2 : ∀ q, q < w1.heap.size → Ex w0 ka na' q → Ex w0 ka na' q ∧ ¬ S q := fun q _ hx => ⟨hx, fun c => by
      rcases hS q c with g | g
      · have := hx.1; omega
      · exact hx.2.1 g⟩
    refine hQ na' _ w2 ⟨h2.z0, h2.n, h2.k, h2.x, h2.d, h2.fr, h2.sz⟩ ?_ (f1.trans (Fr.new k2 fun q c => ?_))
    · rw [treeL_take s hc]
      exact AllN.snoc (hN1.kp k2 mv2) _ _ (hA1.kp k2 mv2)
    · rcases hS q c with g | g
      · omega
      · have := own_ge' q g; omega
  refine s_ptr (s_both ?_ ?_)
  · obtain ⟨gg, w2, e1, e2, e3, e4, e5⟩ := h1.put (cs := nc (treeN s c).k (treeN s c).t a b) rfl (nc_oneC _ _ _ _)
    refine s_chk ⟨by omega, by show (i : Int) < ((na'.2.1 : Nat) : Int); rw [e2]; omega⟩ ⟨_, e1, s_both ?_ ?_⟩
    · refine s_effU (by rw [addr_add, Nat.zero_add]; exact e3) (s_store (u := slV na) (by rw [addr_add, e4.n.cell]; rfl) (by rw [addr_add]; exact e4.n.free _) (s_leaf ?_))
      rw [addr_add, Nat.zero_add]
      exact fin e4.set ((e5.mono fun q _ h => .inr h).trans (((Kp.refl (fun q => q = w0.heap.size + 1 ∨ some q = (slV na').ownBlock) w2).set (a := ⟨w0.heap.size + 1, 3, none⟩) (.inl rfl) _))) fun q h => h
    · refine s_store (u := slV na) (by rw [addr_add, h1.n.cell]; rfl) (by rw [addr_add]; exact h1.n.free _) ?_
      rw [addr_add, Nat.zero_add, addr_add, Nat.zero_add]
      have k2 : Kp (fun q => q = w0.heap.size + 1 ∨ some q = (slV na').ownBlock) w1 (w1.setCell ⟨w0.heap.size + 1, 3, none⟩ (slV na')) := (Kp.refl _ w1).set (a := ⟨w0.heap.size + 1, 3, none⟩) (.inl rfl) _
      have h2 := h1.set
      show sat _ _ _ (w1.setCell ⟨w0.heap.size + 1, 3, none⟩ (slV na'))
      generalize w1.setCell ⟨w0.heap.size + 1, 3, none⟩ (slV na') = w3 at h2 k2
      obtain ⟨g3, w4, d1, d2, d3, d4, d5⟩ := h2.put (cs := nc (treeN s c).k (treeN s c).t a b) rfl (nc_oneC _ _ _ _)
      have : g3 = gg := by rw [e1] at d1; cases d1; rfl
      subst this
      exact s_effU d3 (s_leaf (fin d4 (k2.trans (d5.mono fun q _ h => .inr h)) fun q h => h))
  · refine s_store (u := slV na) (by rw [addr_add, h1.n.cell]; rfl) (by rw [addr_add]; exact h1.n.free _) ?_
    rw [addr_add, Nat.zero_add]
    have k2 : Kp (fun q => q = w0.heap.size + 1 ∨ some q = (slV na').ownBlock) w1 (w1.setCell ⟨w0.heap.size + 1, 3, none⟩ (slV na')) := (Kp.refl _ w1).set (a := ⟨w0.heap.size + 1, 3, none⟩) (.inl rfl) _
    have h2 := h1.set
    show sat _ _ _ (w1.setCell ⟨w0.heap.size + 1, 3, none⟩ (slV na'))
    generalize w1.setCell ⟨w0.heap.size + 1, 3, none⟩ (slV na') = w3 at h2 k2
    obtain ⟨g3, w4, d1, d2, d3, d4, d5⟩ := h2.put (cs := nc (treeN s c).k (treeN s c).t a b) rfl (nc_oneC _ _ _ _)
    refine s_chk ⟨by omega, by show (i : Int) < ((na'.2.1 : Nat) : Int); rw [d2]; omega⟩ ⟨_, d1, ?_⟩
    exact s_effU (by rw [addr_add, Nat.zero_add]; exact d3) (s_leaf (fin d4 (k2.trans (d5.mono fun q _ h => .inr h)) fun q h => h))
/-- What fjNode says of a value. -/
def NodePost (s : ByteArray) (p : PT) (F : Nat × Nat → Prop) (w : World) (e : Ending) (w' : World) : Prop :=
  ∃ a b : Sl, e = .returned (.agg (nc (treeN s p).k (treeN s p).t a b).toArray) ∧ NdAt (fun q => w.heap.size ≤ q) w' (treeN s p) (nc (treeN s p).k (treeN s p).t a b) ∧ Fr F w w'
theorem s_cbCall {Q : Nat → List Value → World → Prop} {a : Nat × Nat} {K : (Sh.agg (.cons (.int .i64) (.cons .str (.cons .slice (.cons .slice .nil))))).Ty → T} (h : OS s w0 w F p ik i ka na na xs xs)
    (hA : AllN (Ex w0 ka na) w (treeL s (p.ks.take i)) xs) (hV : VAt s w c a F1) (hF1 : ∀ y, F1 y → F y ∧ y.1 < w0.heap.size)
    (hcall : ∀ w', VAt s w' c a F1 → w0.heap.size ≤ w'.heap.size → Calls Tryz.prog 17 #[ptrV a] w' (NodePost s c F1 w'))
    (hK : ∀ (a' b' : Sl) (w' : World), OS s w0 w' F p ik i ka na na xs xs → AllN (Ex w0 ka na) w' (treeL s (p.ks.take i)) xs → NdAt (Ex w0 ka na) w' (treeN s c) (nc (treeN s c).k (treeN s c).t a' b') → Fr (New w0 F1) w w' → Kp (fun q => q < w0.heap.size) w w' →
      sat Tryz.prog (K (((treeN s c).k : Int), (treeN s c).t, a', b', ())) Q w') :
    sat Tryz.prog (.call 17 #[Value.pointer (some ⟨a.1, a.2, none⟩)] (.agg (.cons (.int .i64) (.cons .str (.cons .slice (.cons .slice .nil))))) K) Q w := by
  refine s_call (hcall w hV (by have := h.sz; omega)) ?_
  rintro e w' ⟨a', b', rfl, hN, fr⟩
  refine ⟨(((treeN s c).k : Int), (treeN s c).t, a', b', ()), rfl, ?_⟩
  have kk : Kp (fun q => q < w0.heap.size) w w' := fr.kp.mono fun q _ ⟨o, ho⟩ => (hF1 _ ho).2
  have fn : Fr (New w0 F1) w w' := fr.mono fun y hy => .inl hy
  have hsz := h.sz
  refine hK a' b' w' (h.mild kk (fun q c => .inr c) (h.fr.late fn fun y hy => (hF1 y hy).1)) (hA.kp kk fun q _ hx => ⟨hx, fun c => by have := hx.1; omega⟩) (hN.kp (Kp.refl Off w') fun q _ hq => ⟨⟨by omega, fun e => ?_, fun e => ?_⟩, id⟩) fn kk
  · have := (h.x.lt q e.symm).2; omega
  · have := (h.k.lt q e.symm).2; omega
theorem s_cbBuild {Q : Nat → List Value → World → Prop} {K : Sh.slice.Ty → T} (hK : ∀ w', Kp Off w w' → (∀ (j : Nat) (u : Value), zn[j]? = some u → w'.cell? ⟨w.heap.size, j, none⟩ = some u) → w.heap.size < w'.heap.size → sat Tryz.prog (K (some ⟨w.heap.size, 0, none⟩, 1, 1)) Q w') :
    sat Tryz.prog (.eff (Instr.buildSlice tNs 1 #[(0, (Value.agg #[(Value.int IntKind.i64 (0 : Int)), (Value.string (ByteArray.mk #[])), (Value.slice none 0 0), (Value.slice none 0 0)]))]) .slice K) Q w := by
  have hb := build1 (P := Tryz.prog) (w := w) (t := tNs) (e := tN) (size := 4) Tryz.underlying24 (info_some (by kernel_rfl)) (by kernel_rfl : _ = some (Value.agg zn.toArray)) (by kernel_rfl) (by decide) (by decide) (.agg zn.toArray) zn rfl rfl
  have kn : Kp Off w (w.alloc (.cells zn.toArray tN)) := (Kp.refl Off w).alloc _
  have bn : Blk (w.alloc (.cells zn.toArray tN)) w.heap.size zn tN := Blk.new w zn tN
  exact s_eff (some ⟨w.heap.size, 0, none⟩, 1, 1) hb (hK _ kn (fun j u hj => by rw [bn.cell]; exact hj) bn.lt)
theorem cb_any {n : Nat × Nat} {a : Nat × Nat} {key : Sl} {base room : Nat} (hO : OS s w0 w F p i i ka na na xs xs) (hA : AllN (Ex w0 ka na) w (treeL s (p.ks.take i)) xs) (hn : p.ns[i]? = some n) (hc : p.ks[i]? = some c) (hi : i + 1 ≤ 4294967296)
    (hM : MB w base room key (nmS s n).data.toList) (hV : VAt s w c a F1) (hF1 : ∀ y, F1 y → F y ∧ y.1 < w0.heap.size)
    (hcall : ∀ w', VAt s w' c a F1 → w0.heap.size ≤ w'.heap.size → Calls Tryz.prog 17 #[ptrV a] w' (NodePost s c F1 w')) :
    Calls Tryz.prog 52 #[slV key, ptrV a, .pointer (some ⟨w0.heap.size + 1, 0, none⟩)] w fun e w' => e = .returned (.tuple #[]) ∧
      (∃ (ka' na' : Sl) (xs' : List Value), OS s w0 w' F p (i + 1) (i + 1) ka' na' na' xs' xs' ∧ AllN (Ex w0 ka' na') w' (treeL s (p.ks.take (i + 1))) xs') ∧ Fr (New w0 F1) w w' := by
  have hsz := hO.sz
  refine impl_fjObject_1.calls _ _ _ _ _ ?_
  unfold impl_fjObject_1.t
  refine s_ptr (s_load ka (by rw [addr_add, hO.n.cell]; rfl) ?_)
  have hstr := hM.toStr
  rw [bytes_back] at hstr
  refine s_eff (w' := w) (nmS s n) hstr ?_
  refine s_push2 (z0 := .string (ByteArray.mk #[])) (size := 1) Tryz.underlying23 (info_some (by kernel_rfl)) (by kernel_rfl) (by kernel_rfl) (of_decide_eq_true (by kernel_rfl)) rfl (by decide) (by decide) hO.k (.string (nmS s n)) [strV (nmS s n)] rfl rfl
    (by intro u hu; simp [strV] at hu; subst hu; rfl) hi (by omega) fun ka' w1 ho1 k1 hnew => ?_
  have own_ge : ∀ q, some q = (slV ka).ownBlock → w0.heap.size + 2 ≤ q := fun q hq => (hO.k.lt q hq.symm).1
  have hz1 := k1.size
  have hn1 := k1.blk hO.n (fun c => by have := own_ge _ c; omega)
  refine s_ptr (s_store (u := slV ka) (by rw [addr_add, hn1.cell]; rfl) (by rw [addr_add]; exact hn1.free _) ?_)
  rw [addr_add, Nat.zero_add]
  have k2 : Kp (On (w0.heap.size + 1)) w1 (w1.setCell ⟨w0.heap.size + 1, 2, none⟩ (slV ka')) := (Kp.refl _ w1).on 2 _
  have hn2 := hn1.set 2 (slV ka')
  show sat _ _ _ (w1.setCell ⟨w0.heap.size + 1, 2, none⟩ (slV ka'))
  generalize w1.setCell ⟨w0.heap.size + 1, 2, none⟩ (slV ka') = w2 at k2 hn2
  have hn2 : Blk w2 (w0.heap.size + 1) (nc 6 (ByteArray.mk #[]) ka' na) tN := hn2
  refine s_drew ?_
  have kd : Kp Off w2 w2.drew := (Kp.refl Off w2).drew
  have hn3 := kd.blk hn2 id
  generalize w2.drew = w3 at kd hn3
  have k13 : Kp (On (w0.heap.size + 1)) w1 w3 := k2.trans (Kp.off kd)
  have k03 : Kp (fun q => some q = (slV ka).ownBlock ∨ q = w0.heap.size + 1) w w3 := (k1.mono fun q _ h => .inl h).trans (k13.mono fun q _ h => .inr h)
  have S_ge : ∀ q, (some q = (slV ka).ownBlock ∨ q = w0.heap.size + 1) → w0.heap.size + 1 ≤ q := fun q h => by
    rcases h with h | h
    · have := own_ge q h; omega
    · omega
  have f3 : Fr (New w0 F1) w w3 := Fr.new k03 fun q h => by have := S_ge q h; omega
  have hO3 : OS s w0 w3 F p (i + 1) i ka' na na xs xs := by
    refine ⟨k03.blk hO.z0 (fun c => by have := S_ge _ c; omega), hn3, ?_, owns_kp hO.x k03 (fun q hq c => ?_), fun q hq c => ?_, hO.fr.then k03 fun q h => by have := S_ge q h; omega, by have := k13.size; omega⟩
    · have e1 : (p.ns.take (i + 1)).map (fun n => strV (nmS s n)) = (p.ns.take i).map (fun n => strV (nmS s n)) ++ [strV (nmS s n)] := by
        rw [List.take_add_one, hn]; simp
      rw [e1]
      refine owns_kp ho1 k13 fun q hq c => ?_
      have c : q = w0.heap.size + 1 := c
      have := (ho1.lt q hq.symm).1
      omega
    · rcases c with c | c
      · exact hO.d q c hq
      · have := (hO.x.lt q hq.symm).1; omega
    · rcases hnew q hq with g | g
      · exact hO.d q g c
      · have := (hO.x.lt q c.symm).2; omega
  have hA3 : AllN (Ex w0 ka' na) w3 (treeL s (p.ks.take i)) xs := hA.kp k03 fun q hq hx => ⟨⟨hx.1, hx.2.1, fun e => by
    rcases hnew q e with g | g
    · exact hx.2.2 g
    · omega⟩, fun c => by
    rcases c with c | c
    · exact hx.2.2 c
    · have := hx.1; omega⟩
  have hV3 : VAt s w3 c a F1 := hV.sm c a F1 (Sm.kp k03 fun y hy => ⟨by have := (hF1 y hy).2; omega, fun h => by have := S_ge _ h; have := (hF1 y hy).2; omega⟩)
  clear hO hA hV hM hstr k1 k2 kd k13 k03 hn1 hn2 hn3 ho1 hnew own_ge S_ge
  have fin : ∀ {w4 : World}, Fr (New w0 F1) w3 w4 → ∀ (na' : Sl) (xs' : List Value) (w' : World), OS s w0 w' F p (i + 1) (i + 1) ka' na' na' xs' xs' → AllN (Ex w0 ka' na') w' (treeL s (p.ks.take (i + 1))) xs' → Fr (New w0 F1) w4 w' →
      (0 : Nat) = 0 ∧ (Ending.returned (retVal []) = .returned (.tuple #[]) ∧ (∃ (ka' na' : Sl) (xs' : List Value), OS s w0 w' F p (i + 1) (i + 1) ka' na' na' xs' xs' ∧ AllN (Ex w0 ka' na') w' (treeL s (p.ks.take (i + 1))) xs') ∧ Fr (New w0 F1) w w') :=
    fun h4 na' xs' w' h1 h2 h3 => ⟨rfl, rfl, ⟨ka', na', xs', h1, h2⟩, (f3.trans h4).trans h3⟩
  have loadNa : ∀ {w4 : World}, OS s w0 w4 F p (i + 1) i ka' na na xs xs → w4.cell? (Addr.add ⟨w0.heap.size + 1, 0, none⟩ 3) = some (Sh.slice.val na) := fun h => by rw [addr_add, h.n.cell]; rfl
  have allOff : ∀ {w4 w5 : World}, Kp Off w4 w5 → AllN (Ex w0 ka' na) w4 (treeL s (p.ks.take i)) xs → AllN (Ex w0 ka' na) w5 (treeL s (p.ks.take i)) xs := fun k h => h.kp k fun q _ hx => ⟨hx, id⟩
  refine s_ptr (s_both (s_load na (loadNa hO3) (s_both ?_ ?_)) (s_both ?_ ?_))
  · refine s_cbCall hO3 hA3 hV3 hF1 hcall fun a' b' w4 hO4 hA4 hN4 f4 _ => ?_
    refine s_cbBuild fun w5 k5 hg5 _ => ?_
    exact s_cbTail (hO4.off k5) hi (allOff k5 hA4) hc (hN4.kp k5 fun q _ hx => ⟨hx, id⟩) hg5 (fin (f4.trans (Fr.off k5)))
  · refine s_cbBuild fun w4 k4 hg4 hz4 => ?_
    refine s_cbCall (hO3.off k4) (allOff k4 hA3) (hV3.sm c a F1 (Sm.kp k4 fun y hy => ⟨by have := (hF1 y hy).2; have := hO3.sz; omega, id⟩)) hF1 hcall fun a' b' w5 hO5 hA5 hN5 f5 k5 => ?_
    exact s_cbTail hO5 hi hA5 hc hN5 (fun j u hj => by rw [k5.cell (a := ⟨w3.heap.size, j, none⟩) hz4 (fun c => by have c : w3.heap.size < w0.heap.size := c; have := hO3.sz; omega)]; exact hg4 j u hj) (fin ((Fr.off k4).trans f5))
  · refine s_cbCall hO3 hA3 hV3 hF1 hcall fun a' b' w4 hO4 hA4 hN4 f4 _ => s_both ?_ ?_
    · refine s_load na (loadNa hO4) ?_
      refine s_cbBuild fun w5 k5 hg5 _ => ?_
      exact s_cbTail (hO4.off k5) hi (allOff k5 hA4) hc (hN4.kp k5 fun q _ hx => ⟨hx, id⟩) hg5 (fin (f4.trans (Fr.off k5)))
    · refine s_cbBuild fun w5 k5 hg5 _ => ?_
      refine s_load na (loadNa (hO4.off k5)) ?_
      exact s_cbTail (hO4.off k5) hi (allOff k5 hA4) hc (hN4.kp k5 fun q _ hx => ⟨hx, id⟩) hg5 (fin (f4.trans (Fr.off k5)))
  · refine s_cbBuild fun w4 k4 hg4 hz4 => ?_
    have hV4 := hV3.sm c a F1 (Sm.kp k4 fun y hy => ⟨by have := (hF1 y hy).2; have := hO3.sz; omega, id⟩)
    have keep : ∀ {w5 : World}, Kp (fun q => q < w0.heap.size) w4 w5 → ∀ (j : Nat) (u : Value), zn[j]? = some u → w5.cell? ⟨w3.heap.size, j, none⟩ = some u := fun k5 j u hj => by
      rw [k5.cell (a := ⟨w3.heap.size, j, none⟩) hz4 (fun c => by have c : w3.heap.size < w0.heap.size := c; have := hO3.sz; omega)]; exact hg4 j u hj
    refine s_both ?_ ?_
    · refine s_load na (loadNa (hO3.off k4)) ?_
      refine s_cbCall (hO3.off k4) (allOff k4 hA3) hV4 hF1 hcall fun a' b' w5 hO5 hA5 hN5 f5 k5 => ?_
      exact s_cbTail hO5 hi hA5 hc hN5 (keep k5) (fin ((Fr.off k4).trans f5))
    · refine s_cbCall (hO3.off k4) (allOff k4 hA3) hV4 hF1 hcall fun a' b' w5 hO5 hA5 hN5 f5 k5 => ?_
      refine s_load na (loadNa hO5) ?_
      exact s_cbTail hO5 hi hA5 hc hN5 (keep k5) (fin ((Fr.off k4).trans f5))
end Go.Proofs.YtkpnomdmnhhaoaaGreatDoor.Zv
