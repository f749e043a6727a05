/- jsonparser's ReaderParser over pieces: its state; readMore, discardConsumed, peekByte. No statement of the set is proved here. -/
import Derived.Test.YtlfebfkphgelfaaDoorYb
namespace Go.Proofs.YtlfebfkphgelfaaDoor.Yr
open Go Go.Proofs Go.RowKit Go.Proofs.YtlfebfkphgelfaaDoor.Rx Go.Proofs.YtlfebfkphgelfaaDoor.Tr Go.Proofs.YtlfebfkphgelfaaDoor.Pl Go.Proofs.YtlfebfkphgelfaaDoor.Pw
open Go.Proofs.YtlfebfkphgelfaaDoor.Sr (Sl slV)
open Go.Proofs.YtlfebfkphgelfaaDoor.Bw (bv gb bt_bv)

abbrev tRP : TypeId := 92
abbrev tPR : TypeId := 83
variable {w w' w'' : World} {s : ByteArray} {win : Int} {g h hp gB o i e : Nat} {ps : List ByteArray}
/-- All pieces. -/
def cat : List ByteArray → List UInt8
  | [] => []
  | x :: r => x.data.toList ++ cat r
/-- No two empty pieces stand side by side; k empty ones were the last read. -/
def Alt : Nat → List ByteArray → Prop
  | _, [] => True
  | k, x :: r => (x.size = 0 → k = 0 ∧ Alt 1 r) ∧ (x.size ≠ 0 → Alt 0 r)
/-- A ReaderParser's cells. -/
def rc (h : Nat) (buf : Sl) (bs pos win k : Int) : List Value := [.iface tPR (.pointer (some ⟨h, 0, none⟩)), slV buf, .int .i64 bs, .int .i64 pos, .bool false, .bool false, .int .i64 win, .nilIface, .int .i64 k]
/-- The window holds the text from o to e; what is read next stands at i. -/
structure RSb (s : ByteArray) (win : Int) (g h hp : Nat) (w : World) (gB o i e : Nat) (ps : List ByteArray) (op pc ob k : Nat) (buf : Sl) : Prop where
  rp : Blk w g (rc h buf (o : Int) ((i - o : Nat) : Int) win (k : Int)) tRP
  pr : Pcs w h hp op pc ps
  len : buf.2.1 = e - o
  lec : buf.2.1 ≤ buf.2.2
  cap : buf.2.2 ≤ 1000000
  bf : buf.2.2 = 0 ∨ (buf.1 = some ⟨gB, ob, none⟩ ∧ (∀ j, j < e - o → w.cell? ⟨gB, ob + j, none⟩ = some (.int .u8 (bt s ((o + j : Nat) : Int)))) ∧ ∀ j, j < buf.2.2 → (w.cell? ⟨gB, ob + j, none⟩).isSome = true ∧ w.frozen? ⟨gB, ob + j, none⟩ = false)
  alt : Alt k ps
  ord : o ≤ i ∧ i ≤ e ∧ e ≤ s.size
  hpl : hp < w.heap.size
  gl : gB < w.heap.size
  ne : g ≠ h ∧ g ≠ hp ∧ h ≠ hp ∧ gB ≠ g ∧ gB ≠ h ∧ gB ≠ hp
  ct : cat ps = s.data.toList.drop e
  wn : 0 ≤ win ∧ win ≤ 1048576
  sz : s.size ≤ 3000
def RS (s : ByteArray) (win : Int) (g h hp : Nat) (w : World) (gB o i e : Nat) (ps : List ByteArray) : Prop := ∃ (op pc ob k : Nat) (buf : Sl), RSb s win g h hp w gB o i e ps op pc ob k buf
/-- The blocks of a ReaderParser. -/
def Fr (g h hp gB : Nat) : Nat → Prop := fun q => q = g ∨ q = h ∨ q = hp ∨ q = gB
/-- Nothing but these is written; the window may move to a new block. -/
def Mv (g h hp : Nat) (w : World) (gB : Nat) (w' : World) (gB' : Nat) : Prop := Kp (Fr g h hp gB) w w' ∧ (gB' = gB ∨ w.heap.size ≤ gB')
theorem Mv.refl (g h hp : Nat) (w : World) (gB : Nat) : Mv g h hp w gB w gB := ⟨Kp.refl _ _, .inl rfl⟩
theorem Mv.trans {gB1 gB2 : Nat} (a : Mv g h hp w gB w' gB1) (b : Mv g h hp w' gB1 w'' gB2) : Mv g h hp w gB w'' gB2 := by
  have hz := a.1.size
  refine ⟨a.1.then b.1 fun q hq hf => ?_, ?_⟩
  · rcases hf with hf | hf | hf | hf
    · exact .inl hf
    · exact .inr (.inl hf)
    · exact .inr (.inr (.inl hf))
    · rcases a.2 with e | e
      · exact .inr (.inr (.inr (hf.trans e)))
      · omega
  · rcases b.2 with e | e
    · rw [e]; exact a.2
    · exact .inr (by omega)
theorem Mv.on (k : Kp (On g) w w') : Mv g h hp w gB w' gB := ⟨k.mono fun _ _ e => .inl e, .inl rfl⟩
theorem Mv.off (k : Kp Off w w') : Mv g h hp w gB w' gB := ⟨k.off, .inl rfl⟩
/-- The state stays where the parser's own cells alone are written. -/
theorem RSb.on {op pc ob k i2 k2 : Nat} {buf : Sl} (H : RSb s win g h hp w gB o i e ps op pc ob k buf) (kp : Kp (On g) w w') (hb : Blk w' g (rc h buf (o : Int) ((i2 - o : Nat) : Int) win (k2 : Int)) tRP) (ho : o ≤ i2 ∧ i2 ≤ e) (ha : Alt k2 ps) : RSb s win g h hp w' gB o i2 e ps op pc ob k2 buf := by
  have n1 := H.ne.2.2.2.1
  have hB := kp.block gB H.gl n1
  refine ⟨hb, H.pr.kp kp H.hpl (fun e => H.ne.1 (Eq.symm e)) (fun e => H.ne.2.1 (Eq.symm e)), H.len, H.lec, H.cap, ?_, ha, ⟨ho.1, ho.2, H.ord.2.2⟩, Nat.lt_of_lt_of_le H.hpl kp.size, Nat.lt_of_lt_of_le H.gl kp.size, H.ne, H.ct, H.wn, H.sz⟩
  rcases H.bf with h0 | ⟨h1, h2, h3⟩
  · exact .inl h0
  · exact .inr ⟨h1, fun j hj => (World.cell?_of_block (a := ⟨gB, ob + j, none⟩) hB).trans (h2 j hj), fun j hj => ⟨by rw [World.cell?_of_block (a := ⟨gB, ob + j, none⟩) hB]; exact (h3 j hj).1, (World.frozen?_of_block (a := ⟨gB, ob + j, none⟩) hB).trans (h3 j hj).2⟩⟩
/-- The state stays where none of its blocks is written. -/
theorem RS.kp {S : Nat → Prop} (H : RS s win g h hp w gB o i e ps) (k : Kp S w w') (hS : ∀ q, S q → ¬ Fr g h hp gB q) : RS s win g h hp w' gB o i e ps := by
  obtain ⟨op, pc, ob, kk, buf, H⟩ := H
  have n : ∀ q, Fr g h hp gB q → ¬ S q := fun q hq hs => hS q hs hq
  have hB := k.block gB H.gl (n _ (.inr (.inr (.inr rfl))))
  refine ⟨op, pc, ob, kk, buf, k.blk H.rp (n _ (.inl rfl)), H.pr.kp k H.hpl (n _ (.inr (.inl rfl))) (n _ (.inr (.inr (.inl rfl)))), H.len, H.lec, H.cap, ?_, H.alt, H.ord, Nat.lt_of_lt_of_le H.hpl k.size, Nat.lt_of_lt_of_le H.gl k.size, H.ne, H.ct, H.wn, H.sz⟩
  rcases H.bf with h0 | ⟨h1, h2, h3⟩
  · exact .inl h0
  · exact .inr ⟨h1, fun j hj => (World.cell?_of_block (a := ⟨gB, ob + j, none⟩) hB).trans (h2 j hj), fun j hj => ⟨by rw [World.cell?_of_block (a := ⟨gB, ob + j, none⟩) hB]; exact (h3 j hj).1, (World.frozen?_of_block (a := ⟨gB, ob + j, none⟩) hB).trans (h3 j hj).2⟩⟩
theorem RS.off (H : RS s win g h hp w gB o i e ps) (k : Kp Off w w') : RS s win g h hp w' gB o i e ps := H.kp k fun _ hq => hq.elim
/-- The parser's place moves on by one. -/
theorem s_next {Q : Nat → List Value → World → Prop} {K : T} {i3 : Int} (H : RS s win g h hp w gB o i e ps) (hi : i < e) (h3 : i3 = ((i - o : Nat) : Int)) (hK : ∀ w', RS s win g h hp w' gB o (i + 1) e ps → Kp (On g) w w' → sat Tryd.prog K Q w') :
    sat Tryd.prog (.store (Addr.add ⟨g, 0, none⟩ 3) (Value.int IntKind.i64 (IntKind.wrap IntKind.i64 (i3 + (1 : Int)))) K) Q w := by
  obtain ⟨op, pc, ob, k, buf, H⟩ := H
  subst h3
  have ho := H.ord
  have hs := H.sz
  refine s_store (by rw [addr_add, Nat.zero_add]; exact H.rp.cell 3) (by rw [addr_add, Nat.zero_add]; exact H.rp.free 3) ?_
  have ew : IntKind.wrap IntKind.i64 (((i - o : Nat) : Int) + (1 : Int)) = ((i + 1 - o : Nat) : Int) := by rw [wrap_in (by omega) (by omega)]; omega
  rw [addr_add, Nat.zero_add, ew]
  have kk : Kp (On g) w (w.setCell ⟨g, 3, none⟩ (.int .i64 ((i + 1 - o : Nat) : Int))) := (Kp.refl _ w).on 3 _
  have b := H.rp.set 3 (.int .i64 ((i + 1 - o : Nat) : Int))
  exact hK _ ⟨op, pc, ob, k, buf, H.on kk b ⟨by omega, by omega⟩ H.alt⟩ kk
theorem discard_any (H : RS s win g h hp w gB o i e ps) : Calls Tryd.prog 60 #[.pointer (some ⟨g, 0, none⟩)] w fun en w' => en = .returned (.tuple #[]) ∧ RS s win g h hp w' gB i i e ps ∧ Kp (On g) w w' := by
  obtain ⟨op, pc, ob, k, buf, H⟩ := H
  have ho := H.ord
  have hs := H.sz
  refine jsonparser_ReaderParser_discardConsumed.calls _ ?_
  unfold jsonparser_ReaderParser_discardConsumed.t
  refine s_ptr (s_load ((i - o : Nat) : Int) (by rw [addr_add, Nat.zero_add, H.rp.cell]; rfl) (s_iteE (fun h0 => s_leaf ?_) (fun h0 => s_drew ?_)))
  · have : o = i := by omega
    subst this
    exact ⟨rfl, rfl, ⟨op, pc, ob, k, buf, H⟩, Kp.refl _ _⟩
  have hpos : o < i := by omega
  have kd : Kp (On g) w w.drew := (Kp.refl _ w).drew
  have b1 : Blk w.drew g (rc h buf (o : Int) ((i - o : Nat) : Int) win (k : Int)) tRP := H.rp.drew
  generalize w.drew = w1 at kd b1
  refine s_ptr (s_load (o : Int) (by rw [addr_add, Nat.zero_add, b1.cell]; rfl) (s_ptr (s_load ((i - o : Nat) : Int) (by rw [addr_add, Nat.zero_add, b1.cell]; rfl) (s_ptr (s_store (by rw [addr_add, Nat.zero_add]; exact b1.cell 2) (by rw [addr_add, Nat.zero_add]; exact b1.free 2) ?_)))))
  have ew : IntKind.wrap IntKind.i64 ((o : Int) + ((i - o : Nat) : Int)) = (i : Int) := by rw [wrap_in (by omega) (by omega)]; omega
  rw [addr_add, Nat.zero_add, ew]
  have k2 := kd.on 2 (.int .i64 (i : Int))
  have b2 : Blk (w1.setCell ⟨g, 2, none⟩ (.int .i64 (i : Int))) g (rc h buf (i : Int) ((i - o : Nat) : Int) win (k : Int)) tRP := b1.set 2 (.int .i64 (i : Int))
  generalize w1.setCell ⟨g, 2, none⟩ (.int .i64 (i : Int)) = w2 at k2 b2
  refine s_drew ?_
  have k3 := k2.drew
  have b3 : Blk w2.drew g (rc h buf (i : Int) ((i - o : Nat) : Int) win (k : Int)) tRP := b2.drew
  generalize w2.drew = w3 at k3 b3
  have hl := H.len
  have hlc := H.lec
  refine s_ptr (s_load buf (by rw [addr_add, Nat.zero_add, b3.cell]; rfl) (s_ptr (s_load ((i - o : Nat) : Int) (by rw [addr_add, Nat.zero_add, b3.cell]; rfl) (s_chk ⟨by omega, by omega, by omega⟩ (s_ptr (s_store (by rw [addr_add, Nat.zero_add]; exact b3.cell 1) (by rw [addr_add, Nat.zero_add]; exact b3.free 1) ?_))))))
  rw [addr_add, Nat.zero_add, Int.toNat_natCast, Int.toNat_natCast, Nat.mul_one]
  have k4 := k3.on 1 (slV ((if buf.2.2 = i - o then buf.1 else buf.1.map fun y => y.add (i - o)), buf.2.1 - (i - o), buf.2.2 - (i - o)))
  have b4 : Blk (w3.setCell ⟨g, 1, none⟩ (slV ((if buf.2.2 = i - o then buf.1 else buf.1.map fun y => y.add (i - o)), buf.2.1 - (i - o), buf.2.2 - (i - o)))) g (rc h ((if buf.2.2 = i - o then buf.1 else buf.1.map fun y => y.add (i - o)), buf.2.1 - (i - o), buf.2.2 - (i - o)) (i : Int) ((i - o : Nat) : Int) win (k : Int)) tRP := b3.set 1 _
  show sat _ _ _ (w3.setCell ⟨g, 1, none⟩ (slV ((if buf.2.2 = i - o then buf.1 else buf.1.map fun y => y.add (i - o)), buf.2.1 - (i - o), buf.2.2 - (i - o))))
  generalize w3.setCell ⟨g, 1, none⟩ (slV ((if buf.2.2 = i - o then buf.1 else buf.1.map fun y => y.add (i - o)), buf.2.1 - (i - o), buf.2.2 - (i - o))) = w4 at k4 b4
  refine s_ptr (s_store (by rw [addr_add, Nat.zero_add]; exact b4.cell 3) (by rw [addr_add, Nat.zero_add]; exact b4.free 3) (s_leaf ?_))
  rw [addr_add, Nat.zero_add]
  have k5 := k4.on 3 (.int .i64 (0 : Int))
  have b5 : Blk (w4.setCell ⟨g, 3, none⟩ (.int .i64 (0 : Int))) g (rc h ((if buf.2.2 = i - o then buf.1 else buf.1.map fun y => y.add (i - o)), buf.2.1 - (i - o), buf.2.2 - (i - o)) (i : Int) (0 : Int) win (k : Int)) tRP := b4.set 3 (.int .i64 (0 : Int))
  have n1 := H.ne.2.2.2.1
  have hB := k5.block gB H.gl n1
  refine ⟨rfl, rfl, ⟨op, pc, ob + (i - o), k, _, by rw [Nat.sub_self]; exact b5, H.pr.kp k5 H.hpl (fun e => H.ne.1 (Eq.symm e)) (fun e => H.ne.2.1 (Eq.symm e)), by show buf.2.1 - (i - o) = _; omega, by show buf.2.1 - (i - o) ≤ buf.2.2 - (i - o); omega, by have := H.cap; show buf.2.2 - (i - o) ≤ _; omega, ?_, H.alt, ⟨Nat.le_refl _, ho.2.1, ho.2.2⟩, Nat.lt_of_lt_of_le H.hpl k5.size, Nat.lt_of_lt_of_le H.gl k5.size, H.ne, H.ct, H.wn, H.sz⟩, k5⟩
  rcases H.bf with h0 | ⟨h1, h2, h3⟩
  · omega
  by_cases hc : buf.2.2 = i - o
  · exact .inl (by show buf.2.2 - (i - o) = 0; omega)
  · refine .inr ⟨by show (if buf.2.2 = i - o then buf.1 else buf.1.map fun y => y.add (i - o)) = _; rw [if_neg hc, h1, Option.map_some, addr_add], fun j hj => ?_, fun j hj => ?_⟩
    · have h4 := h2 (i - o + j) (by omega)
      rw [show ob + (i - o) + j = ob + (i - o + j) by omega, World.cell?_of_block (a := ⟨gB, ob + (i - o + j), none⟩) hB, h4]
      rw [show o + (i - o + j) = i + j by omega]
    · have hj : j < buf.2.2 - (i - o) := hj
      have h4 := h3 (i - o + j) (by omega)
      rw [show ob + (i - o) + j = ob + (i - o + j) by omega]
      exact ⟨by rw [World.cell?_of_block (a := ⟨gB, ob + (i - o + j), none⟩) hB]; exact h4.1, (World.frozen?_of_block (a := ⟨gB, ob + (i - o + j), none⟩) hB).trans h4.2⟩
end Go.Proofs.YtlfebfkphgelfaaDoor.Yr
