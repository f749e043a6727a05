/- The thin package's reader of pieces: Read. No statement of the set is proved here. -/
import Derived.Test.YtlfebfkphgelfaaDoorYa
import Derived.Test.YtlfebfkphgelfaaDoorTa
import Derived.Lib.LazyBuf
namespace Go.Proofs.YtlfebfkphgelfaaDoor.Yr
open Go Go.Proofs Go.RowKit Go.Proofs.YtlfebfkphgelfaaDoor.Rx Go.Proofs.YtlfebfkphgelfaaDoor.Tr Go.Proofs.YtlfebfkphgelfaaDoor.Pl Go.Proofs.YtlfebfkphgelfaaDoor.Pw
open Go.Proofs.YtlfebfkphgelfaaDoor.Sr (Sl slV)
open Go.Proofs.YtlfebfkphgelfaaDoor.Bw (bv gb bt_bv)

abbrev tPc : TypeId := 85
variable {w w' : World}
theorem kp_set (h : Nat) : ∀ (vs : List Value) (o : Nat) (w : World), Kp (On h) w (w.setCells h o vs)
  | [], o, w => Kp.refl _ w
  | v :: vs, o, w => by
    show Kp (On h) w ((w.setCell ⟨h, o, none⟩ v).setCells h (o + 1) vs)
    exact ((Kp.refl (On h) w).set (a := ⟨h, o, none⟩) rfl v).trans (kp_set h vs (o + 1) _)
/-- As many of a string's bytes as there is room for. -/
theorem copy_part {P : Program} (w : World) (dT sT ty elem : TypeId) (b o dLen dCap : Nat) (t : ByteArray) (hu : P.underlying dT = some (.slice elem)) (hz : ∀ w, (Go.sizeOf elem).run P w = .ok 1 w)
    (hc : ∀ j, j < Nat.min t.size dLen → (w.cell? ⟨b, o + j, none⟩).isSome = true) (hf : ∀ j, j < Nat.min t.size dLen → w.frozen? ⟨b, o + j, none⟩ = false) :
    (Builtin.copy_ #[dT, sT] ty #[.slice (some ⟨b, o, none⟩) dLen dCap, .string t]).run P w = .ok (goInt (Nat.min t.size dLen)) (w.setCells b o ((t.data.toList.map bv).take (Nat.min t.size dLen))) := by
  have hl : ((t.data.toList.map bv).take (Nat.min t.size dLen)).length = Nat.min t.size dLen := by
    rw [List.length_take, List.length_map, ← Lib.size_eq]
    have : Nat.min t.size dLen ≤ t.size := Nat.min_le_left _ _
    omega
  have hst := run_storeCells_cells (P := P) b o ((t.data.toList.map bv).take (Nat.min t.size dLen)) 0 w (by rw [hl]; simpa using hc) (by rw [hl]; simpa using hf) (by
    intro v hv
    obtain ⟨x, _, rfl⟩ := List.mem_map.1 (List.mem_of_mem_take hv)
    rfl)
  simp [Builtin.copy_, run_underlying hu, Builtin.lenOf, Builtin.firstCells, hz]
  have e : (List.map (fun b : UInt8 => Value.int IntKind.u8 (b.toNat : Int)) t.data.toList) = t.data.toList.map bv := rfl
  first
    | (rw [e, hst]; rfl)
    | (erw [hst]; rfl)
/-- A row of pieces. -/
def Pcs (w : World) (h hp op pc : Nat) (ps : List ByteArray) : Prop := Blk w h [.slice (some ⟨hp, op, none⟩) ps.length pc] tPc ∧ ps.length ≤ pc ∧ ∀ (j : Nat) (y : ByteArray), ps[j]? = some y → w.cell? ⟨hp, op + j, none⟩ = some (.string y) ∧ w.frozen? ⟨hp, op + j, none⟩ = false
theorem Pcs.kp {S : Nat → Prop} {h hp op pc : Nat} {ps : List ByteArray} (H : Pcs w h hp op pc ps) (k : Kp S w w') (hl : hp < w.heap.size) (h1 : ¬ S h) (h2 : ¬ S hp) : Pcs w' h hp op pc ps := by
  obtain ⟨a, b, c⟩ := H
  have hb := k.block hp hl h2
  exact ⟨k.blk a h1, b, fun j y hj => ⟨(World.cell?_of_block (a := ⟨hp, op + j, none⟩) hb).trans (c j y hj).1, (World.frozen?_of_block (a := ⟨hp, op + j, none⟩) hb).trans (c j y hj).2⟩⟩
theorem extract_empty {x : ByteArray} {n : Nat} : strEq (x.extract n x.size) (ByteArray.mk #[]) = true ↔ x.size ≤ n := by
  rw [strEq_iff]
  have hz : (x.extract n x.size).size = x.size - n := by rw [ByteArray.size_extract]; omega
  constructor
  · intro h
    rw [h] at hz
    have : (ByteArray.mk #[]).size = 0 := rfl
    omega
  · intro h
    apply ByteArray.ext
    apply Array.toList_inj.1
    have h0 : (x.extract n x.size).data.toList.length = 0 := by
      have : (x.extract n x.size).data.toList.length = (x.extract n x.size).size := by rw [← Lib.size_eq]
      omega
    exact List.eq_nil_of_length_eq_zero h0
theorem read_any {x : ByteArray} {ps : List ByteArray} {h hp op pc gB d bl bc : Nat} (hr : Pcs w h hp op pc (x :: ps)) (hhp : hp < w.heap.size) (hne : h ≠ hp) (hgh : gB ≠ h) (hgp : gB ≠ hp) (hgl : gB < w.heap.size)
    (hc : ∀ j, j < bl → (w.cell? ⟨gB, d + j, none⟩).isSome = true ∧ w.frozen? ⟨gB, d + j, none⟩ = false) :
    Calls Tryd.prog 134 #[.pointer (some ⟨h, 0, none⟩), .slice (some ⟨gB, d, none⟩) bl bc] w fun en w' => en = .returned (.tuple #[.int .i64 ((Nat.min x.size bl : Nat) : Int), .nilIface]) ∧ Kp (fun q => q = gB ∨ q = h ∨ q = hp) w w' ∧
      (∀ j, j < Nat.min x.size bl → w'.cell? ⟨gB, d + j, none⟩ = some (bv (x.data.toList.getD j 0))) ∧ (∀ j, j < d ∨ d + Nat.min x.size bl ≤ j → w'.cell? ⟨gB, j, none⟩ = w.cell? ⟨gB, j, none⟩) ∧ (∀ j, w'.frozen? ⟨gB, j, none⟩ = w.frozen? ⟨gB, j, none⟩) ∧
      ∃ (op' pc' : Nat) (ps' : List ByteArray), Pcs w' h hp op' pc' ps' ∧ ps' = (if x.size ≤ bl then ps else x.extract bl x.size :: ps) := by
  obtain ⟨hr1, hr2, hr3⟩ := hr
  have hlen : (x :: ps).length = ps.length + 1 := rfl
  generalize hn : Nat.min x.size bl = n
  have hnx : n ≤ x.size := by rw [← hn]; exact Nat.min_le_left _ _
  have hnb : n ≤ bl := by rw [← hn]; exact Nat.min_le_right _ _
  refine impl_pieceReader_Read.calls _ _ _ _ ?_
  unfold impl_pieceReader_Read.t
  refine s_ptr (s_load (some ⟨hp, op, none⟩, (x :: ps).length, pc) (by rw [addr_add, Nat.zero_add, hr1.cell]; rfl) (s_iteE (fun g => absurd g (by rw [hlen]; show ((ps.length + 1 : Nat) : Int) ≠ 0; omega)) (fun _ => ?_)))
  refine s_ptr (s_load (some ⟨hp, op, none⟩, (x :: ps).length, pc) (by rw [addr_add, Nat.zero_add, hr1.cell]; rfl) (s_chk ⟨by omega, by rw [hlen]; show (0 : Int) < ((ps.length + 1 : Nat) : Int); omega⟩ (s_ptr ?_)))
  obtain ⟨x1, x2⟩ := hr3 0 x rfl
  refine s_load x (by rw [addr_add]; exact x1) ?_
  have hcopy := copy_part (P := Tryd.prog) w 36 9 3 5 gB d bl bc x Tryd.underlying36 (fun w => by
    have hi := info_some (P := Tryd.prog) (t := 5) (by kernel_rfl)
    rw [run_size hi, show ((Tryd.prog.info? 5).get (by kernel_rfl)).size = 1 from by kernel_rfl]) (fun j hj => (hc j (by omega)).1) (fun j hj => (hc j (by omega)).2)
  rw [hn] at hcopy
  refine s_eff (n : Int) hcopy (s_drew ?_)
  -- the bytes
  have hml : ((x.data.toList.map bv).take n).length = n := by
    rw [List.length_take, List.length_map, ← Lib.size_eq]; omega
  have k1 : Kp (On gB) w (w.setCells gB d ((x.data.toList.map bv).take n)).drew := (kp_set gB _ d w).drew
  have hin : ∀ j, j < n → (w.setCells gB d ((x.data.toList.map bv).take n)).drew.cell? ⟨gB, d + j, none⟩ = some (bv (x.data.toList.getD j 0)) := fun j hj => by
    have h1 := World.cell?_setCells_in gB ((x.data.toList.map bv).take n) d w (fun i hi => (hc i (by omega)).1) j (by omega)
    show (w.setCells gB d ((x.data.toList.map bv).take n)).cell? ⟨gB, d + j, none⟩ = _
    rw [h1, List.getElem_take, List.getElem_map, List.getD_eq_getElem?_getD, List.getElem?_eq_getElem (by rw [← Lib.size_eq]; omega)]
    rfl
  have hout : ∀ j, j < d ∨ d + n ≤ j → (w.setCells gB d ((x.data.toList.map bv).take n)).drew.cell? ⟨gB, j, none⟩ = w.cell? ⟨gB, j, none⟩ := fun j hj =>
    World.cell?_setCells_out gB ((x.data.toList.map bv).take n) d w ⟨gB, j, none⟩ (fun _ _ => by rw [hml]; exact hj)
  have hfr : ∀ j, (w.setCells gB d ((x.data.toList.map bv).take n)).drew.frozen? ⟨gB, j, none⟩ = w.frozen? ⟨gB, j, none⟩ := fun j => World.frozen?_setCells gB _ d w ⟨gB, j, none⟩
  have r1 : Pcs (w.setCells gB d ((x.data.toList.map bv).take n)).drew h hp op pc (x :: ps) := Pcs.kp ⟨hr1, hr2, hr3⟩ k1 hhp (fun e => hgh (Eq.symm e)) (fun e => hgp (Eq.symm e))
  show sat _ _ _ (w.setCells gB d ((x.data.toList.map bv).take n)).drew
  generalize (w.setCells gB d ((x.data.toList.map bv).take n)).drew = w1 at k1 hin hout hfr r1
  obtain ⟨q1, q2, q3⟩ := r1
  have hhp1 := Nat.lt_of_lt_of_le hhp k1.size
  have hgl1 := Nat.lt_of_lt_of_le hgl k1.size
  refine s_ptr (s_load (some ⟨hp, op, none⟩, (x :: ps).length, pc) (by rw [addr_add, Nat.zero_add, q1.cell]; rfl) (s_ptr (s_load (some ⟨hp, op, none⟩, (x :: ps).length, pc) (by rw [addr_add, Nat.zero_add, q1.cell]; rfl) (s_chk ⟨by omega, by rw [hlen]; show (0 : Int) < ((ps.length + 1 : Nat) : Int); omega⟩ (s_ptr ?_)))))
  obtain ⟨y1, y2⟩ := q3 0 x rfl
  refine s_load x (by rw [addr_add]; exact y1) (s_chk ⟨by omega, by omega, Int.le_refl _⟩ (s_chk ⟨by omega, by rw [hlen]; show (0 : Int) < ((ps.length + 1 : Nat) : Int); omega⟩ (s_ptr (s_store (by rw [addr_add]; exact y1) (by rw [addr_add]; exact y2) ?_))))
  rw [addr_add, Nat.add_zero, Int.toNat_natCast, Int.toNat_natCast]
  -- what is left of the piece
  have k2 : Kp (On hp) w1 (w1.setCells hp op [.string (x.extract n x.size)]) := kp_set hp _ op w1
  have z1 : (w1.setCells hp op [.string (x.extract n x.size)]).cell? ⟨hp, op, none⟩ = some (.string (x.extract n x.size)) := by
    have := World.cell?_setCells_in hp [.string (x.extract n x.size)] op w1 (fun i hi => by
      have : i = 0 := by simpa using hi
      subst this; rw [y1]; rfl) 0 (by simp)
    simpa using this
  have z2 : ∀ j, (w1.setCells hp op [.string (x.extract n x.size)]).cell? ⟨hp, op + (j + 1), none⟩ = w1.cell? ⟨hp, op + (j + 1), none⟩ := fun j =>
    World.cell?_setCells_out hp [.string (x.extract n x.size)] op w1 ⟨hp, op + (j + 1), none⟩ (fun _ _ => .inr (by show op + 1 ≤ op + (j + 1); omega))
  have z3 : ∀ a, (w1.setCells hp op [.string (x.extract n x.size)]).frozen? a = w1.frozen? a := fun a => World.frozen?_setCells hp _ op w1 a
  have b2 := k2.blk q1 (fun e => hne e)
  show sat _ _ _ (w1.setCells hp op [.string (x.extract n x.size)])
  generalize w1.setCells hp op [.string (x.extract n x.size)] = w2 at k2 z1 z2 z3 b2
  have gB2 := k2.block gB hgl1 hgp
  have hk : Kp (fun q => q = gB ∨ q = h ∨ q = hp) w w2 := (k1.mono fun q _ e => .inl e).trans (k2.mono fun q _ e => .inr (.inr e))
  refine s_ptr (s_load (some ⟨hp, op, none⟩, (x :: ps).length, pc) (by rw [addr_add, Nat.zero_add, b2.cell]; rfl) (s_chk ⟨by omega, by rw [hlen]; show (0 : Int) < ((ps.length + 1 : Nat) : Int); omega⟩ (s_ptr (s_load (x.extract n x.size) (by rw [addr_add]; exact z1) (s_ite (fun g => ?_) (fun g => s_leaf ?_))))))
  · -- the piece is read
    have hxn := extract_empty.1 g
    have hxb : x.size ≤ bl := by omega
    refine s_ptr (s_load (some ⟨hp, op, none⟩, (x :: ps).length, pc) (by rw [addr_add, Nat.zero_add, b2.cell]; rfl) (s_chk ⟨by omega, by rw [hlen]; show (1 : Int) ≤ ((ps.length + 1 : Nat) : Int); omega, by show (((x :: ps).length : Nat) : Int) ≤ ((pc : Nat) : Int); omega⟩ (s_ptr (s_store (by rw [addr_add, Nat.zero_add]; exact b2.cell 0) (by rw [addr_add, Nat.zero_add]; exact b2.free 0) ?_))))
    rw [addr_add, Nat.zero_add]
    have k3 : Kp (On h) w2 (w2.setCell ⟨h, 0, none⟩ (slV ((if pc = 1 then some ⟨hp, op, none⟩ else Option.map (fun y22 : Addr => y22.add 1) (some ⟨hp, op, none⟩)), Int.toNat ((((x :: ps).length : Nat) : Int)) - 1, pc - 1))) := (Kp.refl _ w2).on 0 _
    have b3 := b2.set 0 (slV ((if pc = 1 then some ⟨hp, op, none⟩ else Option.map (fun y22 : Addr => y22.add 1) (some ⟨hp, op, none⟩)), Int.toNat ((((x :: ps).length : Nat) : Int)) - 1, pc - 1))
    show sat _ _ _ (w2.setCell ⟨h, 0, none⟩ (slV ((if pc = 1 then some ⟨hp, op, none⟩ else Option.map (fun y22 : Addr => y22.add 1) (some ⟨hp, op, none⟩)), Int.toNat ((((x :: ps).length : Nat) : Int)) - 1, pc - 1)))
    generalize w2.setCell ⟨h, 0, none⟩ (slV ((if pc = 1 then some ⟨hp, op, none⟩ else Option.map (fun y22 : Addr => y22.add 1) (some ⟨hp, op, none⟩)), Int.toNat ((((x :: ps).length : Nat) : Int)) - 1, pc - 1)) = w3 at k3 b3
    have gB3 := k3.block gB (Nat.lt_of_lt_of_le hgl1 k2.size) (fun e => hgh e)
    have hp3 := k3.block hp (Nat.lt_of_lt_of_le hhp1 k2.size) (fun e => hne (Eq.symm e))
    have gBB := gB3.trans gB2
    refine s_leaf ⟨rfl, rfl, hk.trans (k3.mono fun q _ e => .inr (.inl e)), fun j hj => by rw [World.cell?_of_block (a := ⟨gB, d + j, none⟩) gBB]; exact hin j hj, fun j hj => by rw [World.cell?_of_block (a := ⟨gB, j, none⟩) gBB]; exact hout j hj, fun j => by rw [World.frozen?_of_block (a := ⟨gB, j, none⟩) gBB]; exact hfr j, ?_⟩
    rw [if_pos hxb]
    have hl1 : Int.toNat ((((x :: ps).length : Nat) : Int)) - 1 = ps.length := by rw [Int.toNat_natCast]; rfl
    rw [hl1] at b3
    by_cases hp1 : pc = 1
    · rw [if_pos hp1] at b3
      have hps : ps = [] := List.eq_nil_of_length_eq_zero (by rw [hlen] at q2; omega)
      subst hps
      exact ⟨op, pc - 1, [], ⟨b3, Nat.zero_le _, fun j y hj => by simp at hj⟩, rfl⟩
    · rw [if_neg hp1] at b3
      refine ⟨op + 1, pc - 1, ps, ⟨b3, by rw [hlen] at q2; omega, fun j y hj => ?_⟩, rfl⟩
      obtain ⟨r1, r2⟩ := q3 (j + 1) y hj
      rw [show op + 1 + j = op + (j + 1) by omega]
      exact ⟨(World.cell?_of_block (a := ⟨hp, op + (j + 1), none⟩) hp3).trans ((z2 j).trans r1), (World.frozen?_of_block (a := ⟨hp, op + (j + 1), none⟩) hp3).trans ((z3 _).trans r2)⟩
  · have hxn : ¬ x.size ≤ n := fun e => by rw [extract_empty.2 e] at g; cases g
    have hxb : ¬ x.size ≤ bl := fun e => by
      have : Nat.min x.size bl = x.size := Nat.min_eq_left e
      omega
    have hnbl : n = bl := by rw [← hn]; exact Nat.min_eq_right (by omega)
    refine ⟨rfl, rfl, hk, fun j hj => by rw [World.cell?_of_block (a := ⟨gB, d + j, none⟩) gB2]; exact hin j hj, fun j hj => by rw [World.cell?_of_block (a := ⟨gB, j, none⟩) gB2]; exact hout j hj, fun j => by rw [World.frozen?_of_block (a := ⟨gB, j, none⟩) gB2]; exact hfr j, ?_⟩
    rw [if_neg hxb]
    refine ⟨op, pc, x.extract bl x.size :: ps, ⟨b2, q2, fun j y hj => ?_⟩, rfl⟩
    cases j with
    | zero =>
      simp only [List.getElem?_cons_zero, Option.some.injEq] at hj
      subst hj
      rw [← hnbl, Nat.add_zero]
      exact ⟨z1, (z3 _).trans y2⟩
    | succ j =>
      obtain ⟨r1, r2⟩ := q3 (j + 1) y hj
      exact ⟨(z2 j).trans r1, (z3 _).trans r2⟩
end Go.Proofs.YtlfebfkphgelfaaDoor.Yr
