/- jsonparser's variables, off what is laid; the keys' row, off the parameter. No statement of the set is proved here. -/
import Derived.Test.YtlfebfkphgelfaaDoorMI
import Derived.Test.YtlfebfkphgelfaaDoorRows
import Derived.Lib.LaidU8
import Derived.Lib.LaidTab
import Derived.Stop.LaidErr
import Derived.OpenShut
import Derived.Deep.Strs
namespace Go.Proofs.YtlfebfkphgelfaaDoor.Lv
open Go Go.Proofs Go.RowKit Go.Proofs.YtlfebfkphgelfaaDoor.Rx Go.Proofs.YtlfebfkphgelfaaDoor.Tr Go.Proofs.YtlfebfkphgelfaaDoor.Pl Go.Proofs.YtlfebfkphgelfaaDoor.Ut Go.Proofs.YtlfebfkphgelfaaDoor.Uq Go.Proofs.YtlfebfkphgelfaaDoor.Ql Go.Proofs.YtlfebfkphgelfaaDoor.Je
open Go.ChangeShapes Go.WideShapes

abbrev tE : TypeId := 51
abbrev tPE : TypeId := 156
abbrev tKs : TypeId := 22
theorem laidMet_drop {P : Program} {w : World} : ∀ (n : Nat) (l : List (String × DataW Unit)), laidMet P l w → laidMet P (l.drop n) w
  | 0, _, h => h
  | _ + 1, [], h => h
  | n + 1, _ :: r, h => laidMet_drop n r (laidMet.tail h)
theorem laid_of_H {P : Program} {l : List (String × DataW Unit)} {W : World} (h : laidMetH P l W) (hn : (l.filter fun x => x.2.handleName?.isSome) = []) : laidMet P l W := by
  unfold laidMetH at h; rw [hn] at h; exact h
/-- The letters' table. -/
def escL : List Int := (List.range 117).map fun (j : Nat) => if isX (j : Int) then ((sh (UInt8.ofNat j)).toNat : Int) else 0
theorem esc_eq : (Rows.laid_pub_tetrapla_pub_jsonparser_backslashCharEscapeTable : DataW Unit) = Lib.tabData .u8 escL := by kernel_rfl
theorem esc_at : ∀ j : Nat, j < 117 → isX (j : Int) = true → escL.getD j 0 = ((sh (UInt8.ofNat j)).toNat : Int) := by decide
noncomputable def fieldsOf (d : Option TypeDesc) : Array Field := match d with
  | some (.struct fs) => fs
  | _ => #[]
noncomputable def cfs : Array Field := fieldsOf (Tryd.prog.underlying tC)
theorem star : "*" ++ "errors.errorString" = "*errors.errorString" := by decide
theorem type_errS (u : TypeId) (h : Tryd.prog.typeName? 3 u = some "*errors.errorString") : u = tPE :=
  typeName_ptr_named (nm := "errors.errorString") (by rw [star]; kernel_rfl) (by kernel_rfl) (by decide) u (by rw [star]; exact h)
theorem lt_of {w : World} {r : List (String × DataW Unit)} (h : laidMet Tryd.prog (("pub-tetrapla/pub/jsonparser.backslashCharEscapeTable", Rows.laid_pub_tetrapla_pub_jsonparser_backslashCharEscapeTable) :: r) w) : Lt w := by
  rw [esc_eq] at h
  have ht := Lib.tabIs_of_head (g := gT) (by kernel_rfl) (by kernel_rfl : _ = some 133) Tryd.underlying133 Tryd.underlying5 (by kernel_rfl) (by kernel_rfl) h
  intro b hb
  have hlt : b.toNat < 117 := by have := isX_iff.1 hb; omega
  have := ht.cell (g := gT) (by kernel_rfl) b.toNat (by
    have : escL.length = 117 := by kernel_rfl
    omega)
  rw [esc_at b.toNat hlt hb, UInt8.ofNat_toNat] at this
  exact this
theorem evE {w : World} {r : List (String × DataW Unit)} (h : laidMet Tryd.prog (("pub-tetrapla/pub/jsonparser.MalformedStringEscapeError", Rows.laid_pub_tetrapla_pub_jsonparser_MalformedStringEscapeError) :: r) w) : Je.Ev w Je.gE := by
  obtain ⟨a, s, h, _⟩ := laid_sentinel h (g := Je.gE) (by kernel_rfl) (by kernel_rfl : _ = some tE) Tryd.underlying51 type_errS Tryd.underlying156 Tryd.underlying158 rfl rfl Tryd.underlying9 (by kernel_rfl) (by kernel_rfl)
  exact ⟨_, _, World.var?_cell (by kernel_rfl) h 0⟩
theorem evA {w : World} {r : List (String × DataW Unit)} (h : laidMet Tryd.prog (("pub-tetrapla/pub/jsonparser.MalformedArrayError", Rows.laid_pub_tetrapla_pub_jsonparser_MalformedArrayError) :: r) w) : Je.Ev w Ka.gA := by
  obtain ⟨a, s, h, _⟩ := laid_sentinel h (g := Ka.gA) (by kernel_rfl) (by kernel_rfl : _ = some tE) Tryd.underlying51 type_errS Tryd.underlying156 Tryd.underlying158 rfl rfl Tryd.underlying9 (by kernel_rfl) (by kernel_rfl)
  exact ⟨_, _, World.var?_cell (by kernel_rfl) h 0⟩
theorem cv_of {w : World} {r : List (String × DataW Unit)} (h : laidMet Tryd.prog (("pub-tetrapla/pub/jsonparser.DefaultConfig", Rows.laid_pub_tetrapla_pub_jsonparser_DefaultConfig) :: r) w) : Cv w := by
  obtain ⟨g, t, cs, fuel, p, hg, ht, hv, hd⟩ := Lib.laidMet.reads h (.head _)
  have hg2 : Tryd.prog.globalNamed "pub-tetrapla/pub/jsonparser.DefaultConfig" = some gC := by kernel_rfl
  have ht2 : (Tryd.prog.globals[gC]?).map (·.type) = some tC := by kernel_rfl
  obtain rfl := Option.some.inj (hg.symm.trans hg2)
  obtain rfl := Option.some.inj (ht.symm.trans ht2)
  have hu : Tryd.prog.underlying tC = some (.struct cfs) := by kernel_rfl
  obtain ⟨xs, n, rfl, hx, hl, hxl, hall⟩ := DataW.trod_struct hu hd
  have hxs : xs.map (·.1) = [.lit (.bool false), .lit (.bool false), .lit (.int .i64 0)] := by
    have e : (DataW.agg [.lit (.bool false), .lit (.bool false), .lit (.int .i64 0)] : DataW Unit) = .agg (xs.map (·.1)) := congrArg Prod.fst hx
    exact (DataW.agg.inj e).symm
  have fld : ∀ (i : Nat) (ty : TypeId) (off : Nat) (d : DataW Unit), (cfs[i]?).map (fun f => (f.type, f.offset)) = some (ty, off) → (xs.map (·.1))[i]? = some d → ∃ q, DataW.trod (fun _ => ()) Tryd.prog w 0 (fun _ => true) false n ty ((cs.toList.drop off).take (Tryd.prog.cellsOf ty)) = some (d, q) := by
    intro i ty off d h1 h2
    obtain ⟨f, hf, e⟩ := Option.map_eq_some_iff.1 h1
    cases e
    have h3 := hall i f hf
    rw [List.getElem?_map] at h2
    obtain ⟨b, hb, rfl⟩ := Option.map_eq_some_iff.1 h2
    rw [hb] at h3
    exact ⟨b.2, h3⟩
  have hl : cs.toList.length = 3 := hl.trans (by kernel_rfl)
  obtain ⟨q0, h0⟩ := fld 0 4 0 (.lit (.bool false)) (by kernel_rfl) (by rw [hxs]; rfl)
  obtain ⟨q1, h1⟩ := fld 1 4 1 (.lit (.bool false)) (by kernel_rfl) (by rw [hxs]; rfl)
  obtain ⟨q2, h2⟩ := fld 2 3 2 (.lit (.int .i64 0)) (by kernel_rfl) (by rw [hxs]; rfl)
  obtain ⟨b0, e0, x0⟩ := DataW.trod_bool Tryd.underlying4 h0
  obtain ⟨b1, e1, x1⟩ := DataW.trod_bool Tryd.underlying4 h1
  obtain ⟨b2, e2, x2, _⟩ := DataW.trod_int Tryd.underlying3 h2
  have cB : Tryd.prog.cellsOf 4 = 1 := by kernel_rfl
  have cI : Tryd.prog.cellsOf 3 = 1 := by kernel_rfl
  rw [cB] at e0 e1
  rw [cI] at e2
  cases x0; cases x1; cases x2
  have hcs : cs.toList = cfg := by
    match hc : cs.toList, hl with
    | [a, b, c], _ =>
      rw [hc] at e0 e1 e2
      have e0 : [a] = [Value.bool false] := e0
      have e1 : [b] = [Value.bool false] := e1
      have e2 : [c] = [Value.int .i64 0] := e2
      cases e0; cases e1; cases e2; rfl
  intro j v hj
  have := World.var?_cell hg2 hv j
  rw [this, ← Array.getElem?_toList, hcs]; exact hj
set_option maxRecDepth 100000 in
/-- A row of strings, off a parameter. -/
theorem keys_open {H : Type} {enc : TypeId × Value → H} {W : World} {base : Nat} {spare : Nat → Bool} {held : Bool} {r : Reach} {b0 : Nat} {v : Value} {d : DataW H} {p : List MemPlace}
    (hv : Value.okWide Tryd.prog W r b0 tKs v) (h : DataW.Trod enc Tryd.prog W base spare held tKs v d p) : ∃ (q : Ka.Sl) (keys : List ByteArray), v = Ka.slV q ∧ Ka.Kx W q keys := by
  have hw := okWide_slice (P := Tryd.prog) (t := tKs) (e := 9) Tryd.underlying22 hv
  obtain ⟨a, len, cap, rfl⟩ := hw
  obtain ⟨fuel, hf⟩ := h
  rcases Deep.open_strs Tryd.underlying22 Tryd.underlying9 (by kernel_rfl) hf with ⟨h1, _⟩ | ⟨a', len', cap', m, Sx, h1, _, h3, h4, h5, _, h7⟩
  · have h1 : [Value.slice a len cap] = [.slice none 0 0] := h1
    cases h1
    exact ⟨(none, 0, 0), [], rfl, ⟨rfl, Nat.le_refl _, .inl rfl⟩⟩
  · have h1 : [Value.slice a len cap] = [.slice (some a') len' cap'] := h1
    cases h1
    have hlm : len ≤ m := by rw [h5]; split <;> omega
    refine ⟨(some a', len, cap), (List.range len).map Sx, rfl, ⟨by simp, h3, ?_⟩⟩
    rcases Nat.eq_zero_or_pos len with h0 | h0
    · left; subst h0; rfl
    · right
      obtain ⟨b, off, spot⟩ := a'
      have hspot : spot = none := by simpa [Addr.add] using World.cell?_spot (h7 0 (by omega)).1
      subst hspot
      have hc0 := (h7 0 (by omega)).1
      rw [addr_add] at hc0
      refine ⟨b, off, rfl, Ms.cell_lt hc0, fun j key hj => ?_⟩
      have hjl := (List.getElem?_eq_some_iff.1 hj).1
      rw [List.length_map, List.length_range] at hjl
      rw [List.getElem?_map, List.getElem?_range hjl] at hj
      cases hj
      have := (h7 j (by omega)).1
      rw [addr_add] at this
      exact this
end Go.Proofs.YtlfebfkphgelfaaDoor.Lv
