/- The tables of unicode/utf8 and its decoder (the first part of XMs). No statement of the set is proved here. -/
import Derived.Test.YtbmmpnjpejamaaaDoorUt
import Derived.Test.YtbmmpnjpejamaaaDoorSh
import Derived.Test.YtbmmpnjpejamaaaDoorTr
namespace Go.Proofs.YtbmmpnjpejamaaaDoor.Ms
open Go Go.Proofs Go.RowKit Go.Proofs.YtbmmpnjpejamaaaDoor.Rx Go.Proofs.YtbmmpnjpejamaaaDoor.Tr Go.Proofs.YtbmmpnjpejamaaaDoor.Pl Go.Proofs.YtbmmpnjpejamaaaDoor.Ut

def g1 : Nat := 2
def g2 : Nat := 3
def Tb (w : World) : Prop := Lib.Utf8Tabs g1 g2 w
theorem cell_lt {w : World} {a : Addr} {v : Value} (h : w.cell? a = some v) : a.block < w.heap.size := by
  rcases Nat.lt_or_ge a.block w.heap.size with g | g
  · exact g
  · unfold World.cell? at h; rw [Array.getElem?_eq_none g] at h; cases h
theorem Tb.kp {S : Nat → Prop} {w w' : World} (h : Tb w) (k : Kp S w w') (h1 : ¬ S g1) (h2 : ¬ S g2) : Tb w' := by
  refine ⟨fun c hc => ?_, fun i hi => ?_⟩
  · have := h.1 c hc
    rw [k.cell (cell_lt this) h1]; exact this
  · have := h.2 i hi
    rw [k.cell (cell_lt this.1) h2, k.cell (cell_lt this.2) h2]; exact this
theorem Tb.off {w w' : World} (h : Tb w) (k : Kp Off w w') : Tb w' := h.kp k id id
theorem decode_any {s : ByteArray} {w : World} (hT : Tb w) (hs : 0 < s.size) : Calls Tryd.prog 65 #[.string s] w fun e w' => e = .returned (.tuple #[.int .i32 ((dc s 0).1 : Nat), .int .i64 ((dc s 0).2 : Nat)]) ∧ Kp Off w w' := by
  refine Calls.mono (Tryd.utf8_DecodeRuneInString s w hT) ?_
  rintro e w' ⟨rfl, hb⟩
  rw [go_dc hs]
  exact ⟨rfl, Kp.of_below hb⟩
theorem decode_nil {w : World} (hT : Tb w) : Calls Tryd.prog 65 #[.string (ByteArray.mk #[])] w fun e w' => e = .returned (.tuple #[.int .i32 65533, .int .i64 0]) ∧ Kp Off w w' := by
  refine Calls.mono (Tryd.utf8_DecodeRuneInString _ w hT) ?_
  rintro e w' ⟨rfl, hb⟩
  exact ⟨rfl, Kp.of_below hb⟩
end Go.Proofs.YtbmmpnjpejamaaaDoor.Ms
