/- Variables off what is laid (the texts Lk of this repo put together). No statement of the set is proved here. -/
import Derived.Test.YtlfebfkphgelfaaGreatDoorLv
import Derived.Test.YtlfebfkphgelfaaGreatDoorWB
namespace Go.Proofs.YtlfebfkphgelfaaGreatDoor.Lv
open Go Go.Proofs Go.RowKit Go.Proofs.YtlfebfkphgelfaaGreatDoor.Rx Go.Proofs.YtlfebfkphgelfaaGreatDoor.Tr Go.Proofs.YtlfebfkphgelfaaGreatDoor.Pl Go.Proofs.YtlfebfkphgelfaaGreatDoor.Ut Go.Proofs.YtlfebfkphgelfaaGreatDoor.Uq Go.Proofs.YtlfebfkphgelfaaGreatDoor.Ql Go.Proofs.YtlfebfkphgelfaaGreatDoor.Je
open Go.ChangeShapes Go.WideShapes
theorem evK {w : World} {r : List (String × DataW Unit)} (h : laidMet Tryz.prog (("pub-tetrapla/pub/jsonparser.KeyPathNotFoundError", Rows.laid_pub_tetrapla_pub_jsonparser_KeyPathNotFoundError) :: r) w) : ∃ a, Ka.Ek w a := by
  obtain ⟨a, s, h, _⟩ := laid_sentinel h (g := Ka.gK) (by kernel_rfl) (by kernel_rfl : _ = some tE) Tryz.underlying61 type_errS Tryz.underlying153 Tryz.underlying155 rfl rfl Tryz.underlying9 (by kernel_rfl) (by kernel_rfl)
  exact ⟨_, World.var?_cell (by kernel_rfl) h 0⟩
end Go.Proofs.YtlfebfkphgelfaaGreatDoor.Lv
