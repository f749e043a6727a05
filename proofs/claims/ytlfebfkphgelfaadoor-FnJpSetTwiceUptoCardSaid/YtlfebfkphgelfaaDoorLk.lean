/- jsonparser's KeyPathNotFoundError, off what is laid. No statement of the set is proved here. -/
import Derived.Test.YtlfebfkphgelfaaDoorLv
import Derived.Test.YtlfebfkphgelfaaDoorKz
namespace Go.Proofs.YtlfebfkphgelfaaDoor.Lv
open Go Go.Proofs Go.RowKit Go.Proofs.YtlfebfkphgelfaaDoor.Rx Go.Proofs.YtlfebfkphgelfaaDoor.Tr Go.Proofs.YtlfebfkphgelfaaDoor.Pl Go.Proofs.YtlfebfkphgelfaaDoor.Ut Go.Proofs.YtlfebfkphgelfaaDoor.Uq Go.Proofs.YtlfebfkphgelfaaDoor.Ql Go.Proofs.YtlfebfkphgelfaaDoor.Je
open Go.ChangeShapes Go.WideShapes
theorem evK {w : World} {r : List (String × DataW Unit)} (h : laidMet Tryd.prog (("pub-tetrapla/pub/jsonparser.KeyPathNotFoundError", Rows.laid_pub_tetrapla_pub_jsonparser_KeyPathNotFoundError) :: r) w) : ∃ a, Ka.Ek w a := by
  obtain ⟨a, s, h, _⟩ := laid_sentinel h (g := Ka.gK) (by kernel_rfl) (by kernel_rfl : _ = some tE) Tryd.underlying51 type_errS Tryd.underlying156 Tryd.underlying158 rfl rfl Tryd.underlying9 (by kernel_rfl) (by kernel_rfl)
  exact ⟨_, World.var?_cell (by kernel_rfl) h 0⟩
end Go.Proofs.YtlfebfkphgelfaaDoor.Lv
