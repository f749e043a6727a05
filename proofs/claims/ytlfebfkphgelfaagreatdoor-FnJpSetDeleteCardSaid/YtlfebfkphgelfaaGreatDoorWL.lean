import Derived.Test.YtlfebfkphgelfaaGreatDoorLv
import Derived.Test.YtlfebfkphgelfaaGreatDoorWB
namespace Go.Proofs.YtlfebfkphgelfaaGreatDoor.Lv
open Go Go.Proofs Go.RowKit Rx Tr Pl Ut Uq Ql Je
open Go.ChangeShapes Go.WideShapes
theorem evK {w : World} {r : List (String × DataW Unit)} (h : laidMet Tryz.prog (("pub-tetrapla/pub/jsonparser.KeyPathNotFoundError", Rows.laid_pub_tetrapla_pub_jsonparser_KeyPathNotFoundError) :: r) w) : ∃ a, Ka.Ek w a := by
  obtain ⟨a,s,h,_⟩:=laid_sentinel h (g:=Ka.gK) (by kernel_rfl) (by kernel_rfl:_=some tE) Tryz.underlying61 type_errS Tryz.underlying153 Tryz.underlying155 rfl rfl Tryz.underlying9 (by kernel_rfl) (by kernel_rfl)
  exact ⟨_,World.var?_cell (by kernel_rfl) h 0⟩
end Go.Proofs.YtlfebfkphgelfaaGreatDoor.Lv
