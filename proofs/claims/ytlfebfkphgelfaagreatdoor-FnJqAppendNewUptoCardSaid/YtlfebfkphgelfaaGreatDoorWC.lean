import Derived.Test.YtlfebfkphgelfaaGreatDoorWA
import Derived.Test.YtlfebfkphgelfaaGreatDoorWB
import Derived.Test.YtlfebfkphgelfaaGreatDoorMI
import Derived.Test.YtlfebfkphgelfaaGreatDoorTf
import Derived.Test.YtlfebfkphgelfaaGreatDoorTc
namespace Go.Proofs.YtlfebfkphgelfaaGreatDoor.Fk
open Go Rx Pl Pw Sk
open Gk (wfM_le bl_bl)
variable {s:ByteArray} {nm:Nat×Nat→ByteArray} {e:Nat} {key:ByteArray} {r:Nat}
end Go.Proofs.YtlfebfkphgelfaaGreatDoor.Fk
namespace Go.Proofs.YtlfebfkphgelfaaGreatDoor.Ed
open Go Go.Proofs Go.RowKit Rx Pl Pw Sk
open Ka (nmS ixS Led Mis)
open Lj (UniqN)
variable {s s':ByteArray} {A E:Nat}
end Go.Proofs.YtlfebfkphgelfaaGreatDoor.Ed
namespace Go.Proofs.YtlfebfkphgelfaaGreatDoor.Ed
open Go Go.Proofs Go.RowKit Rx Pl Pw Sk
variable {s:ByteArray}
end Go.Proofs.YtlfebfkphgelfaaGreatDoor.Ed
namespace Go.Proofs.YtlfebfkphgelfaaGreatDoor.Ed
open Go Go.Proofs Go.RowKit Rx Pl Pw Sk
open Ka (nmS ixS Led Mis)
open Lj (UniqN OnceP)
variable {s s':ByteArray} {A E:Nat}
end Go.Proofs.YtlfebfkphgelfaaGreatDoor.Ed
namespace Go.Proofs.YtlfebfkphgelfaaGreatDoor.Ka
open Go Go.Proofs Go.RowKit Rx Tr Pl Pw Sk
variable {w w' base:World} {x y:Sl} {u:ByteArray} {key:ByteArray} {z0 g3 T3 i r k:Nat}
end Go.Proofs.YtlfebfkphgelfaaGreatDoor.Ka
namespace Go.Proofs.YtlfebfkphgelfaaGreatDoor.Ka
open Go Go.Proofs Go.RowKit Rx Tr Pl Pw Sk
variable {w w' base:World} {x y:Sl} {u s:ByteArray} {key:ByteArray} {z0 g3 T3 i r k e:Nat}
end Go.Proofs.YtlfebfkphgelfaaGreatDoor.Ka
namespace Go.Proofs.YtlfebfkphgelfaaGreatDoor.Ka
open Go Go.Proofs Go.RowKit Rx Tr Pl Pw Sk
open Ed (mkB len_of mkB_size put put_size put_toList eq_of_list mkB_list)
variable {w w':World} {x y q:Sl} {s:ByteArray} {z0 A E:Nat}
end Go.Proofs.YtlfebfkphgelfaaGreatDoor.Ka
namespace Go.Proofs.YtlfebfkphgelfaaGreatDoor.Ka
open Go Go.Proofs Go.RowKit Rx Tr Pl Pw Sk
open Ed (mkB len_of mkB_size put put_size)
variable {w w':World} {x y q:Sl} {s:ByteArray} {z0 A E so n1 pe iN:Nat}
end Go.Proofs.YtlfebfkphgelfaaGreatDoor.Ka
namespace Go.Proofs.YtlfebfkphgelfaaGreatDoor.Ka
open Go Go.Proofs Go.RowKit Rx Tr Pl Pw Sk
open Ed (put put_size sh mvP mvL mvP_e obj_own Ag)
open Gk (Lead)
variable {w w':World} {x y q:Sl} {s:ByteArray} {z0:Nat}
variable {p0 p:PT} {ks1:List ByteArray} {k:ByteArray} {b r t jt:Nat} {ns:List (Nat×Nat)} {ks:List PT} {n:Nat×Nat} {f:Bool} {so eo:Nat}
end Go.Proofs.YtlfebfkphgelfaaGreatDoor.Ka
