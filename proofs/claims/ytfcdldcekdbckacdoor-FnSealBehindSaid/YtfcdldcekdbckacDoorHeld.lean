/- What is held over the calls of a region that draws: the blocks that it reads, and that nothing below has turned. -/
import Derived.Test.YtfcdldcekdbckacDoorBlk
import Derived.Lib.Hide
namespace Go.Proofs.YtfcdldcekdbckacDoor
open Go.RowKit Gf Lib
theorem held0 {w0 w w1 : World} (hb : Below w.heap.size w w1) (h : Hid (Below w0.heap.size w0 w)) : Hid (Below w0.heap.size w0 w1) := hid (h.out.trans (hb.mono h.out.size))
theorem held1 {w0 w w1 : World} {N : Nat} {o : Obj} (hb : Below w.heap.size w w1) (h : objAt w N = some o ∧ Hid (Below w0.heap.size w0 w)) :
    objAt w1 N = some o ∧ Hid (Below w0.heap.size w0 w1) := ⟨oa_below h.1 hb (oa_lt h.1), held0 hb h.2⟩
theorem held2 {w0 w w1 : World} {N N' : Nat} {o o' : Obj} (hb : Below w.heap.size w w1) (h : objAt w N = some o ∧ objAt w N' = some o' ∧ Hid (Below w0.heap.size w0 w)) :
    objAt w1 N = some o ∧ objAt w1 N' = some o' ∧ Hid (Below w0.heap.size w0 w1) := ⟨oa_below h.1 hb (oa_lt h.1), held1 hb h.2⟩
theorem held3 {w0 w w1 : World} {N N' N'' : Nat} {o o' o'' : Obj} (hb : Below w.heap.size w w1) (h : objAt w N = some o ∧ objAt w N' = some o' ∧ objAt w N'' = some o'' ∧ Hid (Below w0.heap.size w0 w)) :
    objAt w1 N = some o ∧ objAt w1 N' = some o' ∧ objAt w1 N'' = some o'' ∧ Hid (Below w0.heap.size w0 w1) := ⟨oa_below h.1 hb (oa_lt h.1), held2 hb h.2⟩
theorem held4 {w0 w w1 : World} {N N' N'' N3 : Nat} {o o' o'' o3 : Obj} (hb : Below w.heap.size w w1) (h : objAt w N = some o ∧ objAt w N' = some o' ∧ objAt w N'' = some o'' ∧ objAt w N3 = some o3 ∧ Hid (Below w0.heap.size w0 w)) :
    objAt w1 N = some o ∧ objAt w1 N' = some o' ∧ objAt w1 N'' = some o'' ∧ objAt w1 N3 = some o3 ∧ Hid (Below w0.heap.size w0 w1) := ⟨oa_below h.1 hb (oa_lt h.1), held3 hb h.2⟩
theorem start0 {w0 w : World} (hb : Below w0.heap.size w0 w) : Hid (Below w0.heap.size w0 w.drew) := hid hb.drew
end Go.Proofs.YtfcdldcekdbckacDoor
