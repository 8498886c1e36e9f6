/- The field of AES: the product of two bytes as the reference reckons it, the inverse, the S-box. Plain Lean, no program in sight. -/
import Derived.Test.YtaalpefdialjpaaDoorWd
namespace Go.Proofs.YtaalpefdialjpaaDoor
open Go.RowKit

def xtime (x : BitVec 8) : BitVec 8 := if 128 ≤ x.toNat then wxor (wshl x 1) 27#8 else wshl x 1
def curT (a : BitVec 8) : Nat → BitVec 8
  | 0 => a
  | k + 1 => xtime (curT a k)
def outT (a b : BitVec 8) : Nat → BitVec 8
  | 0 => 0#8
  | k + 1 => if b.getLsbD k then wxor (outT a b k) (curT a k) else outT a b k
def times (a b : BitVec 8) : BitVec 8 := outT a b 8
def invTo (a : BitVec 8) : Nat → BitVec 8
  | 0 => a
  | k + 1 => times (times (invTo a k) (invTo a k)) a
def invB (a : BitVec 8) : BitVec 8 := times (invTo a 6) (invTo a 6)
def turnB (a : BitVec 8) (n : Nat) : BitVec 8 := wor (wshl a n) (wshr a (8 - n))
def subB (a : BitVec 8) : BitVec 8 := wxor (wxor (wxor (wxor (wxor (invB a) (turnB (invB a) 1)) (turnB (invB a) 2)) (turnB (invB a) 3)) (turnB (invB a) 4)) 99#8
def powB : Nat → BitVec 8
  | 0 => 1#8
  | k + 1 => times (powB k) 2#8
end Go.Proofs.YtaalpefdialjpaaDoor
