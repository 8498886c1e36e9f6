/- Bytes added to what a counter of 32 bits is encrypted to; what turns two blocks. Plain. -/
import Derived.Test.YtfcdldcekdbckacDoorPl
import Derived.Test.YtfcdldcekdbckacDoorInc
import Derived.Test.YtfcdldcekdbckacDoorOwn2
namespace Go.Proofs.YtfcdldcekdbckacDoor
open Go Go.RowKit Gf

def incN (x : BitVec 128) : Nat → BitVec 128
  | 0 => x
  | k + 1 => inc4 (incN x k)
def gkL (E : BitVec 128 → BitVec 128) (x : BitVec 128) (n : Nat) : List (BitVec 8) := (List.range n).map fun i => byte (E (incN x (i / 16))) (i % 16)
theorem gkL_length (E : BitVec 128 → BitVec 128) (x : BitVec 128) (n : Nat) : (gkL E x n).length = n := by simp [gkL]
theorem gkL_get (E : BitVec 128 → BitVec 128) (x : BitVec 128) (n i : Nat) (h : i < n) : (gkL E x n)[i]? = some (byte (E (incN x (i / 16))) (i % 16)) := by simp [gkL, h]
/-- What bytes are encrypted to. -/
def gctr (E : BitVec 128 → BitVec 128) (x : BitVec 128) (bs : List (BitVec 8)) : List (BitVec 8) := xorL bs (gkL E x bs.length)
theorem gctr_length (E : BitVec 128 → BitVec 128) (x : BitVec 128) (bs : List (BitVec 8)) : (gctr E x bs).length = bs.length := by
  unfold gctr; rw [xorL_length, gkL_length, Nat.min_self]
theorem gkL_piece (E : BitVec 128 → BitVec 128) (x : BitVec 128) (n k K : Nat) (hK : K ≤ 16) (h : 16 * k + K ≤ n) : ((gkL E x n).drop (16 * k)).take K = (bytesOf (E (incN x k))).take K := by
  refine List.ext_getElem? fun i => ?_
  by_cases hi : i < K
  · rw [List.getElem?_take_of_lt hi, List.getElem?_take_of_lt hi, List.getElem?_drop, gkL_get _ _ _ _ (by omega), bytesOf_get _ _ (by omega), show (16 * k + i) / 16 = k by omega, show (16 * k + i) % 16 = i by omega]
  · rw [List.getElem?_eq_none (by rw [List.length_take]; omega), List.getElem?_eq_none (by rw [List.length_take]; omega)]
theorem gctr_piece (E : BitVec 128 → BitVec 128) (x : BitVec 128) (bs : List (BitVec 8)) (k K : Nat) (hK : K ≤ 16) (h : 16 * k + K ≤ bs.length) : (xorL (bs.drop (16 * k)) (bytesOf (E (incN x k)))).take K = ((gctr E x bs).drop (16 * k)).take K := by
  unfold gctr
  rw [xorL_drop, xorL_take, xorL_take, gkL_piece _ _ _ _ _ hK h]
/-- One block. -/
theorem gctr_zero (E : BitVec 128 → BitVec 128) (x : BitVec 128) : gctr E x (bytesOf 0#128) = bytesOf (E x) := by
  have h := gctr_piece E x (bytesOf 0#128) 0 16 (Nat.le_refl _) (by rw [bytesOf_length]; decide)
  rw [Nat.mul_zero, List.drop_zero, List.drop_zero] at h
  have e1 : (gctr E x (bytesOf 0#128)).take 16 = gctr E x (bytesOf 0#128) := List.take_of_length_le (by rw [gctr_length, bytesOf_length]; decide)
  have e2 : xorL (bytesOf 0#128) (bytesOf (E (incN x 0))) = bytesOf (E x) := by rw [xorL_bytes, BitVec.zero_xor]; rfl
  rw [e1, e2, List.take_of_length_le (by rw [bytesOf_length]; decide)] at h
  exact h.symm

/-! ### What turns two blocks -/
theorem Keeps2.refl (g h : Nat) (w : World) : Keeps2 g h w w := ⟨Below.refl _ _, Nat.le_refl _, fun _ _ _ _ => rfl⟩
theorem Keeps2.trans {g h : Nat} {a b c : World} (x : Keeps2 g h a b) (y : Keeps2 g h b c) : Keeps2 g h a c :=
  ⟨x.bel.trans y.bel, Nat.le_trans x.size y.size, fun k hk h1 h2 => (y.other k (Nat.lt_of_lt_of_le hk x.size) h1 h2).trans (x.other k hk h1 h2)⟩
theorem Keeps.left {g h : Nat} {a b : World} (x : Keeps g a b) : Keeps2 g h a b := ⟨x.bel.mono (Nat.min_le_left _ _), x.size, fun k hk h1 _ => x.other k hk h1⟩
theorem Keeps.right {g h : Nat} {a b : World} (x : Keeps h a b) : Keeps2 g h a b := ⟨x.bel.mono (Nat.min_le_right _ _), x.size, fun k hk _ h2 => x.other k hk h2⟩
theorem Keeps2.at_ {g h k : Nat} {a b : World} {o : Obj} (x : Keeps2 g h a b) (ho : objAt a k = some o) (h1 : k ≠ g) (h2 : k ≠ h) : objAt b k = some o := (x.other k (oa_lt ho) h1 h2).trans ho
theorem Keeps2.drewN {g h : Nat} {a b : World} (x : Keeps2 g h a b) (n : Nat) : Keeps2 g h a (b.drewN n) := ⟨bel_drewN x.bel n, x.size, x.other⟩
/-- What turns only what was made since. -/
theorem Keeps2.grow {g h n0 : Nat} {a b c : World} (x : Keeps2 g h a b) (y : Below n0 b c) (hg : g < a.heap.size) (_ : h < a.heap.size) (hn : a.heap.size ≤ n0) : Keeps2 g h a c :=
  ⟨x.bel.trans (y.mono (by omega)), Nat.le_trans x.size y.size, fun k hk h1 h2 => (y.block k (by omega)).trans (x.other k hk h1 h2)⟩
theorem Keeps2.below {g h n0 : Nat} {a b : World} (x : Keeps2 g h a b) (hg : n0 ≤ g) (hh : n0 ≤ h) : Below n0 a b := x.bel.mono (by omega)
theorem Keeps2.cell {g h : Nat} {a b : World} (x : Keeps2 g h a b) {k : Nat} (hk : k < a.heap.size) (h1 : k ≠ g) (h2 : k ≠ h) (o : Nat) : b.cell? ⟨k, o, none⟩ = a.cell? ⟨k, o, none⟩ := cell_same (x.other k hk h1 h2) o
theorem CiphAt.keeps2 {T : Tab} {ks : List (BitVec 8)} {w w' : World} {B g h : Nat} (c : CiphAt T ks w B) (hk : Keeps2 g h w w') (h1 : B ≠ g) (h2 : B ≠ h) (hg : nG ≤ g) (hh : nG ≤ h) : CiphAt T ks w' B :=
  ⟨c.tab.below hk.bel (by omega), c.key.same (hk.other B c.lt h1 h2), c.isk, c.low⟩
end Go.Proofs.YtfcdldcekdbckacDoor
