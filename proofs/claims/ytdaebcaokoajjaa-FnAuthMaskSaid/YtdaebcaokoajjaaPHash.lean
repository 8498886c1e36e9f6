/- The plain laws of the hash: inputs that are joined, filled up, added. -/
import Derived.Test.YtdaebcaokoajjaaHBlock
namespace Go.Proofs.Ytdaebcaokoajjaa
open Go Go.RowKit Gf

def foldG (h : BitVec 128) (y : BitVec 128) (S : List (BitVec 128)) : BitVec 128 := S.foldl (fun y x => gmul (y ^^^ x) h) y
theorem yk_take (S : List (BitVec 128)) (h : BitVec 128) : ∀ k, k ≤ S.length → yk S h k = foldG h 0#128 (S.take k)
  | 0, _ => rfl
  | k + 1, hk => by
    have hlt : k < S.length := by omega
    show gmul (yk S h k ^^^ S.getD k 0#128) h = _
    rw [yk_take S h k (by omega), List.take_add_one, List.getElem?_eq_getElem hlt, List.getD_eq_getElem?_getD, List.getElem?_eq_getElem hlt]
    unfold foldG
    rw [Option.toList_some, List.foldl_append]
    rfl
theorem hashOf_fold (inp : List (List (BitVec 8))) (h : BitVec 128) : hashOf inp h = foldG h 0#128 (seqOf inp) := by
  unfold hashOf
  rw [yk_take _ _ _ (Nat.le_refl _), List.take_length]
theorem foldG_append (h y : BitVec 128) (S T : List (BitVec 128)) : foldG h y (S ++ T) = foldG h (foldG h y S) T := List.foldl_append

theorem blkAt_left (a b : List (BitVec 8)) (j : Nat) (hj : 16 * j + 16 ≤ a.length) : blkAt (a ++ b) j = blkAt a j := by
  unfold blkAt
  refine ofBytes_congr fun i hi => ?_
  rw [List.getD_eq_getElem?_getD, List.getD_eq_getElem?_getD, List.getElem?_append_left (by omega)]
theorem blkAt_right (a b : List (BitVec 8)) (m j : Nat) (ha : a.length = 16 * m) : blkAt (a ++ b) (m + j) = blkAt b j := by
  unfold blkAt
  refine ofBytes_congr fun i hi => ?_
  have e : 16 * (m + j) + i - a.length = 16 * j + i := by omega
  rw [List.getD_eq_getElem?_getD, List.getD_eq_getElem?_getD, List.getElem?_append_right (by omega), e]
theorem blksOf_append (a b : List (BitVec 8)) (m : Nat) (ha : a.length = 16 * m) : blksOf (a ++ b) = blksOf a ++ blksOf b := by
  have e1 : nb a.length = m := by unfold nb; omega
  have e2 : nb (a ++ b).length = m + nb b.length := by unfold nb; rw [List.length_append]; omega
  unfold blksOf
  rw [e1, e2, List.range_add, List.map_append, List.map_map]
  refine congr (congrArg _ ?_) ?_
  · refine List.map_congr_left fun j hj => ?_
    exact blkAt_left a b j (by have := List.mem_range.1 hj; omega)
  · refine List.map_congr_left fun j hj => ?_
    exact blkAt_right a b m j ha
theorem seq_single (a : List (BitVec 8)) : seqOf [a] = blksOf a := by simp [seqOf]
theorem seq_pair (a b : List (BitVec 8)) : seqOf [a, b] = blksOf a ++ blksOf b := by simp [seqOf]
theorem joined (a b : List (BitVec 8)) (m : Nat) (ha : a.length = 16 * m) (h : BitVec 128) : hashOf [a ++ b] h = hashOf [a, b] h := by
  rw [hashOf_fold, hashOf_fold, seq_single, seq_pair, blksOf_append a b m ha]
theorem horner (a : List (BitVec 8)) (x : BitVec 128) (m : Nat) (ha : a.length = 16 * m) (h : BitVec 128) : hashOf [a ++ bytesOf x] h = gmul (hashOf [a] h ^^^ x) h := by
  rw [hashOf_fold, hashOf_fold, seq_single, seq_single, blksOf_append a _ m ha, blksOf_bytesOf, foldG_append]
  rfl
theorem blksOf_fill (a : List (BitVec 8)) : blksOf (a ++ List.replicate ((16 - a.length % 16) % 16) 0#8) = blksOf a := by
  have e : nb (a ++ List.replicate ((16 - a.length % 16) % 16) 0#8).length = nb a.length := by
    unfold nb; rw [List.length_append, List.length_replicate]; omega
  unfold blksOf
  rw [e]
  refine List.map_congr_left fun j _ => ?_
  unfold blkAt
  refine ofBytes_congr fun i hi => ?_
  rw [List.getD_eq_getElem?_getD, List.getD_eq_getElem?_getD]
  by_cases hlt : 16 * j + i < a.length
  · rw [List.getElem?_append_left hlt]
  · rw [List.getElem?_append_right (by omega), List.getElem?_replicate, List.getElem?_eq_none (by omega : a.length ≤ 16 * j + i)]
    split <;> rfl
theorem filled (a b : List (BitVec 8)) (h : BitVec 128) : hashOf [a ++ List.replicate ((16 - a.length % 16) % 16) 0#8, b] h = hashOf [a, b] h := by
  rw [hashOf_fold, hashOf_fold, seq_pair, seq_pair, blksOf_fill]

theorem foldG_xor (h : BitVec 128) : ∀ (S T : List (BitVec 128)) (y z : BitVec 128), S.length = T.length → foldG h (y ^^^ z) (List.zipWith (· ^^^ ·) S T) = foldG h y S ^^^ foldG h z T
  | [], [], _, _, _ => rfl
  | [], _ :: _, _, _, h => by simp at h
  | _ :: _, [], _, _, h => by simp at h
  | s :: S, t :: T, y, z, hl => by
    show foldG h (gmul ((y ^^^ z) ^^^ (s ^^^ t)) h) (List.zipWith (· ^^^ ·) S T) = foldG h (gmul (y ^^^ s) h) S ^^^ foldG h (gmul (z ^^^ t) h) T
    rw [xor4, gmul_xor_left]
    exact foldG_xor h S T _ _ (by simpa using hl)
theorem blksOf_xor (a b : List (BitVec 8)) (hl : a.length = b.length) : blksOf (List.zipWith (· ^^^ ·) a b) = List.zipWith (· ^^^ ·) (blksOf a) (blksOf b) := by
  unfold blksOf
  rw [List.length_zipWith, ← hl, Nat.min_self, List.zipWith_map_left, List.zipWith_map_right]
  have hz : ∀ (l : List Nat), List.zipWith (fun j k => blkAt a j ^^^ blkAt b k) l l = l.map fun j => blkAt a j ^^^ blkAt b j := by
    intro l
    simp
  rw [hz]
  refine List.map_congr_left fun j _ => ?_
  refine bytes_ext fun i hi => ?_
  rw [byte_xor]
  unfold blkAt
  rw [byte_of _ i hi, byte_of _ i hi, byte_of _ i hi, List.getD_eq_getElem?_getD, List.getD_eq_getElem?_getD, List.getD_eq_getElem?_getD, List.getElem?_zipWith]
  by_cases hlt : 16 * j + i < a.length
  · rw [List.getElem?_eq_getElem hlt, List.getElem?_eq_getElem (by omega : 16 * j + i < b.length)]; rfl
  · rw [List.getElem?_eq_none (by omega : a.length ≤ 16 * j + i), List.getElem?_eq_none (by omega : b.length ≤ 16 * j + i)]; rfl
theorem hash_sum (a b : List (BitVec 8)) (hl : a.length = b.length) (h : BitVec 128) : hashOf [List.zipWith (· ^^^ ·) a b] h = hashOf [a] h ^^^ hashOf [b] h := by
  rw [hashOf_fold, hashOf_fold, hashOf_fold, seq_single, seq_single, seq_single, blksOf_xor a b hl]
  have := foldG_xor h (blksOf a) (blksOf b) 0#128 0#128 (by simp [blksOf, hl])
  rwa [BitVec.xor_zero] at this
end Go.Proofs.Ytdaebcaokoajjaa
