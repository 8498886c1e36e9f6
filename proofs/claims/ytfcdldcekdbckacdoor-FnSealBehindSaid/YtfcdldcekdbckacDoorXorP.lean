/- Two rows of bytes added; bytes of a word (those parts of the other seat's texts that walk through nothing). -/
import Derived.Test.YtfcdldcekdbckacDoorNew
namespace Go.Proofs.YtfcdldcekdbckacDoor
open Go Go.RowKit Gf

def w8 (v : BitVec 64) (i : Nat) : BitVec 8 := wext 8 (wshr v (56 - 8 * i))
def be64 (v : BitVec 64) : List (BitVec 8) := (List.range 8).map (w8 v)
theorem be64_length (v : BitVec 64) : (be64 v).length = 8 := by simp [be64]
theorem w8_shift (v : BitVec 64) (k : Nat) : IntKind.u8.wrap (n64 v / 2 ^ (56 - 8 * k)) = n8 (w8 v k) := by
  rw [shr64_k, u8_n64]; rfl
def xorL (xs ys : List (BitVec 8)) : List (BitVec 8) := List.zipWith (fun a b => a ^^^ b) xs ys
theorem xorL_length (xs ys : List (BitVec 8)) : (xorL xs ys).length = min xs.length ys.length := by simp [xorL]
theorem xorL_get (xs ys : List (BitVec 8)) (i : Nat) (x y : BitVec 8) (hx : xs[i]? = some x) (hy : ys[i]? = some y) : (xorL xs ys)[i]? = some (x ^^^ y) := by
  unfold xorL
  rw [List.getElem?_zipWith, hx, hy]
/-- Bytes stand in memory. -/
def RdL (w : World) (X o : Nat) (xs : List (BitVec 8)) : Prop := ∀ (i : Nat) (x : BitVec 8), xs[i]? = some x → w.cell? ⟨X, o + i, none⟩ = some (.int .u8 (n8 x))
theorem rd_put {w wr : World} {D X j od : Nat} {cs : Array Value} {tD : TypeId} {l : List (BitVec 8)} {v : Value} (hD : objAt w D = some (.cells cs tD (0, 0))) (hr : objAt wr D = some (.cells (putL cs od l) tD (0, 0))) (hK : Keeps D w wr)
    (h : w.cell? ⟨X, j, none⟩ = some v) (hap : X ≠ D ∨ j < od ∨ od + l.length ≤ j) : wr.cell? ⟨X, j, none⟩ = some v := by
  by_cases e : X = D
  · subst e
    rw [objAt_cell hr, putL_out _ _ _ _ (hap.resolve_left (by simp)), ← h, objAt_cell hD]
  · rw [hK.cell (block_lt_of_cell h) e]; exact h
theorem RdL.kept {w wr : World} {D X o od : Nat} {cs : Array Value} {tD : TypeId} {l xs : List (BitVec 8)} (h : RdL w X o xs) (hD : objAt w D = some (.cells cs tD (0, 0))) (hr : objAt wr D = some (.cells (putL cs od l) tD (0, 0))) (hK : Keeps D w wr)
    (hap : X ≠ D ∨ o + xs.length ≤ od ∨ od + l.length ≤ o) : RdL wr X o xs := fun i x hx => by
  have hi : i < xs.length := (List.getElem?_eq_some_iff.1 hx).1
  exact rd_put hD hr hK (h i x hx) (by omega)
theorem putL_step (cs : Array Value) (o k : Nat) (l : List (BitVec 8)) (x : BitVec 8) (h : l[k]? = some x) : (putL cs o (l.take k)).setIfInBounds (o + k) (.int .u8 (n8 x)) = putL cs o (l.take (k + 1)) := by
  have hk : k < l.length := (List.getElem?_eq_some_iff.1 h).1
  have h2 := putL_append cs o (l.take k) [x]
  rw [List.length_take, Nat.min_eq_left (by omega)] at h2
  have e : l.take (k + 1) = l.take k ++ [x] := by
    rw [List.take_add_one, h]; rfl
  rw [e, ← h2]; rfl
theorem xorL_bytes (x y : BitVec 128) : xorL (bytesOf x) (bytesOf y) = bytesOf (x ^^^ y) := by
  refine List.ext_getElem? fun i => ?_
  by_cases hi : i < 16
  · rw [xorL_get _ _ i _ _ (bytesOf_get x i hi) (bytesOf_get y i hi), bytesOf_get _ i hi, byte_xor]
  · rw [List.getElem?_eq_none (by rw [xorL_length, bytesOf_length, bytesOf_length]; omega), List.getElem?_eq_none (by rw [bytesOf_length]; omega)]
end Go.Proofs.YtfcdldcekdbckacDoor
