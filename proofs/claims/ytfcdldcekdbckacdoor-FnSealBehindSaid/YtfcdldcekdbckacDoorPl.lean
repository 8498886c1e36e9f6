/- A cipher in a block; rows cut and added (those parts of the other seat's texts that speak of no stream). -/
import Derived.Test.YtfcdldcekdbckacDoorGXor
import Derived.Test.YtfcdldcekdbckacDoorStruct
namespace Go.Proofs.YtfcdldcekdbckacDoor
open Go Go.RowKit Gf

/-- What the walks over a cipher need of the world. -/
structure CiphAt (T : Tab) (ks : List (BitVec 8)) (w : World) (B : Nat) : Prop where
  tab : TabAt T w
  key : KeyAt w B (rOf ks) (kOf T ks)
  isk : isKey ks
  low : nG ≤ B
theorem CiphAt.below {T : Tab} {ks : List (BitVec 8)} {w w' : World} {B n : Nat} (h : CiphAt T ks w B) (hb : Below n w w') (hn : B < n) : CiphAt T ks w' B :=
  ⟨h.tab.below hb (by have := h.low; omega), h.key.below hb hn, h.isk, h.low⟩
theorem CiphAt.keeps {T : Tab} {ks : List (BitVec 8)} {w w' : World} {B g : Nat} (h : CiphAt T ks w B) (hk : Keeps g w w') (hne : B ≠ g) (hg : nG ≤ g) : CiphAt T ks w' B := ⟨h.tab.keeps hk hg, h.key.keeps hk hne, h.isk, h.low⟩
theorem CiphAt.drewN {T : Tab} {ks : List (BitVec 8)} {w : World} {B : Nat} (h : CiphAt T ks w B) (n : Nat) : CiphAt T ks (w.drewN n) B := ⟨h.tab.drewN n, h.key.same rfl, h.isk, h.low⟩
theorem CiphAt.lt {T : Tab} {ks : List (BitVec 8)} {w : World} {B : Nat} (h : CiphAt T ks w B) : B < w.heap.size := h.key.lt
theorem RdL.blk {w : World} {S o : Nat} {x : BitVec 128} (h : RdL w S o (bytesOf x)) : RdBlk w S o x := fun i hi => h i _ (bytesOf_get x i hi)
theorem rdL_obj {w : World} {S o : Nat} {cs : Array Value} {t : TypeId} {fr : Nat × Nat} {bs : List (BitVec 8)} (h : objAt w S = some (.cells cs t fr)) (hb : BytesIn cs o bs) : RdL w S o bs := fun i x hx => (objAt_cell h _).trans (hb i x hx)
theorem cEnc_any {T : Tab} {ks : List (BitVec 8)} {B : Nat} (D od dn dc S os sn sc : Nat) (cs : Array Value) (tD : TypeId) (x : BitVec 128) (w : World) (hC : CiphAt T ks w B)
    (hD : objAt w D = some (.cells cs tD (0, 0))) (hroom : ByteRoom cs od 16) (hdn : 16 ≤ dn) (hdc : dn ≤ dc) (hsc : sn ≤ sc) (hdn2 : (dn : Int) ≤ 9223372036854775807) (hS : RdL w S os (bytesOf x)) (hsn : 16 ≤ sn) (hsn2 : (sn : Int) ≤ 9223372036854775807) :
    Calls Tryd.prog 34 #[.pointer (some ⟨B, 0, none⟩), .slice (some ⟨D, od, none⟩) dn dc, .slice (some ⟨S, os, none⟩) sn sc] w
      fun e w' => e = .returned (.tuple #[]) ∧ objAt w' D = some (.cells (putL cs od (bytesOf (ciph T ks x))) tD (0, 0)) ∧ Keeps D w w' :=
  encK_any T B (rOf ks) (kOf T ks) D od dn dc S os sn sc cs tD x w hC.tab hC.key (rOf_lo ks) (rOf_hi hC.isk) hD hroom hdn hdc hsc hdn2 hS.blk hsn hsn2
theorem cEncI_any {T : Tab} {ks : List (BitVec 8)} {B : Nat} (D od dn dc S os sn sc : Nat) (cs : Array Value) (tD : TypeId) (x : BitVec 128) (w : World) (hC : CiphAt T ks w B)
    (hD : objAt w D = some (.cells cs tD (0, 0))) (hroom : ByteRoom cs od 16) (hdn : 16 ≤ dn) (hdc : dn ≤ dc) (hsc : sn ≤ sc) (hdn2 : (dn : Int) ≤ 9223372036854775807) (hS : RdL w S os (bytesOf x)) (hsn : 16 ≤ sn) (hsn2 : (sn : Int) ≤ 9223372036854775807) :
    Calls Tryd.prog 28 #[.pointer (some ⟨B, 0, none⟩), .slice (some ⟨D, od, none⟩) dn dc, .slice (some ⟨S, os, none⟩) sn sc] w
      fun e w' => e = .returned (.tuple #[]) ∧ objAt w' D = some (.cells (putL cs od (bytesOf (ciph T ks x))) tD (0, 0)) ∧ Keeps D w w' :=
  encI_any T B (rOf ks) (kOf T ks) D od dn dc S os sn sc cs tD x w hC.tab hC.key (rOf_lo ks) (rOf_hi hC.isk) hD hroom hdn hdc hsc hdn2 hS.blk hsn hsn2
theorem xorL_drop (xs ys : List (BitVec 8)) (p : Nat) : (xorL xs ys).drop p = xorL (xs.drop p) (ys.drop p) := List.drop_zipWith
theorem xorL_take (xs ys : List (BitVec 8)) (p : Nat) : (xorL xs ys).take p = xorL (xs.take p) (ys.take p) := List.take_zipWith
/-- What stands there is put on. -/
theorem put_piece (cs : Array Value) (od p K : Nat) (R : List (BitVec 8)) (h : p + K ≤ R.length) : putL (putL cs od (R.take p)) (od + p) ((R.drop p).take K) = putL cs od (R.take (p + K)) := by
  have h2 := putL_append cs od (R.take p) ((R.drop p).take K)
  rw [List.length_take, Nat.min_eq_left (by omega)] at h2
  rw [h2, List.take_add]
theorem putL_get (cs : Array Value) (o : Nat) (bs : List (BitVec 8)) (i : Nat) (h : o + bs.length ≤ cs.size) : (putL cs o bs)[i]? = if o ≤ i ∧ i < o + bs.length then (bs[i - o]?).map (fun x => .int .u8 (n8 x)) else cs[i]? := by
  by_cases hi : o ≤ i ∧ i < o + bs.length
  · rw [if_pos hi]
    have e : bs[i - o]? = some (bs[i - o]'(by omega)) := List.getElem?_eq_getElem (by omega)
    have := putL_in cs o bs (i - o) _ e h
    rw [show o + (i - o) = i by omega] at this
    rw [this, e]; rfl
  · rw [if_neg hi, putL_out _ _ _ _ (by omega)]
/-- The address behind a cut at k: where nothing is left it may be the old one. -/
theorem if_addr (X x k cap m : Nat) (hk : k ≤ m) (hm : m ≤ cap) : ∃ x' : Nat, (if cap = k then some ({ block := X, off := x } : Addr) else some { block := X, off := x + k }) = some ⟨X, x', none⟩ ∧ (m - k = 0 ∨ x' = x + k) := by
  by_cases h : cap = k
  · exact ⟨x, by rw [if_pos h], .inl (by omega)⟩
  · exact ⟨x + k, by rw [if_neg h], .inr rfl⟩
theorem blk_zero16 : blk 0#128 = (bcells (List.replicate 16 0#8)).toArray := by rw [blk_bcells]; rfl
theorem take_min (l : List (BitVec 8)) (n : Nat) : l.take n = l.take (min n l.length) := by
  by_cases h : n ≤ l.length
  · rw [Nat.min_eq_left h]
  · rw [Nat.min_eq_right (by omega), List.take_of_length_le (by omega), List.take_of_length_le (Nat.le_refl _)]
theorem put_blk (x y : BitVec 128) : putL (blk x) 0 (bytesOf y) = blk y := by
  rw [blk_bcells, blk_bcells, putL_all _ _ (by rw [bytesOf_length, bytesOf_length])]
/-- A block is encrypted in its place. -/
theorem encX {T : Tab} {ks : List (BitVec 8)} {M : Nat} (X : Nat) (x : BitVec 128) (t : TypeId) (w : World) (hC : CiphAt T ks w M) (hX : objAt w X = some (.cells (blk x) t (0, 0))) :
    Calls Tryd.prog 28 #[.pointer (some ⟨M, 0, none⟩), .slice (some ⟨X, 0, none⟩) 16 16, .slice (some ⟨X, 0, none⟩) 16 16] w fun e w' => e = .returned (.tuple #[]) ∧ objAt w' X = some (.cells (blk (ciph T ks x)) t (0, 0)) ∧ Keeps X w w' := by
  have hr : ByteRoom (blk x) 0 16 := ⟨bytesOf x, bytesOf_length x, by rw [blk_bcells]; exact bytesIn_all _⟩
  refine (cEncI_any X 0 16 16 X 0 16 16 (blk x) t x w hC hX hr (by decide) (by decide) (by decide) (by decide) (rdL_obj hX (by rw [blk_bcells]; exact bytesIn_all _)) (by decide) (by decide)).mono fun e w' he => ?_
  obtain ⟨he, ho, hk⟩ := he
  refine ⟨he, ?_, hk⟩
  rw [ho, put_blk]
/-- How many are left: the round's measure. -/
def lenM : Value → Nat
  | .slice _ l _ => l
  | _ => 0
end Go.Proofs.YtfcdldcekdbckacDoor
