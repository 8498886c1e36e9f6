/- A code's block is made out of a cipher. -/
import Derived.Test.YtfcdldcekdbckaeDoorDrv
namespace Go.Proofs.YtfcdldcekdbckaeDoor
open Go Go.RowKit Gf

/-- A code's block as it is made: the cipher's words, two keys of zeros. -/
def macC (r : Nat) (K D : Nat → BitVec 32) : Array Value := kbl r K D ++ (bcells (List.replicate 32 0#8)).toArray
@[go_sem] theorem macC_size (r : Nat) (K D : Nat → BitVec 32) : (macC r K D).size = 153 := by simp [macC, kbl_size, bcells_length]
theorem macC_key (r : Nat) (K D : Nat → BitVec 32) : KeyC (macC r K D) r K := by
  have e : ∀ i, i < 121 → (macC r K D)[i]? = (kbl r K D)[i]? := fun i hi => by
    unfold macC
    rw [Array.getElem?_append_left (by rw [kbl_size]; exact hi)]
  exact ⟨by rw [e _ (by decide)]; rfl, fun i hi => by rw [e _ (by omega)]; exact kbl_k _ _ _ _ hi⟩
theorem macC_zero (r : Nat) (K D : Nat → BitVec 32) (i : Nat) (hi : i < 32) : (macC r K D)[121 + i]? = some (.int .u8 (n8 0#8)) := by
  unfold macC
  rw [Array.getElem?_append_right (by rw [kbl_size]; omega), kbl_size, Nat.add_sub_cancel_left, tA, bcells_get, List.getElem?_replicate_of_lt hi]
  rfl
theorem macC_k1 (r : Nat) (K D : Nat → BitVec 32) : BytesIn (macC r K D) 121 (bytesOf 0#128) := fun i x hx => by
  have hi : i < 16 := by have := (List.getElem?_eq_some_iff.1 hx).1; rwa [bytesOf_length] at this
  rw [bytesOf_get _ i hi, byte_zero] at hx
  obtain rfl := Option.some.inj hx
  exact macC_zero r K D i (by omega)
theorem macC_k2 (r : Nat) (K D : Nat → BitVec 32) : ByteRoom (macC r K D) 137 16 := ⟨List.replicate 16 0#8, List.length_replicate, fun i x hx => by
  have hi : i < 16 := by have := (List.getElem?_eq_some_iff.1 hx).1; rwa [List.length_replicate] at this
  rw [List.getElem?_replicate_of_lt hi] at hx
  obtain rfl := Option.some.inj hx
  have h := macC_zero r K D (16 + i) (by omega)
  rwa [← Nat.add_assoc] at h⟩
@[go_sem] theorem fold_mac (r : Nat) (K D : Nat → BitVec 32) : Array.foldl (fun (cs : Array Value) (x : Value × Nat) => cs.setIfInBounds x.snd x.fst) Tryd.zeroCells67 (kbl r K D).zipIdx 0 121 = macC r K D := by kernel_rfl

/-- A pointer to a new block of a code; nothing that was there has turned. -/
def MacP (T : Tab) (ks : List (BitVec 8)) (w : World) (e : Ending) (w' : World) : Prop :=
  ∃ M cs, e = .returned (.pointer (some ⟨M, 0, none⟩)) ∧ w.heap.size ≤ M ∧ objAt w' M = some (.cells cs 67 (0, 0)) ∧ KeyC cs (rOf ks) (kOf T ks) ∧ BytesIn cs 121 (bytesOf (k1Of (ciph T ks))) ∧ Below w.heap.size w w'
set_option maxRecDepth 100000 in
set_option maxHeartbeats 400000 in
theorem newMac_any (T : Tab) (ks : List (BitVec 8)) (B : Nat) (D : Nat → BitVec 32) (w : World) (hk : isKey ks) (hT : TabAt T w) (hB : objAt w B = some (.cells (kbl (rOf ks) (kOf T ks) D) 61 (0, 0))) :
    Calls Tryd.prog 18 #[.pointer (some ⟨B, 0, none⟩)] w (MacP T ks w) := by
  have hw1 : Below w.heap.size w (w.alloc (.cells (macC (rOf ks) (kOf T ks) D) 67)) := (Below.refl _ _).alloc (Nat.le_refl _) _
  have ho1 : objAt (w.alloc (.cells (macC (rOf ks) (kOf T ks) D) 67)) w.heap.size = some (.cells (macC (rOf ks) (kOf T ks) D) 67 (0, 0)) := objAt_alloc_at _ _ _ rfl
  have hG : nG ≤ w.heap.size := hT.sz
  have gD := derive_any T ks w.heap.size _ 67 _ ⟨hT.below hw1 hG, ⟨_, _, _, ho1, macC_key _ _ _⟩, hk, hG⟩ ho1 (macC_k1 _ _ _) (macC_k2 _ _ _)
  have GD := Lib.hid (gD.mono fun e w' he => (by
    obtain ⟨he, ⟨x, ho⟩, hkp⟩ := he
    refine (⟨he, _, ho, ?_, ?_, hw1.trans (hkp.bel.mono (by omega))⟩ : e = .returned (.tuple #[]) ∧ ∃ cs, objAt w' w.heap.size = some (.cells cs 67 (0, 0)) ∧ KeyC cs (rOf ks) (kOf T ks) ∧ BytesIn cs 121 (bytesOf (k1Of (ciph T ks))) ∧ Below w.heap.size w w')
    · have hq := macC_key (rOf ks) (kOf T ks) D
      have hb := bytesOf_length x
      have hb1 := bytesOf_length (k1Of (ciph T ks))
      exact ⟨by rw [putL_out _ _ _ _ (by omega), putL_out _ _ _ _ (by omega)]; exact hq.1, fun i hi => by rw [putL_out _ _ _ _ (by omega), putL_out _ _ _ _ (by omega)]; exact hq.2 i hi⟩
    · exact BytesIn.apart (BytesIn.put (by rw [bytesOf_length, macC_size]; decide)) (by rw [bytesOf_length]; omega)))
  clear gD hw1 ho1 hT hG
  unfold MacP
  generalize k1Of (ciph T ks) = k1 at *
  generalize kOf T ks = K at *
  generalize rOf ks = r at *
  go_enter Tryd.func18, Tryd.ntmps18
  go_wp2_with (go_at_call 25; (with_reducible refine GD.out.mono ?_); rintro e w2 ⟨rfl, hd2⟩; have HD2 := Lib.hid hd2; clear hd2)
  go_ret
  obtain ⟨cs, h1, h2, h3, h4⟩ := HD2.out
  exact ⟨_, cs, rfl, Nat.le_refl _, h1, h2, h3, h4⟩
end Go.Proofs.YtfcdldcekdbckaeDoor
