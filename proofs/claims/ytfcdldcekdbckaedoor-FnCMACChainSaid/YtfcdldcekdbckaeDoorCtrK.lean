/- One, two, four, eight blocks in counter mode. -/
import Derived.Test.YtfcdldcekdbckaeDoorCtrB
namespace Go.Proofs.YtfcdldcekdbckaeDoor
open Go Go.RowKit Gf

set_option maxHeartbeats 2000000 in
theorem ctr1_any (T : Tab) (ks : List (BitVec 8)) (B D od S os : Nat) (cs : Array Value) (bs : List (BitVec 8)) (tD : TypeId) (c : BitVec 128) (w : World) (hC : CiphAt T ks w B) (hbs : bs.length = 16)
    (hD : objAt w D = some (.cells cs tD (0, 0))) (hroom : ByteRoom cs od 16) (hS : RdL w S os bs) :
    Calls Tryd.prog 30 #[.pointer (some ⟨B, 0, none⟩), .pointer (some ⟨D, od, none⟩), .pointer (some ⟨S, os, none⟩), .int .u64 (n64 (loOf c)), .int .u64 (n64 (hiOf c))] w
      fun e w' => e = .returned (.tuple #[]) ∧ objAt w' D = some (.cells (putL cs od (xorL bs (ksL (ciph T ks) c 0 16))) tD (0, 0)) ∧ Keeps D w w' := by
  have hSl : S < w.heap.size := block_lt_of_cell (hS 0 _ (List.getElem?_eq_getElem (by omega)))
  have g := fun m => ctrBl_any T ks B D od 16 S os 16 1 cs bs tD c (w.drewN m) (hC.drewN m) (by decide) (by omega) (by decide) (oa_drewN hD m) (by rw [hbs]; exact hroom) hS hSl
  rw [hbs] at g
  have G := Lib.hid g
  clear g hC hD hroom hS
  go_enter Tryd.func30, Tryd.ntmps30
  go_wp2
  refine wp_region_chain (l := [_, _, _, _, _, _, _, _, _, _]) (fun _ => True) (fun w' => ∃ m, w' = w.drewN m) (by kernel_rfl) (by kernel_rfl) ⟨1, rfl⟩ (fun _ _ => trivial) ?_
  iterate 9 (refine chain_val (v := ?_) (by rfl) ?_ ?_; rotate_left; (focus (intro w2 b2; (try obtain ⟨m2, rfl⟩ := b2); go_simp; (try with_reducible rfl); done)); simp only [Act.put, List.setIfInBounds_toArray, List.set_cons_zero, List.set_cons_succ])
  refine chain_call (fun w' => objAt w' D = some (.cells (putL cs od (xorL bs (ksL (ciph T ks) c 0 16))) tD (0, 0)) ∧ Keeps D w w') (v := .tuple #[]) (f := 40)
    (args := #[.pointer (some ⟨B, 0, none⟩), .slice (some ⟨D, od, none⟩) 16 16, .slice (some ⟨S, os, none⟩) 16 16, .int .u64 (n64 (loOf c)), .int .u64 (n64 (hiOf c))]) rfl (by rfl) (fun _ _ => trivial) (fun w2 b2 => (by go_simp; done))
    (fun w2 b2 => (by
      obtain ⟨m2, rfl⟩ := b2
      refine (G.out m2).mono fun e w' he => ?_
      obtain ⟨he, ho, hk⟩ := he
      exact ⟨he, ho, (keeps_drewN (Keeps.refl D w) m2).trans hk⟩)) ?_
  simp only [Act.put, List.setIfInBounds_toArray, List.set_cons_zero, List.set_cons_succ]
  refine chain_nil fun w4 b4 => ?_
  obtain ⟨ho4, hk4⟩ := b4
  have HO4 := Lib.hid ho4
  have HK4 := Lib.hid hk4
  clear ho4 hk4
  go_wp2
  exact bodyPost_end (v := .tuple #[]) (by simp [results, Tryd.results30, go_sem]) rfl ⟨rfl, HO4.out, HK4.out⟩

set_option maxHeartbeats 2000000 in
theorem ctr2_any (T : Tab) (ks : List (BitVec 8)) (B D od S os : Nat) (cs : Array Value) (bs : List (BitVec 8)) (tD : TypeId) (c : BitVec 128) (w : World) (hC : CiphAt T ks w B) (hbs : bs.length = 32)
    (hD : objAt w D = some (.cells cs tD (0, 0))) (hroom : ByteRoom cs od 32) (hS : RdL w S os bs) :
    Calls Tryd.prog 33 #[.pointer (some ⟨B, 0, none⟩), .pointer (some ⟨D, od, none⟩), .pointer (some ⟨S, os, none⟩), .int .u64 (n64 (loOf c)), .int .u64 (n64 (hiOf c))] w
      fun e w' => e = .returned (.tuple #[]) ∧ objAt w' D = some (.cells (putL cs od (xorL bs (ksL (ciph T ks) c 0 32))) tD (0, 0)) ∧ Keeps D w w' := by
  have hSl : S < w.heap.size := block_lt_of_cell (hS 0 _ (List.getElem?_eq_getElem (by omega)))
  have g := fun m => ctrBl_any T ks B D od 32 S os 32 2 cs bs tD c (w.drewN m) (hC.drewN m) (by decide) (by omega) (by decide) (oa_drewN hD m) (by rw [hbs]; exact hroom) hS hSl
  rw [hbs] at g
  have G := Lib.hid g
  clear g hC hD hroom hS
  go_enter Tryd.func33, Tryd.ntmps33
  go_wp2
  refine wp_region_chain (l := [_, _, _, _, _, _, _, _, _, _]) (fun _ => True) (fun w' => ∃ m, w' = w.drewN m) (by kernel_rfl) (by kernel_rfl) ⟨1, rfl⟩ (fun _ _ => trivial) ?_
  iterate 9 (refine chain_val (v := ?_) (by rfl) ?_ ?_; rotate_left; (focus (intro w2 b2; (try obtain ⟨m2, rfl⟩ := b2); go_simp; (try with_reducible rfl); done)); simp only [Act.put, List.setIfInBounds_toArray, List.set_cons_zero, List.set_cons_succ])
  refine chain_call (fun w' => objAt w' D = some (.cells (putL cs od (xorL bs (ksL (ciph T ks) c 0 32))) tD (0, 0)) ∧ Keeps D w w') (v := .tuple #[]) (f := 40)
    (args := #[.pointer (some ⟨B, 0, none⟩), .slice (some ⟨D, od, none⟩) 32 32, .slice (some ⟨S, os, none⟩) 32 32, .int .u64 (n64 (loOf c)), .int .u64 (n64 (hiOf c))]) rfl (by rfl) (fun _ _ => trivial) (fun w2 b2 => (by go_simp; done))
    (fun w2 b2 => (by
      obtain ⟨m2, rfl⟩ := b2
      refine (G.out m2).mono fun e w' he => ?_
      obtain ⟨he, ho, hk⟩ := he
      exact ⟨he, ho, (keeps_drewN (Keeps.refl D w) m2).trans hk⟩)) ?_
  simp only [Act.put, List.setIfInBounds_toArray, List.set_cons_zero, List.set_cons_succ]
  refine chain_nil fun w4 b4 => ?_
  obtain ⟨ho4, hk4⟩ := b4
  have HO4 := Lib.hid ho4
  have HK4 := Lib.hid hk4
  clear ho4 hk4
  go_wp2
  exact bodyPost_end (v := .tuple #[]) (by simp [results, Tryd.results33, go_sem]) rfl ⟨rfl, HO4.out, HK4.out⟩

set_option maxHeartbeats 2000000 in
theorem ctr4_any (T : Tab) (ks : List (BitVec 8)) (B D od S os : Nat) (cs : Array Value) (bs : List (BitVec 8)) (tD : TypeId) (c : BitVec 128) (w : World) (hC : CiphAt T ks w B) (hbs : bs.length = 64)
    (hD : objAt w D = some (.cells cs tD (0, 0))) (hroom : ByteRoom cs od 64) (hS : RdL w S os bs) :
    Calls Tryd.prog 32 #[.pointer (some ⟨B, 0, none⟩), .pointer (some ⟨D, od, none⟩), .pointer (some ⟨S, os, none⟩), .int .u64 (n64 (loOf c)), .int .u64 (n64 (hiOf c))] w
      fun e w' => e = .returned (.tuple #[]) ∧ objAt w' D = some (.cells (putL cs od (xorL bs (ksL (ciph T ks) c 0 64))) tD (0, 0)) ∧ Keeps D w w' := by
  have hSl : S < w.heap.size := block_lt_of_cell (hS 0 _ (List.getElem?_eq_getElem (by omega)))
  have g := fun m => ctrBl_any T ks B D od 64 S os 64 4 cs bs tD c (w.drewN m) (hC.drewN m) (by decide) (by omega) (by decide) (oa_drewN hD m) (by rw [hbs]; exact hroom) hS hSl
  rw [hbs] at g
  have G := Lib.hid g
  clear g hC hD hroom hS
  go_enter Tryd.func32, Tryd.ntmps32
  go_wp2
  refine wp_region_chain (l := [_, _, _, _, _, _, _, _, _, _]) (fun _ => True) (fun w' => ∃ m, w' = w.drewN m) (by kernel_rfl) (by kernel_rfl) ⟨1, rfl⟩ (fun _ _ => trivial) ?_
  iterate 9 (refine chain_val (v := ?_) (by rfl) ?_ ?_; rotate_left; (focus (intro w2 b2; (try obtain ⟨m2, rfl⟩ := b2); go_simp; (try with_reducible rfl); done)); simp only [Act.put, List.setIfInBounds_toArray, List.set_cons_zero, List.set_cons_succ])
  refine chain_call (fun w' => objAt w' D = some (.cells (putL cs od (xorL bs (ksL (ciph T ks) c 0 64))) tD (0, 0)) ∧ Keeps D w w') (v := .tuple #[]) (f := 40)
    (args := #[.pointer (some ⟨B, 0, none⟩), .slice (some ⟨D, od, none⟩) 64 64, .slice (some ⟨S, os, none⟩) 64 64, .int .u64 (n64 (loOf c)), .int .u64 (n64 (hiOf c))]) rfl (by rfl) (fun _ _ => trivial) (fun w2 b2 => (by go_simp; done))
    (fun w2 b2 => (by
      obtain ⟨m2, rfl⟩ := b2
      refine (G.out m2).mono fun e w' he => ?_
      obtain ⟨he, ho, hk⟩ := he
      exact ⟨he, ho, (keeps_drewN (Keeps.refl D w) m2).trans hk⟩)) ?_
  simp only [Act.put, List.setIfInBounds_toArray, List.set_cons_zero, List.set_cons_succ]
  refine chain_nil fun w4 b4 => ?_
  obtain ⟨ho4, hk4⟩ := b4
  have HO4 := Lib.hid ho4
  have HK4 := Lib.hid hk4
  clear ho4 hk4
  go_wp2
  exact bodyPost_end (v := .tuple #[]) (by simp [results, Tryd.results32, go_sem]) rfl ⟨rfl, HO4.out, HK4.out⟩

set_option maxHeartbeats 2000000 in
theorem ctr8_any (T : Tab) (ks : List (BitVec 8)) (B D od S os : Nat) (cs : Array Value) (bs : List (BitVec 8)) (tD : TypeId) (c : BitVec 128) (w : World) (hC : CiphAt T ks w B) (hbs : bs.length = 128)
    (hD : objAt w D = some (.cells cs tD (0, 0))) (hroom : ByteRoom cs od 128) (hS : RdL w S os bs) :
    Calls Tryd.prog 31 #[.pointer (some ⟨B, 0, none⟩), .pointer (some ⟨D, od, none⟩), .pointer (some ⟨S, os, none⟩), .int .u64 (n64 (loOf c)), .int .u64 (n64 (hiOf c))] w
      fun e w' => e = .returned (.tuple #[]) ∧ objAt w' D = some (.cells (putL cs od (xorL bs (ksL (ciph T ks) c 0 128))) tD (0, 0)) ∧ Keeps D w w' := by
  have hSl : S < w.heap.size := block_lt_of_cell (hS 0 _ (List.getElem?_eq_getElem (by omega)))
  have g := fun m => ctrBl_any T ks B D od 128 S os 128 8 cs bs tD c (w.drewN m) (hC.drewN m) (by decide) (by omega) (by decide) (oa_drewN hD m) (by rw [hbs]; exact hroom) hS hSl
  rw [hbs] at g
  have G := Lib.hid g
  clear g hC hD hroom hS
  go_enter Tryd.func31, Tryd.ntmps31
  go_wp2
  refine wp_region_chain (l := [_, _, _, _, _, _, _, _, _, _]) (fun _ => True) (fun w' => ∃ m, w' = w.drewN m) (by kernel_rfl) (by kernel_rfl) ⟨1, rfl⟩ (fun _ _ => trivial) ?_
  iterate 9 (refine chain_val (v := ?_) (by rfl) ?_ ?_; rotate_left; (focus (intro w2 b2; (try obtain ⟨m2, rfl⟩ := b2); go_simp; (try with_reducible rfl); done)); simp only [Act.put, List.setIfInBounds_toArray, List.set_cons_zero, List.set_cons_succ])
  refine chain_call (fun w' => objAt w' D = some (.cells (putL cs od (xorL bs (ksL (ciph T ks) c 0 128))) tD (0, 0)) ∧ Keeps D w w') (v := .tuple #[]) (f := 40)
    (args := #[.pointer (some ⟨B, 0, none⟩), .slice (some ⟨D, od, none⟩) 128 128, .slice (some ⟨S, os, none⟩) 128 128, .int .u64 (n64 (loOf c)), .int .u64 (n64 (hiOf c))]) rfl (by rfl) (fun _ _ => trivial) (fun w2 b2 => (by go_simp; done))
    (fun w2 b2 => (by
      obtain ⟨m2, rfl⟩ := b2
      refine (G.out m2).mono fun e w' he => ?_
      obtain ⟨he, ho, hk⟩ := he
      exact ⟨he, ho, (keeps_drewN (Keeps.refl D w) m2).trans hk⟩)) ?_
  simp only [Act.put, List.setIfInBounds_toArray, List.set_cons_zero, List.set_cons_succ]
  refine chain_nil fun w4 b4 => ?_
  obtain ⟨ho4, hk4⟩ := b4
  have HO4 := Lib.hid ho4
  have HK4 := Lib.hid hk4
  clear ho4 hk4
  go_wp2
  exact bodyPost_end (v := .tuple #[]) (by simp [results, Tryd.results31, go_sem]) rfl ⟨rfl, HO4.out, HK4.out⟩
end Go.Proofs.YtfcdldcekdbckaeDoor
