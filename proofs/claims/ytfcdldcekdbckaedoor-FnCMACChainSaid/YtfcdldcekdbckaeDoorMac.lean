/- The code of whole blocks. -/
import Derived.Test.YtfcdldcekdbckaeDoorNMac
import Derived.Test.YtfcdldcekdbckaeDoorCtrP
namespace Go.Proofs.YtfcdldcekdbckaeDoor
open Go Go.RowKit Gf

theorem put_blk (x y : BitVec 128) : putL (blk x) 0 (bytesOf y) = blk y := by
  rw [blk_bcells, blk_bcells, putL_all _ _ (by rw [bytesOf_length, bytesOf_length])]
/-- A block takes another one in. -/
theorem gxorX (X S a sc : Nat) (x y : BitVec 128) (t : TypeId) (w : World) (hX : objAt w X = some (.cells (blk x) t (0, 0))) (hS : RdL w S a (bytesOf y)) (hne : S ≠ X) :
    Calls Tryd.prog 27 #[.slice (some ⟨X, 0, none⟩) 16 16, .slice (some ⟨S, a, none⟩) 16 sc, .slice (some ⟨X, 0, none⟩) 16 16] w fun e w' => e = .returned (.int .i64 16) ∧ objAt w' X = some (.cells (blk (y ^^^ x)) t (0, 0)) ∧ Keeps X w w' := by
  have hr : ByteRoom (blk x) 0 16 := ⟨bytesOf x, bytesOf_length x, by rw [blk_bcells]; exact bytesIn_all _⟩
  refine (gxor_any X 0 16 16 S a 16 sc X 0 16 16 (blk x) (bytesOf y) (bytesOf x) t w hX hr (by decide) (by decide) (by decide) (by rw [bytesOf_length]; decide) (by rw [bytesOf_length]; decide) hS (rdL_obj hX (by rw [blk_bcells]; exact bytesIn_all _)) (.inl hne) (.inr (.inl (Nat.le_refl _)))).mono fun e w' he => ?_
  obtain ⟨he, ho, hk⟩ := he
  refine ⟨he, ?_, hk⟩
  rw [ho, xorL_bytes, Nat.min_self, List.take_of_length_le (by rw [bytesOf_length]; exact Nat.le_refl _), put_blk]
/-- A block is encrypted in its place. -/
theorem encX {T : Tab} {ks : List (BitVec 8)} {M : Nat} (X : Nat) (x : BitVec 128) (t : TypeId) (w : World) (hC : CiphAt T ks w M) (hX : objAt w X = some (.cells (blk x) t (0, 0))) :
    Calls Tryd.prog 26 #[.pointer (some ⟨M, 0, none⟩), .slice (some ⟨X, 0, none⟩) 16 16, .slice (some ⟨X, 0, none⟩) 16 16] w fun e w' => e = .returned (.tuple #[]) ∧ objAt w' X = some (.cells (blk (ciph T ks x)) t (0, 0)) ∧ Keeps X w w' := by
  have hr : ByteRoom (blk x) 0 16 := ⟨bytesOf x, bytesOf_length x, by rw [blk_bcells]; exact bytesIn_all _⟩
  refine (cEncI_any X 0 16 16 X 0 16 16 (blk x) t x w hC hX hr (by decide) (by decide) (by decide) (by decide) (rdL_obj hX (by rw [blk_bcells]; exact bytesIn_all _)) (by decide) (by decide)).mono fun e w' he => ?_
  obtain ⟨he, ho, hk⟩ := he
  refine ⟨he, ?_, hk⟩
  rw [ho, put_blk]
/-- The first of a block's cells, read whole. -/
theorem rd_first {M n : Nat} {cs : Array Value} {t : TypeId} {fr : Nat × Nat} {w : World} (h : objAt w M = some (.cells cs t fr)) (hn : n < cs.size) : rdOfN n w (altRdN Tryd.prog M n w) (some (.cells cs t fr)) = .ok (cs.toList.take n).toArray w := by
  unfold rdOfN altRdN
  dsimp only
  rw [if_neg (by omega)]
  have := run_loadCells_list (P := Tryd.prog) w ⟨M, 0, none⟩ (cs.toList.take n) (fun j v hv => by
    have hj : j < n := by have := (List.getElem?_eq_some_iff.1 hv).1; rw [List.length_take] at this; omega
    rw [add_mid0, objAt_cell h, Nat.zero_add]
    rw [List.getElem?_take_of_lt hj] at hv
    simpa using hv)
  rw [List.length_take, Array.length_toList, Nat.min_eq_left (by omega)] at this
  simpa [loadCells] using this
/-- How many are left: the round's measure. -/
def lenM : Value → Nat
  | .slice _ l _ => l
  | _ => 0
/-- What the code's block holds behind so many blocks of the message. -/
def macSt (E : BitVec 128 → BitVec 128) (bs : List (BitVec 8)) (n k : Nat) : BitVec 128 := if k = n then macB E bs n else chn E bs k

set_option maxRecDepth 100000 in
set_option maxHeartbeats 1000000 in
theorem mac_any (T : Tab) (ks bs : List (BitVec 8)) (M n : Nat) (cs : Array Value) (tM : TypeId) (v : Value) (w : World) (hC : CiphAt T ks w M) (hM : objAt w M = some (.cells cs tM (0, 0))) (h1 : BytesIn cs 121 (bytesOf (k1Of (ciph T ks)))) (hr : rowOf 0 bs v w) (hn : 1 ≤ n) (hbs : bs.length = 16 * n) :
    Calls Tryd.prog 19 #[.pointer (some ⟨M, 0, none⟩), v] w fun e w' => e = .returned (.agg (blk (macB (ciph T ks) bs n))) ∧ Below w.heap.size w w' := by
  obtain ⟨p, c, rfl, hc1, hc2, h4⟩ := hr
  obtain ⟨S, o, rfl, _, hSl, hcell⟩ := h4.resolve_left (by intro h; subst h; simp at hbs; omega)
  have hMl := oa_lt hM
  have hs : 121 < cs.size := by have := h1.le (by intro h; have := congrArg List.length h; rw [bytesOf_length] at this; cases this); rw [bytesOf_length] at this; omega
  obtain ⟨X, hX⟩ : ∃ X, X = w.heap.size + 1 := ⟨_, rfl⟩
  obtain ⟨R, hR⟩ : ∃ R, R = w.heap.size := ⟨_, rfl⟩
  have hlen : ((bs.length : Int) == 0) = false := by simp; intro h; subst h; simp at hbs; omega
  have b1 : Below w.heap.size w (w.alloc (.cells (blk 0#128) 23)) := (Below.refl _ _).alloc (Nat.le_refl _) _
  have b2 : Below w.heap.size w ((w.alloc (.cells (blk 0#128) 23)).alloc (.cells (blk 0#128) 23)) := b1.alloc (by simp) _
  have hrd := rd_first (oa_below hM b1 hMl) hs
  have oR : objAt ((w.alloc (.cells (blk 0#128) 23)).alloc (.cells (blk 0#128) 23)) R = some (.cells (blk 0#128) 23 (0, 0)) := by rw [hR]; simp [go_sem]
  have oX : objAt ((w.alloc (.cells (blk 0#128) 23)).alloc (.cells (blk 0#128) 23)) X = some (.cells (blk 0#128) 23 (0, 0)) := by rw [hX]; simp [go_sem]
  have HM2 := Lib.hid (oa_below hM b2 hMl)
  have HC2 := Lib.hid (hC.below b2 hMl)
  have hG := hC.tab.sz
  have HCL := Lib.hid (fun i x hx => (cell_same (b2.block S hSl) (o + i)).trans (hcell i x hx))
  have HB2 := Lib.hid b2
  have HR2 := Lib.hid oR
  have HX2 := Lib.hid oX
  have hMX : M ≠ X := by omega
  have hSX : S ≠ X := by omega
  have hRX : R ≠ X := by omega
  have H1 := Lib.hid h1
  have HBS := Lib.hid hbs
  clear hC h1 hcell b2 oR oX h4 hbs
  go_enter Tryd.func19, Tryd.ntmps19
  go_wp2_with (fail)
  rw [← hX, ← hR]
  clear hrd
  generalize (w.alloc (.cells (blk 0#128) 23)).alloc (.cells (blk 0#128) 23) = w2 at *
  rw [← hR] at HB2
  have HRR := Lib.hid hR
  have hRX2 : R ≤ X := by omega
  have hG2 : nG ≤ X := by omega
  clear hX hR
  go_loopw [1] (fun vv wr => ∃ (k L a c' : Nat), k ≤ n ∧ L + 16 * k = bs.length ∧ vv = .slice (some ⟨S, a, none⟩) L c' ∧ (a = o + 16 * k ∨ k = n) ∧ L ≤ c' ∧ (c' : Int) ≤ 9223372036854775807 ∧ objAt wr X = some (.cells (blk (macSt (ciph T ks) bs n k)) 23 (0, 0)) ∧ Keeps X w2 wr)
    (fun vv _ => lenM vv)
  case atStart => exact ⟨0, bs.length, o, c, by omega, by omega, rfl, .inl rfl, hc1, hc2, by rw [show macSt (ciph T ks) bs n 0 = 0#128 by unfold macSt; rw [if_neg (by omega)]; rfl]; exact HX2.out, Keeps.refl _ _⟩
  case round =>
    obtain ⟨k, L, a, c', hk, hL, rfl, ha, hLc, hc3, hXk, hKk⟩ := hrel
    have HXK := Lib.hid hXk
    have HKK := Lib.hid hKk
    clear hXk hKk
    by_cases hkn : k = n
    · subst hkn
      obtain rfl : L = 0 := by have := HBS.out; omega
      have hXe := HXK.out
      unfold macSt at hXe
      rw [if_pos rfl] at hXe
      have hRe := HKK.out.at_ HR2.out hRX
      obtain ⟨z, hz⟩ : ∃ z, z = macB (ciph T ks) bs k := ⟨_, rfl⟩
      rw [← hz] at hXe
      have HZ := Lib.hid hz
      have HRE := Lib.hid (objAt_setRow_same hRe (blk z))
      clear hz
      go_wp2_with (fail)
      refine bodyPost_ret (results_cell_row rfl _ _ R _ (blk z) _ _ rfl HRE.out Tryd.underlying23 rfl (by rw [blk_size]; kernel_rfl)) rfl ⟨by rw [HZ.out], ?_⟩
      rw [← HRR.out]
      exact bel_setRow (HB2.out.trans (HKK.out.bel.mono hRX2)) (Nat.le_refl _) _
    · have hL16 : 16 ≤ L := by have := HBS.out; omega
      have e16 : (16 : Int) ≤ (L : Int) := by omega
      have e17 : (16 : Int) ≤ (c' : Int) := by omega
      obtain rfl : a = o + 16 * k := by omega
      have hSw : ∀ i, i < 16 → wr.cell? ⟨S, o + 16 * k + i, none⟩ = some (.int .u8 (n8 (byte (blkAt bs k) i))) := fun i hi => by
        have h2 : bs[16 * k + i]? = some (byte (blkAt bs k) i) := by
          unfold blkAt
          rw [byte_of _ i hi, List.getD_eq_getElem?_getD, List.getElem?_eq_getElem (by have := HBS.out; omega)]; rfl
        have h3 := HCL.out (16 * k + i) _ h2
        rw [← Nat.add_assoc] at h3
        exact (HKK.out.cell (block_lt_of_cell h3) hSX _).trans h3
      have hRd : RdL wr S (o + 16 * k) (bytesOf (blkAt bs k)) := fun i x hx => by
        have hi : i < 16 := by have := (List.getElem?_eq_some_iff.1 hx).1; rwa [bytesOf_length] at this
        rw [bytesOf_get _ i hi] at hx
        obtain rfl := Option.some.inj hx
        exact hSw i hi
      have hst : macSt (ciph T ks) bs n k = chn (ciph T ks) bs k := by unfold macSt; rw [if_neg hkn]
      rw [hst] at HXK
      obtain ⟨st, hst1⟩ : ∃ st, st = chn (ciph T ks) bs k := ⟨_, rfl⟩
      obtain ⟨b, hb⟩ : ∃ b, b = blkAt bs k := ⟨_, rfl⟩
      rw [← hst1] at HXK
      rw [← hb] at hRd
      have HS1 := Lib.hid hst1
      have HBB := Lib.hid hb
      have g1 := Lib.hid (fun m => gxorX X S (o + 16 * k) c' st b 23 (wr.drewN m) (oa_drewN HXK.out m) hRd hSX)
      obtain ⟨L', hL'⟩ : ∃ L', L' = L - 16 := ⟨_, rfl⟩
      clear hSw hRd hst hst1 hb
      go_wp2_with (fail)
      refine wp_region_chain (l := [_, _, _, _, _]) (fun _ => True) (fun w' => ∃ m, w' = wr.drewN m) (by kernel_rfl) (by kernel_rfl) ⟨1, rfl⟩ (fun _ _ => trivial) ?_
      iterate 4 (refine chain_val (v := ?_) (by rfl) ?_ ?_; rotate_left; (focus (intro w2 b2; (try obtain ⟨m2, rfl⟩ := b2); go_simp; (try with_reducible rfl); done)); simp only [Act.put, List.setIfInBounds_toArray, List.set_cons_zero, List.set_cons_succ])
      refine chain_call (fun w' => objAt w' X = some (.cells (blk (b ^^^ st)) 23 (0, 0)) ∧ Keeps X w2 w') (v := .int .i64 16) (f := 27) (args := #[.slice (some ⟨X, 0, none⟩) 16 16, .slice (some ⟨S, o + 16 * k, none⟩) 16 c', .slice (some ⟨X, 0, none⟩) 16 16]) rfl (by rfl) (fun _ _ => trivial) (fun w2 b2 => (by go_simp; done))
        (fun w2 b2 => (by
          obtain ⟨m2, rfl⟩ := b2
          refine (g1.out m2).mono fun e w' he => ?_
          obtain ⟨he, ho, hk⟩ := he
          exact ⟨he, ho, (keeps_drewN HKK.out m2).trans hk⟩)) ?_
      simp only [Act.put, List.setIfInBounds_toArray, List.set_cons_zero, List.set_cons_succ]
      refine chain_nil fun w3 b3 => ?_
      obtain ⟨hx3, hk3⟩ := b3
      have HX3 := Lib.hid hx3
      have HK3 := Lib.hid hk3
      clear hx3 hk3 g1
      obtain ⟨a', ha', pa'⟩ := if_addr S (o + 16 * k) 16 c' L hL16 hLc
      have hL' : L - 16 + 16 * (k + 1) = bs.length := by omega
      by_cases hlast : k + 1 = n
      · obtain rfl : L = 16 := by have := HBS.out; omega
        have g2 := Lib.hid (fun m => gxorX X M 121 16 (b ^^^ st) (k1Of (ciph T ks)) 23 (w3.drewN m) (oa_drewN HX3.out m) (rdL_obj (oa_drewN (HK3.out.at_ HM2.out hMX) m) H1.out) hMX)
        obtain ⟨z, hz⟩ : ∃ z, z = k1Of (ciph T ks) := ⟨_, rfl⟩
        rw [← hz] at g2
        have HZ := Lib.hid hz
        clear hz
        go_wp2_with (fail)
        refine wp_region_chain (l := [_, _, _, _, _, _, _]) (fun _ => True) (fun w' => ∃ m, w' = w3.drewN m) (by kernel_rfl) (by kernel_rfl) ⟨1, rfl⟩ (fun _ _ => trivial) ?_
        iterate 6 (refine chain_val (v := ?_) (by rfl) ?_ ?_; rotate_left; (focus (intro w2 b2; (try obtain ⟨m2, rfl⟩ := b2); go_simp; (try with_reducible rfl); done)); simp only [Act.put, List.setIfInBounds_toArray, List.set_cons_zero, List.set_cons_succ])
        refine chain_call (fun w' => objAt w' X = some (.cells (blk (z ^^^ (b ^^^ st))) 23 (0, 0)) ∧ Keeps X w2 w') (v := .int .i64 16) (f := 27) (args := #[.slice (some ⟨X, 0, none⟩) 16 16, .slice (some ⟨M, 121, none⟩) 16 16, .slice (some ⟨X, 0, none⟩) 16 16]) rfl (by rfl) (fun _ _ => trivial) (fun w2 b2 => (by go_simp; done))
          (fun w2 b2 => (by
            obtain ⟨m2, rfl⟩ := b2
            refine (g2.out m2).mono fun e w' he => ?_
            obtain ⟨he, ho, hk⟩ := he
            exact ⟨he, ho, (keeps_drewN HK3.out m2).trans hk⟩)) ?_
        simp only [Act.put, List.setIfInBounds_toArray, List.set_cons_zero, List.set_cons_succ]
        refine chain_nil fun w4 b4 => ?_
        obtain ⟨hx4, hk4⟩ := b4
        have HX4 := Lib.hid hx4
        have HK4 := Lib.hid hk4
        clear hx4 hk4 g2
        have g3 := Lib.hid (fun m => encX X (z ^^^ (b ^^^ st)) 23 (w4.drewN m) (((HC2.out.keeps HK4.out hMX hG2)).drewN m) (oa_drewN HX4.out m))
        generalize hE : ciph T ks = E at g3
        have HE := Lib.hid hE
        clear hE
        go_wp2_with (fail)
        refine wp_region_chain (l := [_, _, _, _, _, _]) (fun _ => True) (fun w' => ∃ m, w' = w4.drewN m) (by kernel_rfl) (by kernel_rfl) ⟨1, rfl⟩ (fun _ _ => trivial) ?_
        iterate 5 (refine chain_val (v := ?_) (by rfl) ?_ ?_; rotate_left; (focus (intro w2 b2; (try obtain ⟨m2, rfl⟩ := b2); go_simp; (try with_reducible rfl); done)); simp only [Act.put, List.setIfInBounds_toArray, List.set_cons_zero, List.set_cons_succ])
        refine chain_call (fun w' => objAt w' X = some (.cells (blk (E (z ^^^ (b ^^^ st)))) 23 (0, 0)) ∧ Keeps X w2 w') (v := .tuple #[]) (f := 26) (args := #[.pointer (some ⟨M, 0, none⟩), .slice (some ⟨X, 0, none⟩) 16 16, .slice (some ⟨X, 0, none⟩) 16 16]) rfl (by rfl) (fun _ _ => trivial) (fun w2 b2 => (by go_simp; done))
          (fun w2 b2 => (by
            obtain ⟨m2, rfl⟩ := b2
            refine (g3.out m2).mono fun e w' he => ?_
            obtain ⟨he, ho, hk⟩ := he
            exact ⟨he, ho, (keeps_drewN HK4.out m2).trans hk⟩)) ?_
        simp only [Act.put, List.setIfInBounds_toArray, List.set_cons_zero, List.set_cons_succ]
        refine chain_nil fun w5 b5 => ?_
        obtain ⟨hx5, hk5⟩ := b5
        have HX5 := Lib.hid hx5
        have HK5 := Lib.hid hk5
        clear hx5 hk5 g3
        go_wp2_with (fail)
        go_roundw
        case rel =>
          refine ⟨k + 1, 0, a', c' - 16, by omega, hL', ?_, by omega, by omega, by omega, ?_, HK5.out⟩
          · rw [← ha']
          · have e : macSt (ciph T ks) bs n (k + 1) = E (z ^^^ (b ^^^ st)) := by
              unfold macSt macB
              rw [if_pos hlast, HS1.out, HBB.out, HZ.out, show n - 1 = k by omega, ← HE.out]
            rw [e]; exact HX5.out
        case measure => simp [lenM]
      · have hL17 : ((L : Int) == 16) = false := by have := HBS.out; simp; omega
        have g2 := Lib.hid (fun m => encX X (b ^^^ st) 23 (w3.drewN m) (((HC2.out.keeps HK3.out hMX hG2)).drewN m) (oa_drewN HX3.out m))
        generalize hE : ciph T ks = E at g2
        have HE := Lib.hid hE
        clear hE
        go_wp2_with (fail)
        refine wp_region_chain (l := [_, _, _, _, _, _]) (fun _ => True) (fun w' => ∃ m, w' = w3.drewN m) (by kernel_rfl) (by kernel_rfl) ⟨1, rfl⟩ (fun _ _ => trivial) ?_
        iterate 5 (refine chain_val (v := ?_) (by rfl) ?_ ?_; rotate_left; (focus (intro w2 b2; (try obtain ⟨m2, rfl⟩ := b2); go_simp; (try with_reducible rfl); done)); simp only [Act.put, List.setIfInBounds_toArray, List.set_cons_zero, List.set_cons_succ])
        refine chain_call (fun w' => objAt w' X = some (.cells (blk (E (b ^^^ st))) 23 (0, 0)) ∧ Keeps X w2 w') (v := .tuple #[]) (f := 26) (args := #[.pointer (some ⟨M, 0, none⟩), .slice (some ⟨X, 0, none⟩) 16 16, .slice (some ⟨X, 0, none⟩) 16 16]) rfl (by rfl) (fun _ _ => trivial) (fun w2 b2 => (by go_simp; done))
          (fun w2 b2 => (by
            obtain ⟨m2, rfl⟩ := b2
            refine (g2.out m2).mono fun e w' he => ?_
            obtain ⟨he, ho, hk⟩ := he
            exact ⟨he, ho, (keeps_drewN HK3.out m2).trans hk⟩)) ?_
        simp only [Act.put, List.setIfInBounds_toArray, List.set_cons_zero, List.set_cons_succ]
        refine chain_nil fun w4 b4 => ?_
        obtain ⟨hx4, hk4⟩ := b4
        have HX4 := Lib.hid hx4
        have HK4 := Lib.hid hk4
        clear hx4 hk4 g2
        go_wp2_with (fail)
        go_roundw
        case rel =>
          refine ⟨k + 1, L - 16, a', c' - 16, by omega, hL', ?_, by have := HBS.out; omega, by omega, by omega, ?_, HK4.out⟩
          · rw [← ha']
          · have e : macSt (ciph T ks) bs n (k + 1) = E (b ^^^ st) := by unfold macSt; rw [if_neg hlast, HS1.out, HBB.out, ← HE.out]; rfl
            rw [e]; exact HX4.out
        case measure => simp [lenM]; omega
end Go.Proofs.YtfcdldcekdbckaeDoor
