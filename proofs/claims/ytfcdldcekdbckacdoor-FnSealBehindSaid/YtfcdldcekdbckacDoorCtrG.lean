/- Bytes encrypted by a counter of 32 bits, as the code does it. -/
import Derived.Test.YtfcdldcekdbckacDoorCtrGP
import Derived.Test.YtfcdldcekdbckacDoorChainT
namespace Go.Proofs.YtfcdldcekdbckacDoor
open Go Go.RowKit Gf

theorem RdL.cut {w : World} {S o : Nat} {bs : List (BitVec 8)} (h : RdL w S o bs) (p : Nat) : RdL w S (o + p) (bs.drop p) := fun i x hx => by
  rw [List.getElem?_drop] at hx
  rw [Nat.add_assoc]
  exact h _ _ hx
/-- Bytes read while the block D is written: from another block, or from the same place on. -/
theorem rdL_left {w wr : World} {S D K os od p : Nat} {cs : Array Value} {tD : TypeId} {bs l : List (BitVec 8)} (h : RdL w S os bs) (hD : objAt w D = some (.cells cs tD (0, 0))) (hr : objAt wr D = some (.cells (putL cs od l) tD (0, 0)))
    (hk : Keeps2 D K w wr) (hSD : S ≠ D ∨ od = os) (hSK : S ≠ K) (hl : l.length = p) : RdL wr S (os + p) (bs.drop p) := fun i x hx => by
  have hi := (h.cut p) i x hx
  by_cases e : S = D
  · subst e
    obtain rfl := hSD.resolve_left (by simp)
    rw [objAt_cell hr, putL_out _ _ _ _ (by omega)]
    rw [objAt_cell hD] at hi
    exact hi
  · rw [hk.cell (block_lt_of_cell hi) e hSK]; exact hi

/-- What the walk needs of its addresses. -/
structure CtrAdr (B D K S od os dn dc n sc : Nat) : Prop where
  a1 : n ≤ dn
  a2 : dn ≤ dc
  a3 : (dc : Int) ≤ 9223372036854775807
  a4 : n ≤ sc
  a5 : (sc : Int) ≤ 9223372036854775807
  SD : S ≠ D ∨ od = os
  SK : S ≠ K
  BD : B ≠ D
  BK : B ≠ K
  DK : D ≠ K
  GD : nG ≤ D
  GK : nG ≤ K
set_option maxRecDepth 100000 in
set_option maxHeartbeats 4000000 in
theorem ctrG_any (T : Tab) (ks bs : List (BitVec 8)) (B D K S od os dn dc sc : Nat) (p : Option Addr) (cs : Array Value) (tD tK : TypeId) (x : BitVec 128) (w : World) (hC : CiphAt T ks w B) (hD : objAt w D = some (.cells cs tD (0, 0)))
    (hK : objAt w K = some (.cells (blk x) tK (0, 0))) (hS : RdL w S os bs) (hp : bs ≠ [] → p = some ⟨S, os, none⟩) (hroom : ByteRoom cs od bs.length) (hA : CtrAdr B D K S od os dn dc bs.length sc) :
    Calls Tryd.prog 30 #[.pointer (some ⟨B, 0, none⟩), .slice (some ⟨D, od, none⟩) dn dc, .slice p bs.length sc, .pointer (some ⟨K, 0, none⟩)] w
      fun e w' => e = .returned (.tuple #[]) ∧ objAt w' D = some (.cells (putL cs od (gctr (ciph T ks) x bs)) tD (0, 0)) ∧ objAt w' K = some (.cells (blk (incN x ((bs.length + 15) / 16))) tK (0, 0)) ∧ Keeps2 D K w w' := by
  have hDl := oa_lt hD
  have hKl := oa_lt hK
  have hBl := hC.lt
  obtain ⟨M, hM⟩ : ∃ M, M = w.heap.size := ⟨_, rfl⟩
  have b0 : Below w.heap.size w (w.alloc (.cells (blk 0#128) 69)) := (Below.refl _ _).alloc (Nat.le_refl _) _
  have HO := Lib.hid (show objAt (w.alloc (.cells (blk 0#128) 69)) M = some (.cells (blk 0#128) 69 (0, 0)) by rw [hM]; exact objAt_alloc_at _ _ _ rfl)
  have HC := Lib.hid (hC.below b0 hBl)
  have HD := Lib.hid hD
  have HK := Lib.hid hK
  have HS := Lib.hid hS
  have HR := Lib.hid hroom
  have HK0 := Lib.hid ((Keeps2.refl D K w).grow b0 hDl hKl (Nat.le_refl _))
  have HD0 := Lib.hid (oa_below hD b0 hDl)
  have HKK0 := Lib.hid (oa_below hK b0 hKl)
  have HM := Lib.hid hM
  have hMle : w.heap.size ≤ M := Nat.le_of_eq hM.symm
  have hMB : M ≠ B := by omega
  have hMD : M ≠ D := by omega
  have hMK : M ≠ K := by omega
  have hGM : nG ≤ M := by have := hC.tab.sz; omega
  obtain ⟨E, hE⟩ : ∃ E, E = ciph T ks := ⟨_, rfl⟩
  rw [← hE]
  have HE := Lib.hid hE
  clear hC hD hK hS hroom b0 hE
  go_enter Tryd.func30, Tryd.ntmps30
  go_wp2_with (fail)
  rw [← hM]
  generalize hw0 : w.alloc (.cells (blk 0#128) 69) = w0 at *
  clear hw0 hM
  have SD := hA.SD; have SK := hA.SK; have BD := hA.BD; have BK := hA.BK; have DK := hA.DK; have GD := hA.GD; have GK := hA.GK
  go_loopw [1, 2] (fun d s wr => ∃ (k L a2 c2 c3 : Nat) (pp : Option Addr) (y : BitVec 128), L + 16 * k = bs.length ∧ d = .slice (some ⟨D, a2, none⟩) (dn - 16 * k) c2 ∧ s = .slice pp L c3 ∧ (0 < L → a2 = od + 16 * k ∧ pp = some ⟨S, os + 16 * k, none⟩) ∧ dn - 16 * k ≤ c2 ∧ L ≤ c3 ∧ (c2 : Int) ≤ 9223372036854775807 ∧ (c3 : Int) ≤ 9223372036854775807 ∧
      objAt wr M = some (.cells (blk y) 69 (0, 0)) ∧ objAt wr D = some (.cells (putL cs od ((gctr E x bs).take (16 * k))) tD (0, 0)) ∧ objAt wr K = some (.cells (blk (incN x k)) tK (0, 0)) ∧ Keeps2 D K w wr ∧ CiphAt T ks wr B)
    (fun _ s _ => lenM s)
  case atStart => exact ⟨0, bs.length, od, dc, sc, p, 0#128, by omega, rfl, rfl, fun h => ⟨rfl, hp (by intro e; rw [e] at h; simp at h)⟩, hA.a2, hA.a4, hA.a3, hA.a5, HO.out, HD0.out, HKK0.out, HK0.out, HC.out⟩
  case round =>
    obtain ⟨k, L, a2, c2, c3, pp, y, hL, rfl, rfl, hadr, hc2, hc3, hc4, hc5, hMk, hDk, hKk, hkk, hCk⟩ := hrel
    have hn := hA.a1
    by_cases h16 : 16 ≤ L
    · obtain ⟨rfl, rfl⟩ := hadr (by omega)
      have e16 : (16 : Int) ≤ (L : Int) := by omega
      have hMk0 := hMk
      have hr16 : ByteRoom (blk y) 0 16 := ⟨bytesOf y, bytesOf_length y, by rw [blk_bcells]; exact bytesIn_all _⟩
      have g1 := Lib.hid (fun m => cEncI_any M 0 16 16 K 0 16 16 (blk y) 69 (incN x k) (wr.drewN m) (hCk.drewN m) (oa_drewN hMk m) hr16 (by decide) (by decide) (by decide) (by decide) (rdL_obj (oa_drewN hKk m) (by rw [blk_bcells]; exact bytesIn_all _)) (by decide) (by decide))
      rw [← HE.out] at g1
      have HMK := Lib.hid hMk
      have HDK := Lib.hid hDk
      have HKK := Lib.hid hKk
      have Hkk := Lib.hid hkk
      have HCK := Lib.hid hCk
      clear hMk0 hMk hDk hKk hkk hCk hr16
      go_wp2_with (fail)
      refine wp_region_chain (l := [_, _, _, _, _, _]) (fun _ => True) (fun w' => ∃ m, w' = wr.drewN m) (by kernel_rfl) (by kernel_rfl) ⟨1, rfl⟩ (fun _ _ => trivial) ?_
      iterate 5 (refine chain_val (v := ?_) (by rfl) ?_ ?_; rotate_left; (focus (intro w2 b2; (try obtain ⟨m2, rfl⟩ := b2); go_simp; (try with_reducible rfl); done)); simp only [Act.put, List.setIfInBounds_toArray, List.set_cons_zero, List.set_cons_succ])
      refine chain_call (fun w' => objAt w' M = some (.cells (blk (E (incN x k))) 69 (0, 0)) ∧ Keeps M wr w') (v := .tuple #[]) (f := 28) (args := #[.pointer (some ⟨B, 0, none⟩), .slice (some ⟨M, 0, none⟩) 16 16, .slice (some ⟨K, 0, none⟩) 16 16]) rfl (by rfl) (fun _ _ => trivial) (fun w2 b2 => (by go_simp; done))
        (fun w2 b2 => (by
          obtain ⟨m2, rfl⟩ := b2
          refine (g1.out m2).mono fun e w' he => ?_
          obtain ⟨he, ho, hk⟩ := he
          exact ⟨he, by rw [ho, put_blk], (keeps_drewN (Keeps.refl M wr) m2).trans hk⟩)) ?_
      simp only [Act.put, List.setIfInBounds_toArray, List.set_cons_zero, List.set_cons_succ]
      refine chain_nil fun w3 b3 => ?_
      obtain ⟨hM3, hk3⟩ := b3
      have hKK3 := hk3.at_ HKK.out (Ne.symm hMK)
      have HD3 := Lib.hid (hk3.at_ HDK.out (Ne.symm hMD))
      have HC3 := Lib.hid (HCK.out.keeps hk3 (Ne.symm hMB) hGM)
      have Hk3 := Lib.hid (Hkk.out.grow hk3.bel hDl hKl (by omega))
      have HM3 := Lib.hid hM3
      have gi := ginc_any (incN x k) K tK w3 hKK3
      clear g1 hk3 hKK3 hM3
      go_wp2_with (go_at_call 37; (with_reducible refine gi.mono ?_); rintro e w4 ⟨rfl, hK4, hk4⟩; have HK4 := Lib.hid hK4; have Hk4 := Lib.hid hk4; clear hK4 hk4 gi)
      have hD4 := Hk4.out.at_ HD3.out DK
      have hM4 := Hk4.out.at_ HM3.out hMK
      have HC4 := Lib.hid (HC3.out.keeps Hk4.out BK GK)
      have Hkk4 := Lib.hid (Hk3.out.trans (Keeps.right Hk4.out))
      have hlt : ((gctr E x bs).take (16 * k)).length = 16 * k := by rw [List.length_take, gctr_length]; omega
      have hS4 := rdL_left (p := 16 * k) HS.out HD.out hD4 Hkk4.out SD SK hlt
      have hroom : ByteRoom (putL cs od ((gctr E x bs).take (16 * k))) (od + 16 * k) (min L 16) := (HR.out.put).sub (by omega) (by omega)
      have g2 := gxor_any D (od + 16 * k) (dn - 16 * k) c2 S (os + 16 * k) L c3 M 0 16 16 _ (bs.drop (16 * k)) (bytesOf (E (incN x k))) tD w4 hD4 hroom (by omega) (by omega) (by omega) (by rw [List.length_drop]; omega) (by rw [bytesOf_length]; omega) hS4 (rdL_obj hM4 (by rw [blk_bcells]; exact bytesIn_all _)) (by omega) (.inl hMD)
      rw [gctr_piece E x bs k (min L 16) (by omega) (by omega)] at g2
      have hpp := put_piece cs od (16 * k) (min L 16) (gctr E x bs) (by rw [gctr_length]; omega)
      rw [hpp] at g2
      have HM4 := Lib.hid hM4
      clear hD4 hS4 hroom hM4 hlt
      clear hpp
      go_wp2_with (go_at_call 38; (with_reducible refine g2.mono ?_); rintro e w5 ⟨rfl, hD5, hk5⟩; have HD5 := Lib.hid hD5; have HK5 := Lib.hid hk5; clear hD5 hk5 g2)
      have hk5 := HK5.out
      have HM5 := Lib.hid (hk5.at_ HM4.out hMD)
      have HKK5 := Lib.hid (hk5.at_ HK4.out (Ne.symm DK))
      have HC5 := Lib.hid (HC4.out.keeps hk5 BD GD)
      have Hk5 := Lib.hid (Hkk4.out.trans (Keeps.left hk5))
      clear hk5
      go_roundw
      case rel =>
        obtain ⟨a2', ha2', pa2'⟩ := if_addr D (od + 16 * k) 16 c2 L h16 (by omega)
        have hm16 : 16 * k + min L 16 = 16 * (k + 1) := by omega
        refine ⟨k + 1, L - 16, a2', c2 - 16, c3 - 16, _, E (incN x k), by omega, ?_, rfl, fun h => ⟨by omega, ?_⟩, by omega, by omega, by omega, by omega, HM5.out, ?_, HKK5.out, Hk5.out, HC5.out⟩
        · rw [ha2', show dn - 16 * (k + 1) = dn - 16 * k - 16 by omega]
        · rw [if_neg (by omega), show os + 16 * (k + 1) = os + 16 * k + 16 by omega]
        · have h := HD5.out
          rwa [hm16] at h
      case measure => simp [lenM]; omega
    · by_cases h0 : L = 0
      · subst h0
        have ek : (bs.length + 15) / 16 = k := by omega
        have et : (gctr E x bs).take (16 * k) = gctr E x bs := List.take_of_length_le (by rw [gctr_length]; omega)
        rw [et] at hDk
        have HDK := Lib.hid hDk
        have HKK := Lib.hid hKk
        have Hkk := Lib.hid hkk
        clear hMk hDk hKk hkk hCk et
        go_wp2_with (fail)
        exact bodyPost_end (v := .tuple #[]) (by simp [results, Tryd.results30, go_sem]) rfl ⟨rfl, HDK.out, by rw [ek]; exact HKK.out, Hkk.out⟩
      · obtain ⟨rfl, rfl⟩ := hadr (by omega)
        have e16 : ¬ (16 : Int) ≤ (L : Int) := by omega
        have e17 : 0 < (L : Int) := by omega
        have ek : (bs.length + 15) / 16 = k + 1 := by omega
        have hMk0 := hMk
        have hr16 : ByteRoom (blk y) 0 16 := ⟨bytesOf y, bytesOf_length y, by rw [blk_bcells]; exact bytesIn_all _⟩
        have g1 := Lib.hid (fun m => cEncI_any M 0 16 16 K 0 16 16 (blk y) 69 (incN x k) (wr.drewN m) (hCk.drewN m) (oa_drewN hMk m) hr16 (by decide) (by decide) (by decide) (by decide) (rdL_obj (oa_drewN hKk m) (by rw [blk_bcells]; exact bytesIn_all _)) (by decide) (by decide))
        rw [← HE.out] at g1
        have HMK := Lib.hid hMk
        have HDK := Lib.hid hDk
        have HKK := Lib.hid hKk
        have Hkk := Lib.hid hkk
        have HCK := Lib.hid hCk
        clear hMk0 hMk hDk hKk hkk hCk hr16
        go_wp2_with (fail)
        refine wp_region_chain (l := [_, _, _, _, _, _]) (fun _ => True) (fun w' => ∃ m, w' = wr.drewN m) (by kernel_rfl) (by kernel_rfl) ⟨1, rfl⟩ (fun _ _ => trivial) ?_
        iterate 5 (refine chain_val (v := ?_) (by rfl) ?_ ?_; rotate_left; (focus (intro w2 b2; (try obtain ⟨m2, rfl⟩ := b2); go_simp; (try with_reducible rfl); done)); simp only [Act.put, List.setIfInBounds_toArray, List.set_cons_zero, List.set_cons_succ])
        refine chain_call (fun w' => objAt w' M = some (.cells (blk (E (incN x k))) 69 (0, 0)) ∧ Keeps M wr w') (v := .tuple #[]) (f := 28) (args := #[.pointer (some ⟨B, 0, none⟩), .slice (some ⟨M, 0, none⟩) 16 16, .slice (some ⟨K, 0, none⟩) 16 16]) rfl (by rfl) (fun _ _ => trivial) (fun w2 b2 => (by go_simp; done))
          (fun w2 b2 => (by
            obtain ⟨m2, rfl⟩ := b2
            refine (g1.out m2).mono fun e w' he => ?_
            obtain ⟨he, ho, hk⟩ := he
            exact ⟨he, by rw [ho, put_blk], (keeps_drewN (Keeps.refl M wr) m2).trans hk⟩)) ?_
        simp only [Act.put, List.setIfInBounds_toArray, List.set_cons_zero, List.set_cons_succ]
        refine chain_nil fun w3 b3 => ?_
        obtain ⟨hM3, hk3⟩ := b3
        have hKK3 := hk3.at_ HKK.out (Ne.symm hMK)
        have HD3 := Lib.hid (hk3.at_ HDK.out (Ne.symm hMD))
        have HC3 := Lib.hid (HCK.out.keeps hk3 (Ne.symm hMB) hGM)
        have Hk3 := Lib.hid (Hkk.out.grow hk3.bel hDl hKl (by omega))
        have HM3 := Lib.hid hM3
        have gi := ginc_any (incN x k) K tK w3 hKK3
        clear g1 hk3 hKK3 hM3
        go_wp2_with (go_at_call 37; (with_reducible refine gi.mono ?_); rintro e w4 ⟨rfl, hK4, hk4⟩; have HK4 := Lib.hid hK4; have Hk4 := Lib.hid hk4; clear hK4 hk4 gi)
        have hD4 := Hk4.out.at_ HD3.out DK
        have hM4 := Hk4.out.at_ HM3.out hMK
        have HC4 := Lib.hid (HC3.out.keeps Hk4.out BK GK)
        have Hkk4 := Lib.hid (Hk3.out.trans (Keeps.right Hk4.out))
        have hlt : ((gctr E x bs).take (16 * k)).length = 16 * k := by rw [List.length_take, gctr_length]; omega
        have hS4 := rdL_left (p := 16 * k) HS.out HD.out hD4 Hkk4.out SD SK hlt
        have hroom : ByteRoom (putL cs od ((gctr E x bs).take (16 * k))) (od + 16 * k) (min L 16) := (HR.out.put).sub (by omega) (by omega)
        have g2 := gxor_any D (od + 16 * k) (dn - 16 * k) c2 S (os + 16 * k) L c3 M 0 16 16 _ (bs.drop (16 * k)) (bytesOf (E (incN x k))) tD w4 hD4 hroom (by omega) (by omega) (by omega) (by rw [List.length_drop]; omega) (by rw [bytesOf_length]; omega) hS4 (rdL_obj hM4 (by rw [blk_bcells]; exact bytesIn_all _)) (by omega) (.inl hMD)
        rw [gctr_piece E x bs k (min L 16) (by omega) (by omega)] at g2
        have hpp := put_piece cs od (16 * k) (min L 16) (gctr E x bs) (by rw [gctr_length]; omega)
        rw [hpp] at g2
        have HM4 := Lib.hid hM4
        clear hD4 hS4 hroom hM4 hlt
        clear hpp
        go_wp2_with (go_at_call 38; (with_reducible refine g2.mono ?_); rintro e w5 ⟨rfl, hD5, hk5⟩; have HD5 := Lib.hid hD5; have HK5 := Lib.hid hk5; clear hD5 hk5 g2)
        have hk5 := HK5.out
        have HM5 := Lib.hid (hk5.at_ HM4.out hMD)
        have HKK5 := Lib.hid (hk5.at_ HK4.out (Ne.symm DK))
        have HC5 := Lib.hid (HC4.out.keeps hk5 BD GD)
        have Hk5 := Lib.hid (Hkk4.out.trans (Keeps.left hk5))
        clear hk5
        have em : 16 * k + min L 16 = bs.length := by omega
        have et : (gctr E x bs).take (16 * k + min L 16) = gctr E x bs := List.take_of_length_le (by rw [gctr_length]; omega)
        have hD5 := HD5.out
        rw [et] at hD5
        exact bodyPost_end (v := .tuple #[]) (by simp [results, Tryd.results30, go_sem]) rfl ⟨rfl, hD5, by rw [ek]; exact HKK5.out, Hk5.out⟩
end Go.Proofs.YtfcdldcekdbckacDoor
