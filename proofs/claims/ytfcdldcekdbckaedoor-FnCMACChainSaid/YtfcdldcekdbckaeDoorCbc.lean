/- Blocks encrypted one behind the other. -/
import Derived.Test.YtfcdldcekdbckaeDoorCMac
namespace Go.Proofs.YtfcdldcekdbckaeDoor
open Go Go.RowKit Gf

theorem put_chn (Z : Array Value) (E : BitVec 128 → BitVec 128) (bs : List (BitVec 8)) (k : Nat) (y : BitVec 128) (hz : 16 * k + 16 ≤ Z.size) (hy : chn E bs (k + 1) = E y) :
    putL (putL (putL Z 0 (chnL E bs k)) (16 * k) (bytesOf y)) (16 * k) (bytesOf (E y)) = putL Z 0 (chnL E bs (k + 1)) := by
  have h := putL_append Z 0 (chnL E bs k) (bytesOf (E y))
  rw [chnL_length, Nat.zero_add] at h
  rw [putL_over _ _ _ _ (by rw [bytesOf_length, bytesOf_length]) (by rw [bytesOf_length, putL_size]; omega), h, chnL, hy]

set_option maxRecDepth 100000 in
set_option maxHeartbeats 1000000 in
theorem cbcG_any (T : Tab) (ks bs zs : List (BitVec 8)) (C D S o sc n : Nat) (cs : Array Value) (tC tD : TypeId) (w : World) (hC : CiphAt T ks w C) (hM : objAt w C = some (.cells cs tC (0, 0))) (h0 : BytesIn cs 121 (bytesOf 0#128)) (hD : objAt w D = some (.cells (bcells zs).toArray tD (0, 0)))
    (hz : zs.length = bs.length) (hS : RdL w S o bs) (hSD : S ≠ D) (hCD : C ≠ D) (hG : nG ≤ D) (hn : 1 ≤ n) (hbs : bs.length = 16 * n) (hsc : bs.length ≤ sc) (hsc2 : (sc : Int) ≤ 9223372036854775807) :
    Calls Tryd.prog 36 #[.pointer (some ⟨C, 0, none⟩), .pointer (some ⟨C, 121, none⟩), .slice (some ⟨D, 0, none⟩) bs.length bs.length, .slice (some ⟨S, o, none⟩) bs.length sc] w
      fun e w' => e = .returned (.tuple #[]) ∧ objAt w' D = some (.cells (bcells (chnL (ciph T ks) bs n)).toArray tD (0, 0)) ∧ ∀ n0, n0 ≤ C → n0 ≤ D → Below n0 w w' := by
  have hCl := oa_lt hM
  have hcs : 121 + 16 ≤ cs.size := by have := h0.le (by intro h; have := congrArg List.length h; rw [bytesOf_length] at this; cases this); rwa [bytesOf_length] at this
  have HC := Lib.hid hC
  have HM := Lib.hid hM
  have HD := Lib.hid hD
  have HS := Lib.hid hS
  have HBS := Lib.hid hbs
  have HZ := Lib.hid hz
  have hZs : (bcells zs).toArray.size = bs.length := by rw [List.size_toArray, bcells_length, hz]
  have HZS := Lib.hid hZs
  have hZr : ByteRoom (bcells zs).toArray 0 bs.length := ⟨zs, hz, bytesIn_all zs⟩
  have HZR := Lib.hid hZr
  have hSl : S < w.heap.size := by
    have hp : 0 < bs.length := by omega
    exact block_lt_of_cell (hS 0 _ (List.getElem?_eq_getElem hp))
  have HI0 := Lib.hid (rdL_obj hM h0)
  have hb63 : (bs.length : Int) ≤ 9223372036854775807 := by omega
  have hput : putL (bcells zs).toArray 0 (chnL (ciph T ks) bs n) = (bcells (chnL (ciph T ks) bs n)).toArray := putL_all _ _ (by rw [chnL_length, hz, hbs])
  have HPUT := Lib.hid hput
  clear hC hM hD hS hbs hz h0 hZs hZr hput
  generalize (bcells zs).toArray = Z at *
  go_enter Tryd.func36, Tryd.ntmps36
  go_wp2_with (fail)
  go_loopw [2, 3, 8] (fun d s iv wr => ∃ (k L a2 c2 a3 c3 ib io ic : Nat), k ≤ n ∧ L + 16 * k = bs.length ∧ d = .slice (some ⟨D, a2, none⟩) L c2 ∧ s = .slice (some ⟨S, a3, none⟩) L c3 ∧ iv = .slice (some ⟨ib, io, none⟩) 16 ic ∧ (a2 = 16 * k ∨ k = n) ∧ (a3 = o + 16 * k ∨ k = n) ∧ L ≤ c2 ∧ L ≤ c3 ∧ (c2 : Int) ≤ 9223372036854775807 ∧ (c3 : Int) ≤ 9223372036854775807 ∧ 16 ≤ ic ∧ (ic : Int) ≤ 9223372036854775807 ∧
      (ib = C ∨ (ib = D ∧ io + 16 ≤ 16 * k)) ∧ RdL wr ib io (bytesOf (chn (ciph T ks) bs k)) ∧ objAt wr D = some (.cells (putL Z 0 (chnL (ciph T ks) bs k)) tD (0, 0)) ∧ Keeps D w wr)
    (fun _ s _ _ => lenM s)
  case atStart => exact ⟨0, bs.length, 0, bs.length, o, sc, C, 121, 16, by omega, by omega, rfl, rfl, rfl, .inl rfl, .inl rfl, Nat.le_refl _, hsc, hb63, hsc2, Nat.le_refl _, by decide, .inl rfl, HI0.out, HD.out, Keeps.refl _ _⟩
  case round =>
    obtain ⟨k, L, a2, c2, a3, c3, ib, io, ic, hk, hL, rfl, rfl, rfl, ha2, ha3, hc2, hc3, hc4, hc5, hic, hic2, hib, hiv, hDk, hKk⟩ := hrel
    have HIV := Lib.hid hiv
    have HDK := Lib.hid hDk
    have HKK := Lib.hid hKk
    clear hiv hDk hKk
    by_cases hkn : k = n
    · subst hkn
      obtain rfl : L = 0 := by have := HBS.out; omega
      have hMk := HKK.out.at_ HM.out hCD
      have hrow : rowOf 0 (bytesOf (chn (ciph T ks) bs k)) (.slice (some ⟨ib, io, none⟩) 16 ic) wr := by
        refine ⟨_, ic, by rw [bytesOf_length], by rw [bytesOf_length]; exact hic, hic2, .inr ⟨ib, io, rfl, Nat.zero_le _, ?_, HIV.out⟩⟩
        exact block_lt_of_cell (HIV.out 0 _ (bytesOf_get _ 0 (by decide)))
      have hcp := run_copyB wr C 121 16 16 cs tC _ _ 3 hMk hrow hcs
      rw [bytesOf_length, Nat.min_self, List.take_of_length_le (by rw [bytesOf_length]; exact Nat.le_refl _)] at hcp
      have HDE := Lib.hid (oa_row HDK.out (Ne.symm hCD) (putL cs 121 (bytesOf (chn (ciph T ks) bs k))))
      clear hMk hrow
      generalize chn (ciph T ks) bs k = z at hcp HDE
      go_wp2_with (fail)
      refine bodyPost_end (v := .tuple #[]) (by simp [results, Tryd.results36, go_sem]) rfl ⟨rfl, ?_, fun n0 h1 h2 => bel_setRow (HKK.out.bel.mono h2) h1 _⟩
      rw [HDE.out, HPUT.out]
    · have hL16 : 16 ≤ L := by have := HBS.out; omega
      have e16 : (16 : Int) ≤ (L : Int) := by omega
      have e0 : (0 : Int) < (L : Int) := by omega
      have e17 : (16 : Int) ≤ (c2 : Int) := by omega
      have e18 : (16 : Int) ≤ (c3 : Int) := by omega
      obtain rfl : a2 = 16 * k := by omega
      obtain rfl : a3 = o + 16 * k := by omega
      have hfit : 16 * k + 16 ≤ Z.size := by rw [HZS.out]; omega
      have hRd : RdL wr S (o + 16 * k) (bytesOf (blkAt bs k)) := fun i x hx => by
        have hi : i < 16 := by have := (List.getElem?_eq_some_iff.1 hx).1; rwa [bytesOf_length] at this
        rw [bytesOf_get _ i hi] at hx
        obtain rfl := Option.some.inj hx
        have h2 : bs[16 * k + i]? = some (byte (blkAt bs k) i) := by
          unfold blkAt
          rw [byte_of _ i hi, List.getD_eq_getElem?_getD, List.getElem?_eq_getElem (by omega)]; rfl
        have h3 := HS.out (16 * k + i) _ h2
        rw [← Nat.add_assoc] at h3
        exact (HKK.out.cell (block_lt_of_cell h3) hSD _).trans h3
      obtain ⟨st, hst⟩ : ∃ st, st = chn (ciph T ks) bs k := ⟨_, rfl⟩
      obtain ⟨b, hb⟩ : ∃ b, b = blkAt bs k := ⟨_, rfl⟩
      obtain ⟨l, hl⟩ : ∃ l, l = chnL (ciph T ks) bs k := ⟨_, rfl⟩
      have hIV := HIV.out
      have hDK := HDK.out
      rw [← hb] at hRd
      rw [← hst] at hIV
      rw [← hl] at hDK
      have HST := Lib.hid hst
      have HBB := Lib.hid hb
      have HLL := Lib.hid hl
      have HDK' := Lib.hid hDK
      have hroom : ByteRoom (putL Z 0 l) (16 * k) 16 := (HZR.out.put).sub (Nat.zero_le _) (by omega)
      have HRM := Lib.hid hroom
      have hap : ib ≠ D ∨ 16 * k ≤ io ∨ io + min 16 16 ≤ 16 * k := by
        rw [Nat.min_self]
        rcases hib with h | ⟨_, h⟩
        · exact .inl (by rw [h]; exact hCD)
        · exact .inr (.inr h)
      have g1 := Lib.hid (fun m => axor_any D (16 * k) 16 c2 S (o + 16 * k) 16 c3 ib io 16 ic (putL Z 0 l) (bytesOf b) (bytesOf st) tD (wr.drewN m) (oa_drewN hDK m) (by rw [Nat.min_self]; exact HRM.out) (by decide) (by decide) (by decide) (by rw [bytesOf_length]; decide) (by rw [bytesOf_length]; decide) hRd hIV (.inl hSD) hap)
      clear hRd hst hb hl hIV hDK hroom HDK HIV
      go_wp2_with (fail)
      refine wp_region_chain (l := [_, _, _, _, _, _]) (fun _ => True) (fun w' => ∃ m, w' = wr.drewN m) (by kernel_rfl) (by kernel_rfl) ⟨1, rfl⟩ (fun _ _ => trivial) ?_
      iterate 5 (refine chain_val (v := ?_) (by rfl) ?_ ?_; rotate_left; (focus (intro w2 b2; (try obtain ⟨m2, rfl⟩ := b2); go_simp; (try with_reducible rfl); done)); simp only [Act.put, List.setIfInBounds_toArray, List.set_cons_zero, List.set_cons_succ])
      refine chain_call (fun w' => objAt w' D = some (.cells (putL (putL Z 0 l) (16 * k) (bytesOf (b ^^^ st))) tD (0, 0)) ∧ Keeps D w w') (v := .int .i64 16) (f := 42) (args := #[.slice (some ⟨D, 16 * k, none⟩) 16 c2, .slice (some ⟨S, o + 16 * k, none⟩) 16 c3, .slice (some ⟨ib, io, none⟩) 16 ic]) rfl (by rfl) (fun _ _ => trivial) (fun w2 b2 => (by go_simp; done))
        (fun w2 b2 => (by
          obtain ⟨m2, rfl⟩ := b2
          refine (g1.out m2).mono fun e w' he => ?_
          obtain ⟨he, ho, hk⟩ := he
          refine ⟨he, ?_, (keeps_drewN HKK.out m2).trans hk⟩
          rw [ho, xorL_bytes, Nat.min_self, List.take_of_length_le (by rw [bytesOf_length]; exact Nat.le_refl _)])) ?_
      simp only [Act.put, List.setIfInBounds_toArray, List.set_cons_zero, List.set_cons_succ]
      refine chain_nil fun w3 b3 => ?_
      obtain ⟨hx3, hk3⟩ := b3
      have HX3 := Lib.hid hx3
      have HK3 := Lib.hid hk3
      clear hx3 hk3 g1
      have g2 := Lib.hid (fun m => cEnc_any D (16 * k) 16 c2 D (16 * k) 16 c2 _ tD (b ^^^ st) (w3.drewN m) ((HC.out.keeps HK3.out hCD hG).drewN m) (oa_drewN HX3.out m) HRM.out.put (by decide) (by omega) (by omega) (by decide) (rdL_obj (oa_drewN HX3.out m) (BytesIn.put (by rw [bytesOf_length, putL_size]; exact hfit))) (by decide) (by decide))
      generalize hE : ciph T ks = E at g2
      have HE := Lib.hid hE
      clear hE
      go_wp2_with (fail)
      refine wp_region_chain (l := [_, _, _, _, _, _]) (fun _ => True) (fun w' => ∃ m, w' = w3.drewN m) (by kernel_rfl) (by kernel_rfl) ⟨1, rfl⟩ (fun _ _ => trivial) ?_
      iterate 5 (refine chain_val (v := ?_) (by rfl) ?_ ?_; rotate_left; (focus (intro w2 b2; (try obtain ⟨m2, rfl⟩ := b2); go_simp; (try with_reducible rfl); done)); simp only [Act.put, List.setIfInBounds_toArray, List.set_cons_zero, List.set_cons_succ])
      refine chain_call (fun w' => objAt w' D = some (.cells (putL Z 0 (chnL E bs (k + 1))) tD (0, 0)) ∧ Keeps D w w') (v := .tuple #[]) (f := 38) (args := #[.pointer (some ⟨C, 0, none⟩), .slice (some ⟨D, 16 * k, none⟩) 16 c2, .slice (some ⟨D, 16 * k, none⟩) 16 c2]) rfl (by rfl) (fun _ _ => trivial) (fun w2 b2 => (by go_simp; done))
        (fun w2 b2 => (by
          obtain ⟨m2, rfl⟩ := b2
          refine (g2.out m2).mono fun e w' he => ?_
          obtain ⟨he, ho, hk⟩ := he
          refine ⟨he, ?_, (keeps_drewN HK3.out m2).trans hk⟩
          have hc : chn E bs (k + 1) = E (b ^^^ st) := by rw [HBB.out, HST.out, HE.out]; rfl
          have hp := put_chn Z E bs k (b ^^^ st) hfit hc
          have hl2 := HLL.out
          rw [HE.out] at hl2
          rw [ho, hl2, hp])) ?_
      simp only [Act.put, List.setIfInBounds_toArray, List.set_cons_zero, List.set_cons_succ]
      refine chain_nil fun w4 b4 => ?_
      obtain ⟨hx4, hk4⟩ := b4
      have HX4 := Lib.hid hx4
      have HK4 := Lib.hid hk4
      clear hx4 hk4 g2
      obtain ⟨a2', ha2', pa2'⟩ := if_addr D (16 * k) 16 c2 L hL16 hc2
      obtain ⟨a3', ha3', pa3'⟩ := if_addr S (o + 16 * k) 16 c3 L hL16 hc3
      have hL' : L - 16 + 16 * (k + 1) = bs.length := by omega
      go_wp2_with (fail)
      go_roundw
      case rel =>
        refine ⟨k + 1, L - 16, a2', c2 - 16, a3', c3 - 16, D, 16 * k, c2, by omega, hL', ?_, ?_, rfl, by have := HBS.out; omega, by have := HBS.out; omega, by omega, by omega, by omega, by omega, by omega, by omega, .inr ⟨rfl, by omega⟩, ?_, by rw [HE.out]; exact HX4.out, HK4.out⟩
        · rw [← ha2']
        · rw [← ha3']
        · rw [HE.out]
          have h := HX4.out
          rw [chnL] at h
          have h2 := putL_append Z 0 (chnL E bs k) (bytesOf (chn E bs (k + 1)))
          rw [chnL_length, Nat.zero_add] at h2
          rw [← h2] at h
          exact rdL_obj h (BytesIn.put (by rw [bytesOf_length, putL_size]; exact hfit))
      case measure => simp [lenM]; omega
end Go.Proofs.YtfcdldcekdbckaeDoor
