/- The wrapper's chain over one piece. -/
import Derived.Test.YtfcdldcekdbckaeDoorCbc2
import Derived.Test.YtfcdldcekdbckaeDoorLh
namespace Go.Proofs.YtfcdldcekdbckaeDoor
open Go Go.RowKit Gf

def CbcOut (E : BitVec 128 → BitVec 128) (bs : List (BitVec 8)) (n : Nat) (w : World) (e : Ending) (w' : World) : Prop :=
  ∃ v, e = .returned (.tuple #[v, .bool true]) ∧ rowOf 0 (chnL E bs n) v w' ∧ Below w.heap.size w w'
set_option maxRecDepth 100000 in
set_option maxHeartbeats 2000000 in
theorem cbc_any (T : Tab) (ks bs : List (BitVec 8)) (n : Nat) (vk vs : Value) (w : World) (hk : isKey ks) (hT : TabAt T w) (hrk : rowOf 0 ks vk w) (hrs : rowsOf 0 [bs] vs w) (hn : 1 ≤ n) (hbs : bs.length = 16 * n) (hlen : bs.length ≤ 1073741824) :
    Calls Tryd.prog 7 #[vk, .agg (blk 0#128), vs] w (CbcOut (ciph T ks) bs n w) := by
  have hkl : ks.length ≤ 281474976710656 := by unfold isKey at hk; omega
  have b1 : Below w.heap.size w (w.alloc (.cells (blk 0#128) 23)) := (Below.refl _ w).alloc (Nat.le_refl _) _
  have hI := Lib.hid (objAt_alloc_at w (.cells (blk 0#128) 23) _ rfl)
  have gk := copied_any _ ks vk (stab_rowOf _ _ _ _ _ b1 hrk) hkl
  have HT := Lib.hid (hT.below b1 hT.sz)
  have HG := Lib.hid hT.sz
  have HT0 := Lib.hid hT
  have B1 := Lib.hid b1
  have HBS := Lib.hid hbs
  obtain ⟨pk, ck, rfl⟩ := hrk.slice
  obtain ⟨ps, cs, rfl, hc1, hc2, h4⟩ := hrs
  have HS := Lib.hid h4
  clear hT hrk b1 h4 hbs
  go_enter Tryd.func7, Tryd.ntmps7
  go_wp2_with (go_at_call 15; (with_reducible refine gk.mono ?_); rintro e w2 ⟨v', rfl, hb2, hr2⟩)
  have hT2 := HT.out.below hb2 HT.out.sz
  refine (new_any T ks v' w2 hk hT2 (hr2.mono (Nat.zero_le _))).mono ?_
  rintro e w3 ⟨B, rfl, hBl, ⟨D0, hB⟩, hb3⟩
  have hb23 := hb2.trans (hb3.mono hb2.size)
  have HI3 := oa_below hI.out hb23 (oa_lt hI.out)
  have B3 := Lib.hid (B1.out.trans (hb23.mono (by simp)))
  have gN := newCbc_any B (rOf ks) (kOf T ks) D0 61 0#128 w3 hB
  clear hb2 hr2 hb3 hT2 hb23 hB gk HT hI B1 hBl
  go_wp2_with (go_at_call 16; (with_reducible refine gN.mono ?_); rintro e w6 ⟨C, rfl, hCl, hC, hb6⟩; have HC := Lib.hid hC; have B6 := Lib.hid (B3.out.trans (hb6.mono B3.out.size)); have hCw : w.heap.size ≤ C := (by have := B3.out.size; omega); clear hC hb6 hCl gN)
  clear HI3 B3
  go_loopw [11, 13, 14, 28] (fun out _ _ i wr => ∃ k : Nat, k ≤ 1 ∧ i = .int .i64 (k : Int) ∧ Below w.heap.size w wr ∧ ((k = 0 ∧ out = .slice none 0 0 ∧ objAt wr C = some (.cells (cbcC (rOf ks) (kOf T ks) D0 0#128) 63 (0, 0))) ∨ (k = 1 ∧ rowOf 0 (chnL (ciph T ks) bs n) out wr))) (fun _ _ _ i _ => 1 - (intOf i).toNat)
  case atStart => exact ⟨0, Nat.zero_le _, rfl, B6.out, .inl ⟨rfl, rfl, HC.out⟩⟩
  case round =>
    obtain ⟨k, hkl2, rfl, hBk, hout⟩ := hrel
    rcases hout with ⟨rfl, rfl, hCk⟩ | ⟨rfl, hout⟩
    · rcases HS.out with h4 | ⟨rb, ro, rfl, _, hrb, hcells⟩
      · cases h4
      obtain ⟨rv, hc, hrow⟩ := hcells 0 bs rfl
      have hc' := (cell_same (hBk.block rb hrb) _).trans hc
      rw [Nat.add_zero] at hc'
      have hrow' := stab_rowOf _ _ _ _ _ hBk hrow
      obtain ⟨rp, rc, rfl⟩ := hrow'.slice
      have hmk := run_makeB wr bs.length bs.length (by omega) (Nat.le_refl _)
      have b4 : Below wr.heap.size wr (wr.alloc (.cells (bcells (List.replicate bs.length 0#8)).toArray 5)) := (Below.refl _ _).alloc (Nat.le_refl _) _
      have HD4 := Lib.hid (objAt_alloc_at wr (.cells (bcells (List.replicate bs.length 0#8)).toArray 5) _ rfl)
      have gS := copied_any _ bs (.slice rp bs.length rc) (stab_rowOf _ _ _ _ _ b4 hrow') (by omega)
      have hCl := oa_lt hCk
      have HC4 := Lib.hid (oa_below hCk b4 hCl)
      have HB4 := Lib.hid (hBk.trans (b4.mono hBk.size))
      clear hCk hc hrow hrow' hcells b4 hBk
      generalize hw4 : wr.alloc (.cells (bcells (List.replicate bs.length 0#8)).toArray 5) = w4 at *
      have hsz4 : wr.heap.size < w4.heap.size := by rw [← hw4]; simp
      clear hw4
      go_wp2_with (go_at_call 15; (with_reducible refine gS.mono ?_); rintro e w7 ⟨v7, rfl, hb7, hr7⟩)
      have hD7 := oa_below HD4.out hb7 hsz4
      have hC7 := oa_below HC4.out hb7 (by omega)
      have hB7 := HB4.out.trans (hb7.mono HB4.out.size)
      have hwr : w.heap.size ≤ wr.heap.size := by omega
      have hGD : nG ≤ wr.heap.size := by have := HG.out; omega
      obtain ⟨p7, sc, rfl, hsc, hsc2, h7⟩ := hr7
      obtain ⟨S, so, rfl, hSn, hSl, hScell⟩ := h7.resolve_left (by intro h; have hq := HBS.out; rw [h] at hq; simp at hq; omega)
      have gX := crypt_any T ks bs (List.replicate bs.length 0#8) C wr.heap.size S so sc n _ 63 5 w7 ⟨HT0.out.below hB7 HT0.out.sz, ⟨_, _, _, hC7, cbcC_key _ _ _ _⟩, hk, by have := HG.out; omega⟩ hC7 (cbcC_iv _ _ _ _) hD7 List.length_replicate hScell (by omega) (by omega) hGD hn HBS.out hsc hsc2
      have HB7 := Lib.hid hB7
      clear hb7 h7 hD7 hC7 hB7 gS HC4 HD4 HB4 hScell hmk
      refine gX.mono ?_
      rintro e w8 ⟨rfl, ho8, hk8⟩
      have hB8 := HB7.out.trans (hk8 _ hCw hwr)
      have hrow8 : rowOf 0 (chnL (ciph T ks) bs n) (.slice (some ⟨wr.heap.size, 0, none⟩) bs.length bs.length) w8 := by
        have h := rowOf_obj (n0 := 0) (c := bs.length) ho8 (bytesIn_all _) (Nat.zero_le _) (by rw [chnL_length, HBS.out]; exact Nat.le_refl _) (by omega)
        rwa [chnL_length, ← HBS.out] at h
      obtain ⟨v9, w9, hrun, hout9, hb9⟩ := out_app w8.heap.size [] _ (.slice none 0 0) _ 22 w8 (.inl ⟨rfl, rfl⟩) hrow8 (Nat.le_refl _) (by rw [chnL_length, ← HBS.out]; simp; omega)
      have HO9 := Lib.hid hout9
      have HB9 := Lib.hid (hB8.trans (hb9.mono hB8.size))
      clear hB8 hrow8 hout9 hb9 ho8 hk8 HB7 gX
      go_wp2_with (at_builtin; refine wpList_append_run rfl _ _ _ _ rfl _ _ rfl rfl hrun ?_; clear hrun)
      go_roundw
      case rel =>
        refine ⟨1, by omega, by go_num, HB9.out, .inr ⟨rfl, ?_⟩⟩
        have h := HO9.out.rowOf
        rw [List.nil_append] at h
        exact h.mono (Nat.zero_le _)
      case measure => simp [intOf]
    · have HOUT := Lib.hid hout
      have HBK := Lib.hid hBk
      clear hout hBk
      go_wp2
      go_ret2
      exact ⟨_, rfl, HOUT.out, HBK.out⟩
end Go.Proofs.YtfcdldcekdbckaeDoor
