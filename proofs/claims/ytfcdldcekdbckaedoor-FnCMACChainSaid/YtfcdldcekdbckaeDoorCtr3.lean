/- The thin package's counter mode. -/
import Derived.Test.YtfcdldcekdbckaeDoorCtr2
import Derived.Test.YtfcdldcekdbckaeDoorLh
namespace Go.Proofs.YtfcdldcekdbckaeDoor
open Go Go.RowKit Gf

def CtrAtP (E : BitVec 128 → BitVec 128) (c : BitVec 128) (off : Nat) (bs : List (BitVec 8)) (w : World) (e : Ending) (w' : World) : Prop :=
  ∃ v, e = .returned (.tuple #[v, .bool true]) ∧ rowOf 0 (ctrL E c off bs) v w' ∧ Below w.heap.size w w'
theorem rowOf.ne {n0 : Nat} {bs : List (BitVec 8)} {v : Value} {w : World} (h : rowOf n0 bs v w) (hne : bs ≠ []) : ∃ b o c, v = .slice (some ⟨b, o, none⟩) bs.length c ∧ bs.length ≤ c ∧ (c : Int) ≤ 9223372036854775807 ∧ n0 ≤ b ∧ b < w.heap.size ∧ RdL w b o bs := by
  obtain ⟨p, c, rfl, h2, h3, h4⟩ := h
  obtain ⟨b, o, rfl, h5, h6, h7⟩ := h4.resolve_left hne
  exact ⟨b, o, c, rfl, h2, h3, h5, h6, h7⟩
set_option maxRecDepth 100000 in
set_option maxHeartbeats 4000000 in
theorem ctrAt_any (T : Tab) (ks bs : List (BitVec 8)) (x : BitVec 128) (off : Nat) (vk vs : Value) (w : World) (hk : isKey ks) (hT : TabAt T w) (hrk : rowOf 0 ks vk w) (hrs : rowOf 0 bs vs w) (hlen : bs.length ≤ 1099511627776) (hoff : off < 9223372036854775808) :
    Calls Tryd.prog 11 #[vk, .agg (blk x), vs, .int .u64 (off : Int)] w (CtrAtP (ciph T ks) (ivOf x) off bs w) := by
  have hkl : ks.length ≤ 281474976710656 := by unfold isKey at hk; omega
  have b1 : Below w.heap.size w (w.alloc (.cells (blk x) 23)) := (Below.refl _ w).alloc (Nat.le_refl _) _
  have hI := Lib.hid (objAt_alloc_at w (.cells (blk x) 23) _ rfl)
  have gk := copied_any _ ks vk (stab_rowOf _ _ _ _ _ b1 hrk) hkl
  have HT := Lib.hid (hT.below b1 hT.sz)
  have HS := Lib.hid (stab_rowOf _ _ _ _ _ b1 hrs)
  have HG := Lib.hid hT.sz
  have B1 := Lib.hid b1
  obtain ⟨pk, ck, rfl⟩ := hrk.slice
  obtain ⟨ps, cs, rfl⟩ := hrs.slice
  clear hT hrk hrs b1
  go_enter Tryd.func11, Tryd.ntmps11
  go_wp2_with (go_at_call 15; (with_reducible refine gk.mono ?_); rintro e w2 ⟨v', rfl, hb2, hr2⟩)
  have hT2 := HT.out.below hb2 HT.out.sz
  refine (new_any T ks v' w2 hk hT2 (hr2.mono (Nat.zero_le _))).mono ?_
  rintro e w3 ⟨B, rfl, hBl, ⟨D0, hB⟩, hb3⟩
  have hb23 := hb2.trans (hb3.mono hb2.size)
  have B3 := Lib.hid (B1.out.trans (hb23.mono (by simp)))
  have HI3 := Lib.hid (oa_below hI.out hb23 (oa_lt hI.out))
  have HT3 := Lib.hid (HT.out.below hb23 HT.out.sz)
  have HS3 := Lib.hid (stab_rowOf _ _ _ _ _ hb23 HS.out)
  have HB := Lib.hid hB
  have hBw : w.heap.size < B := by have := hb2.size; simp at this; omega
  clear hb2 hr2 hb3 hT2 hb23 hB gk HT HS hI B1 hBl
  have hmk := run_makeB w3 bs.length bs.length (by omega) (Nat.le_refl _)
  have b4 : Below w3.heap.size w3 (w3.alloc (.cells (bcells (List.replicate bs.length 0#8)).toArray 5)) := (Below.refl _ _).alloc (Nat.le_refl _) _
  have HD4 := Lib.hid (objAt_alloc_at w3 (.cells (bcells (List.replicate bs.length 0#8)).toArray 5) _ rfl)
  have gV := copied_any _ (bytesOf x) (.slice (some ⟨w.heap.size, 0, none⟩) 16 16) (rowOf_blk (oa_below HI3.out b4 (oa_lt HI3.out)) (Nat.zero_le _)) (by rw [bytesOf_length]; decide)
  have HB4 := Lib.hid (oa_below HB.out b4 (oa_lt HB.out))
  have HT4 := Lib.hid (HT3.out.below b4 HT3.out.sz)
  have HS4 := Lib.hid (stab_rowOf _ _ _ _ _ b4 HS3.out)
  have B4 := Lib.hid (B3.out.trans (b4.mono B3.out.size))
  have hb3l := oa_lt HB.out
  clear HB HT3 HS3 B3 b4 HI3
  generalize hw4 : w3.alloc (.cells (bcells (List.replicate bs.length 0#8)).toArray 5) = w4 at *
  have hsz4 : w3.heap.size < w4.heap.size := by rw [← hw4]; simp
  clear hw4
  go_wp2_with (go_at_call 15; (with_reducible refine gV.mono ?_); rintro e w5 ⟨v5, rfl, hb5, hr5⟩)
  obtain ⟨V, vo, vc, rfl, hvc, _, _, _, hV⟩ := hr5.ne (by intro h; have := congrArg List.length h; rw [bytesOf_length] at this; cases this)
  rw [bytesOf_length] at hvc ⊢
  refine (nCTR_any B (rOf ks) V vo vc (kOf T ks) D0 61 x w5 (oa_below HB4.out hb5 (oa_lt HB4.out)) hV hvc).mono ?_
  rintro e w6 ⟨C, rfl, hCl, hC, hb6⟩
  have hb56 := hb5.trans (hb6.mono hb5.size)
  have HC := Lib.hid hC
  have HD6 := Lib.hid (oa_below HD4.out hb56 hsz4)
  have HT6 := Lib.hid (HT4.out.below hb56 HT4.out.sz)
  have HS6 := Lib.hid (stab_rowOf _ _ _ _ _ hb56 HS4.out)
  have B6 := Lib.hid (B4.out.trans (hb56.mono B4.out.size))
  have hC5 : w3.heap.size < C := by have := hb5.size; omega
  clear hb5 hr5 hV hC hb6 hb56 HB4 HT4 HS4 B4 HD4 hCl gV
  have gS := copied_any w6 bs (.slice ps bs.length cs) HS6.out (by omega)
  go_wp2_with (go_at_call 15; (with_reducible refine gS.mono ?_); rintro e w7 ⟨v7, rfl, hb7, hr7⟩)
  have hD7 := oa_below HD6.out hb7 (oa_lt HD6.out)
  have hC7 := oa_below HC.out hb7 (oa_lt HC.out)
  have hGD : nG ≤ w3.heap.size := by have := HG.out; have := B6.out.size; omega
  have gX := xksR_any T ks C w3.heap.size off 0 D0 71 5 bs (List.replicate bs.length 0#8) v7 (ivOf x) w7 ⟨HT6.out.below hb7 HT6.out.sz, hk, by omega, hC7⟩ (by omega) hGD List.length_replicate hD7 (hr7.rowAt (.inl (oa_lt HD6.out))) hlen hoff
  have B7 := Lib.hid (B6.out.trans (hb7.mono B6.out.size))
  clear hb7 hr7 hD7 hC7 gS
  go_wp2_with (go_at_call 21; (with_reducible refine gX.mono ?_); rintro e w8 ⟨rfl, ho8, hk8⟩; have HO8 := Lib.hid ho8; have HK8 := Lib.hid hk8; clear ho8 hk8)
  go_ret2
  have hr := rowOf_obj (n0 := 0) (c := bs.length) HO8.out (bytesIn_all (ctrL (ciph T ks) (ivOf x) off bs)) (Nat.zero_le _) (by rw [ctrL_length]; exact Nat.le_refl _) (by omega)
  rw [ctrL_length] at hr
  exact ⟨_, rfl, hr, B7.out.trans (HK8.out.bel.mono (by omega))⟩

/-! ### In pieces -/
theorem ctrL_append (E : BitVec 128 → BitVec 128) (c : BitVec 128) (o : Nat) (xs bs : List (BitVec 8)) : ctrL E c o xs ++ ctrL E c (o + xs.length) bs = ctrL E c o (xs ++ bs) := by
  unfold ctrL xorL
  rw [List.length_append, ← ksL_append, List.zipWith_append (by rw [ksL_length])]
theorem flat_take (inp : List (List (BitVec 8))) (k : Nat) (bs : List (BitVec 8)) (h : inp[k]? = some bs) : (inp.take (k + 1)).flatten = (inp.take k).flatten ++ bs := by
  rw [List.take_add_one, h]; simp
theorem flat_len (inp : List (List (BitVec 8))) : inp.flatten.length = total inp := by
  unfold total; rw [List.length_flatten]
def CtrP (E : BitVec 128 → BitVec 128) (c : BitVec 128) (inp : List (List (BitVec 8))) (w : World) (e : Ending) (w' : World) : Prop :=
  ∃ v, e = .returned (.tuple #[v, .bool true]) ∧ rowOf 0 (ctrL E c 0 inp.flatten) v w' ∧ Below w.heap.size w w'
set_option maxRecDepth 100000 in
set_option maxHeartbeats 4000000 in
theorem ctr_any (T : Tab) (ks : List (BitVec 8)) (inp : List (List (BitVec 8))) (x : BitVec 128) (vk vs : Value) (w : World) (hk : isKey ks) (hT : TabAt T w) (hrk : rowOf 0 ks vk w) (hrs : rowsOf 0 inp vs w) (hlen : total inp ≤ 1073741824) :
    Calls Tryd.prog 12 #[vk, .agg (blk x), vs] w (CtrP (ciph T ks) (ivOf x) inp w) := by
  have hkl : ks.length ≤ 281474976710656 := by unfold isKey at hk; omega
  have b1 : Below w.heap.size w (w.alloc (.cells (blk x) 23)) := (Below.refl _ w).alloc (Nat.le_refl _) _
  have hI := Lib.hid (objAt_alloc_at w (.cells (blk x) 23) _ rfl)
  have gk := copied_any _ ks vk (stab_rowOf _ _ _ _ _ b1 hrk) hkl
  have HT := Lib.hid (hT.below b1 hT.sz)
  have HG := Lib.hid hT.sz
  have HT0 := Lib.hid hT
  have B1 := Lib.hid b1
  obtain ⟨pk, ck, rfl⟩ := hrk.slice
  obtain ⟨ps, cs, rfl, hc1, hc2, h4⟩ := hrs
  have HS := Lib.hid h4
  clear hT hrk b1 h4
  go_enter Tryd.func12, Tryd.ntmps12
  go_wp2_with (go_at_call 15; (with_reducible refine gk.mono ?_); rintro e w2 ⟨v', rfl, hb2, hr2⟩)
  have hT2 := HT.out.below hb2 HT.out.sz
  refine (new_any T ks v' w2 hk hT2 (hr2.mono (Nat.zero_le _))).mono ?_
  rintro e w3 ⟨B, rfl, hBl, ⟨D0, hB⟩, hb3⟩
  have hb23 := hb2.trans (hb3.mono hb2.size)
  have HB := Lib.hid hB
  have gV := copied_any w3 (bytesOf x) (.slice (some ⟨w.heap.size, 0, none⟩) 16 16) (rowOf_blk (oa_below hI.out hb23 (oa_lt hI.out)) (Nat.zero_le _)) (by rw [bytesOf_length]; decide)
  have B3 := Lib.hid (B1.out.trans (hb23.mono (by simp)))
  clear hb2 hr2 hb3 hT2 hb23 hB gk HT hI B1 hBl
  go_wp2_with (go_at_call 15; (with_reducible refine gV.mono ?_); rintro e w5 ⟨v5, rfl, hb5, hr5⟩)
  obtain ⟨V, vo, vc, rfl, hvc, _, _, _, hV⟩ := hr5.ne (by intro h; have := congrArg List.length h; rw [bytesOf_length] at this; cases this)
  rw [bytesOf_length] at hvc ⊢
  refine (nCTR_any B (rOf ks) V vo vc (kOf T ks) D0 61 x w5 (oa_below HB.out hb5 (oa_lt HB.out)) hV hvc).mono ?_
  rintro e w6 ⟨C, rfl, hCl, hC, hb6⟩
  have hb56 := hb5.trans (hb6.mono hb5.size)
  have HC := Lib.hid hC
  have B6 := Lib.hid (B3.out.trans (hb56.mono B3.out.size))
  have hCw : w.heap.size ≤ C := by have := B3.out.size; have := hb5.size; omega
  clear hb5 hr5 hV hC hb6 hb56 HB B3 hCl gV
  go_wp2_with (fail)
  go_loopw [11, 13, 14, 29] (fun out _ _ i wr => ∃ k : Nat, k ≤ inp.length ∧ i = .int .i64 (k : Int) ∧ outB (C + 1) (ctrL (ciph T ks) (ivOf x) 0 (inp.take k).flatten) out wr ∧
      objAt wr C = some (.cells (ctrC (rOf ks) (kOf T ks) D0 (loOf (ivOf x)) (hiOf (ivOf x)) (BitVec.ofNat 64 (total (inp.take k)))) 71 (0, 0)) ∧ Below w.heap.size w wr) (fun _ _ _ i _ => inp.length - (intOf i).toNat)
  case atStart => exact ⟨0, Nat.zero_le _, rfl, .inl ⟨rfl, rfl⟩, HC.out, B6.out⟩
  case round =>
    obtain ⟨k, hkl2, rfl, hout, hCk, hBk⟩ := hrel
    have HOUT := Lib.hid hout
    have HBK := Lib.hid hBk
    by_cases hlt : k < inp.length
    · have hlt' : (k : Int) < inp.length := by omega
      obtain ⟨bs, hbsk⟩ : ∃ bs, inp[k]? = some bs := ⟨_, List.getElem?_eq_getElem hlt⟩
      rcases HS.out with h4 | ⟨rb, ro, rfl, _, hrb, hcells⟩
      · rw [h4] at hlt; simp at hlt
      obtain ⟨rv, hc, hrow⟩ := hcells k bs hbsk
      have hc' := (cell_same (hBk.block rb hrb) _).trans hc
      have hrow' := stab_rowOf _ _ _ _ _ hBk hrow
      have ht := total_take inp k bs hbsk
      have hle := total_le inp (k + 1)
      have hle2 := total_le inp k
      have hbl : bs.length ≤ 1073741824 := by omega
      have HFL := Lib.hid (flat_take inp k bs hbsk)
      have HTT := Lib.hid ht
      obtain ⟨rp, rc, rfl⟩ := hrow'.slice
      have hmk := run_makeB wr bs.length bs.length (by omega) (Nat.le_refl _)
      have b4 : Below wr.heap.size wr (wr.alloc (.cells (bcells (List.replicate bs.length 0#8)).toArray 5)) := (Below.refl _ _).alloc (Nat.le_refl _) _
      have HD4 := Lib.hid (objAt_alloc_at wr (.cells (bcells (List.replicate bs.length 0#8)).toArray 5) _ rfl)
      have gS := copied_any _ bs (.slice rp bs.length rc) (stab_rowOf _ _ _ _ _ b4 hrow') (by omega)
      have hCl := oa_lt hCk
      have HC4 := Lib.hid (oa_below hCk b4 hCl)
      have HB4 := Lib.hid (hBk.trans (b4.mono hBk.size))
      have HBW := Lib.hid b4
      clear hCk hout hBk hc hrow hrow' hcells b4 ht hbsk HBK
      generalize hw4 : wr.alloc (.cells (bcells (List.replicate bs.length 0#8)).toArray 5) = w4 at *
      have hsz4 : wr.heap.size < w4.heap.size := by rw [← hw4]; simp
      clear hw4
      go_wp2_with (go_at_call 15; (with_reducible refine gS.mono ?_); rintro e w7 ⟨v7, rfl, hb7, hr7⟩)
      have hD7 := oa_below HD4.out hb7 hsz4
      have hC7 := oa_below HC4.out hb7 (by omega)
      have hB7 := HB4.out.trans (hb7.mono HB4.out.size)
      have hGD : nG ≤ wr.heap.size := by have := HG.out; omega
      have gX := xks_any T ks C wr.heap.size (total (inp.take k)) D0 71 5 bs (List.replicate bs.length 0#8) v7 (ivOf x) w7 ⟨HT0.out.below hB7 HT0.out.sz, hk, by have := HG.out; omega, hC7⟩ (by omega) hGD List.length_replicate hD7 (hr7.rowAt (.inl hsz4)) (by omega) (by omega)
      have HBW7 := Lib.hid (HBW.out.trans (hb7.mono HBW.out.size))
      have HB7 := Lib.hid hB7
      clear hb7 hr7 hD7 hC7 hB7 gS HC4 HD4 HB4 HBW
      refine gX.mono ?_
      rintro e w8 ⟨rfl, ho8, hc8, hk8⟩
      have hout8 := HOUT.out.move (w' := w8) fun N h1 h2 => (hk8.other N (by have := HBW7.out.size; omega) (by omega) (by omega)).trans (HBW7.out.block N h2)
      have hB8 := HB7.out.trans (hk8.bel.mono (by omega))
      have hrow8 : rowOf 0 (ctrL (ciph T ks) (ivOf x) (total (inp.take k)) bs) (.slice (some ⟨wr.heap.size, 0, none⟩) bs.length bs.length) w8 := by
        have h := rowOf_obj (n0 := 0) (c := bs.length) ho8 (bytesIn_all _) (Nat.zero_le _) (by rw [ctrL_length]; exact Nat.le_refl _) (by omega)
        rwa [ctrL_length] at h
      obtain ⟨v9, w9, hrun, hout9, hb9⟩ := out_app (C + 1) _ _ _ _ 22 w8 hout8 hrow8 (by have := oa_lt hc8; omega) (by rw [ctrL_length, ctrL_length, flat_len]; omega)
      have HO9 := Lib.hid hout9
      have HC9 := Lib.hid (oa_below hc8 hb9 (Nat.lt_succ_self C))
      have HB9 := Lib.hid (hB8.trans (hb9.mono (by omega)))
      clear hout8 hB8 hrow8 hout9 hb9 ho8 hc8 hk8 HOUT HBW7 HB7 gX hmk
      go_wp2_with (at_builtin; refine wpList_append_run rfl _ _ _ _ rfl _ _ rfl rfl hrun ?_; clear hrun)
      go_roundw
      case rel =>
        refine ⟨k + 1, by omega, by go_num, ?_, ?_, HB9.out⟩
        · have h := HO9.out
          have e : total (inp.take k) = 0 + ((inp.take k).flatten).length := by rw [flat_len]; omega
          rw [e, ctrL_append, ← HFL.out] at h
          exact h
        · rw [HTT.out]; exact HC9.out
      case measure => simp [intOf]; omega
    · obtain rfl : k = inp.length := by omega
      clear hout hCk hBk
      go_wp2
      go_ret2
      have h := HOUT.out.rowOf
      rw [List.take_length] at h
      exact ⟨_, rfl, h.mono (Nat.zero_le _), HBK.out⟩
end Go.Proofs.YtfcdldcekdbckaeDoor
