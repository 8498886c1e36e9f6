/- What was sealed is opened: the bytes behind it are its tag. -/
import Derived.Test.YtfcdldcekdbckacDoorSeal2
namespace Go.Proofs.YtfcdldcekdbckacDoor
open Go Go.RowKit Gf

theorem gctr_gctr (E : BitVec 128 → BitVec 128) (x : BitVec 128) (bs : List (BitVec 8)) : gctr E x (gctr E x bs) = bs := by
  refine List.ext_getElem? fun i => ?_
  by_cases hi : i < bs.length
  · have e1 : bs[i]? = some bs[i] := List.getElem?_eq_getElem hi
    have e2 := gkL_get E x bs.length i hi
    have h1 : (gctr E x bs)[i]? = some (bs[i] ^^^ byte (E (incN x (i / 16))) (i % 16)) := xorL_get _ _ i _ _ e1 e2
    have h2 : (gctr E x (gctr E x bs))[i]? = some ((bs[i] ^^^ byte (E (incN x (i / 16))) (i % 16)) ^^^ byte (E (incN x (i / 16))) (i % 16)) := xorL_get _ _ i _ _ h1 (by rw [gctr_length]; exact e2)
    rw [h2, e1, BitVec.xor_assoc, BitVec.xor_self, BitVec.xor_zero]
  · rw [List.getElem?_eq_none (by rw [gctr_length, gctr_length]; omega), List.getElem?_eq_none (by omega)]
theorem rowAt_of {Y : Nat} {bs : List (BitVec 8)} {v : Value} {w W : World} (h : rowOf 0 bs v w) (hb : Below w.heap.size w W) (hY : w.heap.size ≤ Y) : RowAt Y W v bs := by
  obtain ⟨p, c, h1, h2, h3, h4⟩ := h
  refine ⟨p, c, h1, h2, h3, h4.imp id ?_⟩
  rintro ⟨b, o, h5, _, h7, h8⟩
  exact ⟨b, o, h5, by omega, Nat.lt_of_lt_of_le h7 hb.size, fun i x hx => (cell_same (hb.block b h7) _).trans (h8 i x hx)⟩
set_option maxRecDepth 100000 in
set_option maxHeartbeats 400000 in
theorem ctrG_nil (B K co cs : Nat) (po ps : Option Addr) (w : World) :
    Calls Tryd.prog 30 #[.pointer (some ⟨B, 0, none⟩), .slice po 0 co, .slice ps 0 cs, .pointer (some ⟨K, 0, none⟩)] w fun e w' => e = .returned (.tuple #[]) ∧ Below w.heap.size w w' := by
  have b0 : Below w.heap.size w (w.alloc (.cells (blk 0#128) 69)) := (Below.refl _ _).alloc (Nat.le_refl _) _
  go_enter Tryd.func30, Tryd.ntmps30
  go_wp2_with (fail)
  go_loopw [1, 2] (fun d s wr => d = .slice po 0 co ∧ s = .slice ps 0 cs ∧ Below w.heap.size w wr) (fun _ s _ => lenM s)
  case atStart => exact ⟨rfl, rfl, b0⟩
  case round =>
    obtain ⟨rfl, rfl, hb⟩ := hrel
    have HB := Lib.hid hb
    clear hb b0
    go_wp2_with (fail)
    exact bodyPost_end (v := .tuple #[]) (by simp [results, Tryd.results30, go_sem]) rfl ⟨rfl, HB.out⟩

@[go_sem] theorem xor_same8 (x : BitVec 8) : n8 (wxor x x) = 0 := by unfold wxor; rw [BitVec.xor_self]; rfl
set_option maxRecDepth 100000 in
set_option maxHeartbeats 400000 in
theorem ctc_any (bs : List (BitVec 8)) (v u : Value) (w : World) (h : rowOf 0 bs v w) (h' : rowOf 0 bs u w) :
    Calls Tryd.prog 32 #[v, u] w fun e w' => e = .returned (.int .i64 1) ∧ Below w.heap.size w w' := by
  obtain ⟨p, c, rfl, hc1, hc2, h4⟩ := h
  obtain ⟨q, d, rfl, hd1, hd2, g4⟩ := h'
  have H := Lib.hid h4
  have G := Lib.hid g4
  clear h4 g4
  go_enter Tryd.func32, Tryd.ntmps32
  go_wp2_with (fail)
  go_loopw [5, 14] (fun v i wr => ∃ k m : Nat, k ≤ bs.length ∧ i = .int .i64 k ∧ v = .int .u8 0 ∧ wr = w.drewN m) (fun _ i _ => bs.length - (intOf i).toNat)
  case atStart => exact ⟨0, 0, Nat.zero_le _, rfl, rfl, rfl⟩
  case round =>
    obtain ⟨k, m, hk, rfl, rfl, rfl⟩ := hrel
    by_cases hlt : k < bs.length
    · have hk' : (k : Int) < bs.length := by omega
      rcases H.out with h0 | ⟨b, o, rfl, _, hb, hcell⟩
      · rw [h0] at hlt; simp at hlt
      rcases G.out with h0 | ⟨b2, o2, rfl, _, hb2, hcell2⟩
      · rw [h0] at hlt; simp at hlt
      have e1 : bs[k]? = some bs[k] := List.getElem?_eq_getElem hlt
      generalize bs[k] = x at e1
      have c1 := hcell k x e1
      have c2 := hcell2 k x e1
      have c1' : (w.drewN m).cell? ⟨b, o + k, none⟩ = some (.int .u8 (n8 x)) := c1
      have c2' : (w.drewN m).cell? ⟨b2, o2 + k, none⟩ = some (.int .u8 (n8 x)) := c2
      clear hcell hcell2 H G e1
      go_wp2_with (fail)
      refine wp_region_still_tail 11 (by kernel_rfl) (by kernel_rfl) ?_
      change wpStill _ _ (World.drew _) (fun a' => wpList _ _ _ _ a' (World.drew _)) _ _
      simp only [List.take_succ_cons, List.take_zero, List.drop_succ_cons, List.drop_zero]
      repeat still_step
      refine wpStill_nil ?_
      go_wp2_with (fail)
      go_roundw
      case rel => exact ⟨k + 1, m + 1, by omega, by go_num, rfl, rfl⟩
      case measure => simp [intOf]; omega
    · obtain rfl : k = bs.length := by omega
      clear H G
      go_wp2_with (fail)
      go_ret
      exact ⟨rfl, bel_drewN (Below.refl _ _) _⟩

theorem bytesIn_take (x : BitVec 128) (n : Nat) : BytesIn (blk x) 0 ((bytesOf x).take n) := fun i y hy => by
  rw [List.getElem?_take] at hy
  split at hy
  · rw [blk_bcells]; exact bytesIn_all _ i y hy
  · cases hy
set_option maxRecDepth 100000 in
set_option maxHeartbeats 4000000 in
theorem openG_any (T : Tab) (ks ns ct ds : List (BitVec 8)) (G ts : Nat) (D0 : Nat → BitVec 32) (tG : TypeId) (vo vn vc vd : Value) (w : World) (Q : World → Prop) (hT : TabAt T w) (hk : isKey ks) (hlow : nG ≤ G) (hG : objAt w G = some (.cells (gcmC (rOf ks) (kOf T ks) D0 (ns.length : Int) (ts : Int)) tG (0, 0)))
    (hn : rowOf 0 ns vn w) (hc : rowOf 0 (ct ++ (bytesOf (tgOf (ciph T ks) ns ct ds)).take ts) vc w) (hd : rowOf 0 ds vd w) (ht1 : 12 ≤ ts) (ht2 : ts ≤ 16)
    (hnl : ns.length ≤ 2147483647) (hcl : ct.length ≤ 2147483647) (hdl : ds.length ≤ 2147483647)
    (hlast : ∀ (pc : Option Addr) (c Cb : Nat) (W : World), vc = .slice pc (ct.length + ts) c → w.heap.size ≤ Cb → Below w.heap.size w W → objAt W Cb = some (.cells (blk (inc4 (cOf (ciph T ks) ns))) 69 (0, 0)) →
      Calls Tryd.prog 30 #[.pointer (some ⟨G, 0, none⟩), vo, .slice pc ct.length c, .pointer (some ⟨Cb, 0, none⟩)] W fun e w' => e = .returned (.tuple #[]) ∧ Q w') :
    Calls Tryd.prog 22 #[vo, .pointer (some ⟨G, 0, none⟩), vn, vc, vd] w fun e w' => e = .returned .nilIface ∧ Q w' := by
  have hGl := oa_lt hG
  have c122 := (objAt_cell hG 122).trans (gcmC_ts _ _ _ _ _)
  have hC : CiphAt T ks w G := ⟨hT, ⟨_, _, _, hG, gcmC_key _ _ _ _ _⟩, hk, hlow⟩
  obtain ⟨N, hN⟩ : ∃ N, N = w.heap.size := ⟨_, rfl⟩
  obtain ⟨Cb, hCb⟩ : ∃ Cb, Cb = N + 1 := ⟨_, rfl⟩
  obtain ⟨Mb, hMb⟩ : ∃ Mb, Mb = Cb + 1 := ⟨_, rfl⟩
  obtain ⟨w1, hw1⟩ : ∃ w1, w1 = (((w.alloc (.cells (blk 0#128) 69)).alloc (.cells (blk 0#128) 69)).alloc (.cells (blk 0#128) 69)) := ⟨_, rfl⟩
  have b1 : Below w.heap.size w w1 := by rw [hw1]; exact (((Below.refl _ _).alloc (Nat.le_refl _) _).alloc (by simp) _).alloc (by simp; omega) _
  have k1 := Lib.hid b1
  have H1 := Lib.hid (show objAt w1 N = some (.cells (blk 0#128) 69 (0, 0)) by rw [hw1, hN]; simp [go_sem])
  have C1 := Lib.hid (show objAt w1 Cb = some (.cells (blk 0#128) 69 (0, 0)) by rw [hw1, hCb, hN]; simp [go_sem])
  have M1 := Lib.hid (show objAt w1 Mb = some (.cells (blk 0#128) 69 (0, 0)) by rw [hw1, hMb, hCb, hN]; simp [go_sem])
  have HC := Lib.hid (hC.below b1 hGl)
  have HN := Lib.hid hn
  have HCT := Lib.hid hc
  have HDD := Lib.hid hd
  have HL := Lib.hid hlast
  have HG0 := Lib.hid hG
  obtain ⟨E, hE⟩ : ∃ E, E = ciph T ks := ⟨_, rfl⟩
  have HE := Lib.hid hE
  have hNle : w.heap.size ≤ N := Nat.le_of_eq hN.symm
  have hGN : nG ≤ N := by have := hC.tab.sz; omega
  have htl : ((bytesOf (tgOf (ciph T ks) ns ct ds)).take ts).length = ts := by rw [List.length_take, bytesOf_length]; omega
  obtain ⟨m, hm⟩ : ∃ m, m = ct.length + ts := ⟨_, rfl⟩
  obtain ⟨pn, cn, rfl⟩ := hn.slice
  obtain ⟨pc, cc1, hvc, hcc1, hcc2, hcell0⟩ := hc
  obtain ⟨S, os, hpc, _, hSl, hcell⟩ := hcell0.resolve_left (by intro h; have h2 := congrArg List.length h; rw [List.length_append, htl] at h2; simp at h2; omega)
  clear hcell0
  subst hpc
  rw [List.length_append, htl, ← hm] at hvc hcc1
  subst hvc
  obtain ⟨l, hl⟩ : ∃ l, l = ct.length := ⟨_, rfl⟩
  have eml : (m : Int) - (ts : Int) = (l : Int) := by omega
  have klm : (l : Int) ≤ (m : Int) := by omega
  have kmc : (m : Int) ≤ (cc1 : Int) := by omega
  have klc : (l : Int) ≤ (cc1 : Int) := by omega
  have nml : m - l = ts := by omega
  have ncl : ¬ cc1 = l := by omega
  have kts : (ts : Int) ≤ 16 := by omega
  have HLL := Lib.hid hl
  obtain ⟨pd, cd, rfl⟩ := hd.slice
  have hrc0 : rowOf 0 ct (.slice (some ⟨S, os, none⟩) l cc1) w := by
    have h : rowOf 0 ct (.slice (some ⟨S, os, none⟩) ct.length cc1) w := ⟨_, cc1, rfl, by omega, hcc2, .inr ⟨S, os, rfl, Nat.zero_le _, hSl, fun i x hx => hcell i x (by rw [List.getElem?_append_left (List.getElem?_eq_some_iff.1 hx).1]; exact hx)⟩⟩
    rwa [← hl] at h
  have hrt0 : rowOf 0 ((bytesOf (tgOf (ciph T ks) ns ct ds)).take ts) (.slice (some ⟨S, os + l, none⟩) ts (cc1 - l)) w := by
    have h : rowOf 0 ((bytesOf (tgOf (ciph T ks) ns ct ds)).take ts) (.slice (some ⟨S, os + l, none⟩) ((bytesOf (tgOf (ciph T ks) ns ct ds)).take ts).length (cc1 - l)) w := ⟨_, cc1 - l, rfl, by rw [htl]; omega, by omega, .inr ⟨S, os + l, rfl, Nat.zero_le _, hSl, fun i x hx => (by rw [Nat.add_assoc, hl]; exact hcell (ct.length + i) x (by rw [List.getElem?_append_right (by omega), Nat.add_sub_cancel_left]; exact hx))⟩⟩
    rwa [htl] at h
  obtain ⟨tg, htg⟩ : ∃ tg, tg = tgOf (ciph T ks) ns ct ds := ⟨_, rfl⟩
  rw [← htg] at hrt0
  have HTG := Lib.hid htg
  have RC0 := Lib.hid hrc0
  have RT0 := Lib.hid hrt0
  have HM := Lib.hid hm
  clear hC hG hT hn hd hE b1 hlast hcell hm htl hl hrc0 hrt0 htg HCT
  go_enter Tryd.func22, Tryd.ntmps22
  go_wp2_with (fail)
  rw [← hw1, ← hN, ← hCb, ← hMb]
  have nNC : N ≠ Cb := by omega
  have nNM : N ≠ Mb := by omega
  have nCM : Cb ≠ Mb := by omega
  have nGN : G ≠ N := by omega
  have nGC : G ≠ Cb := by omega
  have nGM : G ≠ Mb := by omega
  have lC : w.heap.size ≤ Cb := by omega
  have lM : w.heap.size ≤ Mb := by omega
  have gC : nG ≤ Cb := by omega
  have gM : nG ≤ Mb := by omega
  clear hw1 hN hCb hMb
  -- the hash's key
  have g1 := Lib.hid (fun m => encX N 0#128 69 (w1.drewN m) (HC.out.drewN m) (oa_drewN H1.out m))
  rw [← HE.out] at g1
  refine wp_region_chain (l := [_, _, _, _, _, _]) (fun _ => True) (fun w' => ∃ m, w' = w1.drewN m) (by kernel_rfl) (by kernel_rfl) ⟨1, rfl⟩ (fun _ _ => trivial) ?_
  iterate 5 (refine chain_val (v := ?_) (by rfl) ?_ ?_; rotate_left; (focus (intro w2 b2; (try obtain ⟨m2, rfl⟩ := b2); go_simp; (try with_reducible rfl); done)); simp only [Act.put, List.setIfInBounds_toArray, List.set_cons_zero, List.set_cons_succ])
  refine chain_call (fun w' => objAt w' N = some (.cells (blk (E 0#128)) 69 (0, 0)) ∧ Keeps N w1 w') (v := .tuple #[]) (f := 28) (args := #[.pointer (some ⟨G, 0, none⟩), .slice (some ⟨N, 0, none⟩) 16 16, .slice (some ⟨N, 0, none⟩) 16 16]) rfl (by rfl) (fun _ _ => trivial) (fun w2 b2 => (by go_simp; done))
    (fun w2 b2 => (by
      obtain ⟨m2, rfl⟩ := b2
      refine (g1.out m2).mono fun e w' he => ?_
      obtain ⟨he, ho, hk⟩ := he
      exact ⟨he, ho, (keeps_drewN (Keeps.refl N w1) m2).trans hk⟩)) ?_
  simp only [Act.put, List.setIfInBounds_toArray, List.set_cons_zero, List.set_cons_succ]
  refine chain_nil fun w2 b2 => ?_
  obtain ⟨h2, q2⟩ := b2
  have H2 := Lib.hid h2
  have C2 := Lib.hid (q2.at_ C1.out nNC.symm)
  have M2 := Lib.hid (q2.at_ M1.out nNM.symm)
  have K2 := Lib.hid (k1.out.trans (q2.bel.mono hNle))
  have HC2 := Lib.hid (HC.out.keeps q2 nGN hGN)
  clear h2 q2 g1 H1 C1 M1 k1 HC
  -- the first counter
  have g2 := Lib.hid (deriveC_any N Cb (E 0#128) 69 69 ns _ w2 hnl H2.out C2.out nNC (rowAt_of HN.out K2.out lC))
  have hcc : firstOf (E 0#128) ns = cOf E ns := rfl
  rw [hcc] at g2
  obtain ⟨cc, hc0⟩ : ∃ cc, cc = cOf E ns := ⟨_, rfl⟩
  rw [← hc0] at g2
  have HCC := Lib.hid hc0
  clear hcc hc0
  go_wp2_with (go_at_call 29; (with_reducible refine g2.out.mono ?_); rintro e w3 ⟨rfl, h3, q3⟩; have C3 := Lib.hid h3; have Q3 := Lib.hid q3; clear h3 q3 g2)
  have q3 := Q3.out
  have H3 := Lib.hid (q3.at_ H2.out nNC)
  have M3 := Lib.hid (q3.at_ M2.out nCM.symm)
  have K3 := Lib.hid (K2.out.trans (q3.bel.mono lC))
  have HC3 := Lib.hid (HC2.out.keeps q3 nGC gC)
  clear q3 Q3 H2 C2 M2 K2 HC2
  -- the tag's mask
  have zr : ByteRoom (blk 0#128) 0 16 := ⟨bytesOf 0#128, bytesOf_length _, by rw [blk_bcells]; exact bytesIn_all _⟩
  have zb : BytesIn (blk 0#128) 0 (bytesOf 0#128) := by rw [blk_bcells]; exact bytesIn_all _
  have z16 := bytesOf_length 0#128
  have g3 := Lib.hid (fun m => ctrG_any T ks (bytesOf 0#128) G Mb Cb Mb 0 0 16 16 16 (some ⟨Mb, 0, none⟩) (blk 0#128) 69 69 cc (w3.drewN m) (HC3.out.drewN m) (oa_drewN M3.out m) (oa_drewN C3.out m) (rdL_obj (oa_drewN M3.out m) zb) (fun _ => rfl) (by rw [z16]; exact zr) ⟨by rw [z16]; decide, by decide, by decide, by rw [z16]; decide, by decide, .inr rfl, nCM.symm, nGM, nGC, nCM.symm, gM, gC⟩)
  rw [← HE.out, gctr_zero, put_blk, z16] at g3
  clear zr zb z16
  go_wp2_with (fail)
  refine wp_region_chain (l := [_, _, _, _, _, _]) (fun _ => True) (fun w' => ∃ m, w' = w3.drewN m) (by kernel_rfl) (by kernel_rfl) ⟨1, rfl⟩ (fun _ _ => trivial) ?_
  iterate 5 (refine chain_val (v := ?_) (by rfl) ?_ ?_; rotate_left; (focus (intro w2 b2; (try obtain ⟨m2, rfl⟩ := b2); go_simp; (try with_reducible rfl); done)); simp only [Act.put, List.setIfInBounds_toArray, List.set_cons_zero, List.set_cons_succ])
  refine chain_call (fun w' => objAt w' Mb = some (.cells (blk (E cc)) 69 (0, 0)) ∧ objAt w' Cb = some (.cells (blk (inc4 cc)) 69 (0, 0)) ∧ Keeps2 Mb Cb w3 w') (v := .tuple #[]) (f := 30) (args := #[.pointer (some ⟨G, 0, none⟩), .slice (some ⟨Mb, 0, none⟩) 16 16, .slice (some ⟨Mb, 0, none⟩) 16 16, .pointer (some ⟨Cb, 0, none⟩)]) rfl (by rfl) (fun _ _ => trivial) (fun w2 b2 => (by go_simp; done))
    (fun w2 b2 => (by
      obtain ⟨m2, rfl⟩ := b2
      refine (g3.out m2).mono fun e w' he => ?_
      obtain ⟨he, ho, hc, hk⟩ := he
      exact ⟨he, ho, hc, ((Keeps2.refl Mb Cb w3).drewN m2).trans hk⟩)) ?_
  simp only [Act.put, List.setIfInBounds_toArray, List.set_cons_zero, List.set_cons_succ]
  refine chain_nil fun w4 b4 => ?_
  obtain ⟨m4, c4, q4⟩ := b4
  have M4 := Lib.hid m4
  have C4 := Lib.hid c4
  have H4 := Lib.hid (q4.at_ H3.out nNM nNC)
  have K4 := Lib.hid (K3.out.trans (q4.bel.mono (by omega : w.heap.size ≤ min Mb Cb)))
  have HC4 := Lib.hid (HC3.out.keeps2 q4 nGM nGC gM gC)
  clear m4 c4 q4 g3 H3 C3 M3 K3 HC3
  rename_i hKK
  refine hKK _ _ ?_
  clear hKK
  have c4 : w4.cell? ⟨G, 122, none⟩ = some (.int .i64 (ts : Int)) := (cell_same (K4.out.block G hGl) _).trans c122
  obtain ⟨X, hX⟩ : ∃ X, X = w4.heap.size := ⟨_, rfl⟩
  have hXw : w.heap.size ≤ X := by have := K4.out.size; omega
  have hXM : Mb ≠ X := by have := oa_lt M4.out; omega
  have hXC : Cb ≠ X := by have := oa_lt C4.out; omega
  have b5 : Below w4.heap.size w4 (w4.alloc (.cells (blk 0#128) 69)) := (Below.refl _ _).alloc (Nat.le_refl _) _
  have K5 := Lib.hid (K4.out.trans (b5.mono K4.out.size))
  have X5 := objAt_alloc_at w4 (.cells (blk 0#128) 69) _ rfl
  have C5 := Lib.hid (oa_below C4.out b5 (oa_lt C4.out))
  have g5 := authG_any w4.heap.size N Mb (E 0#128) (E cc) 0#128 69 69 69 (0, 0) ct ds _ _ _ X5 (oa_below H4.out b5 (oa_lt H4.out)) (oa_below M4.out b5 (oa_lt M4.out)) (by rw [← hX]; exact hXM) (stab_rowOf _ _ _ _ _ K5.out RC0.out) (stab_rowOf _ _ _ _ _ K5.out HDD.out) (by omega) hdl
  have hte : tagOf (E 0#128) (E cc) ct ds = tg := by rw [HTG.out, ← HE.out]; unfold tgOf; rw [← HCC.out]
  rw [hte] at g5
  clear hte X5 b5
  have HX := Lib.hid hX
  clear hX
  go_wp2_with (first
    | (go_at_call 31; (with_reducible refine g5.mono ?_); rintro e w6 ⟨rfl, x6, q6⟩
       have K6 := Lib.hid (K5.out.trans (q6.bel.mono (by rw [← HX.out]; exact hXw)))
       have C6 := Lib.hid (q6.at_ C5.out (by rw [← HX.out]; exact hXC))
       have c6 : w6.cell? ⟨G, 122, none⟩ = some (.int .i64 (ts : Int)) := (cell_same (K6.out.block G hGl) _).trans c122
       have hx := rowOf_obj (n0 := 0) (c := 16) x6 (bytesIn_take tg ts) (Nat.zero_le _) (by rw [List.length_take, bytesOf_length]; omega) (by decide)
       rw [show ((bytesOf tg).take ts).length = ts by rw [List.length_take, bytesOf_length]; omega] at hx
       have gc := ctc_any ((bytesOf tg).take ts) _ _ w6 hx (stab_rowOf _ _ _ _ _ K6.out RT0.out)
       clear x6 q6 g5 hx)
    | (go_at_call 32; (with_reducible refine gc.mono ?_); rintro e w7 ⟨rfl, hb7⟩
       have K7 := K6.out.trans (hb7.mono K6.out.size)
       have C7 := oa_below C6.out hb7 (oa_lt C6.out)
       have gl := HL.out (some ⟨S, os, none⟩) cc1 Cb w7 (by rw [HM.out]) lC K7 (by rw [← HE.out, ← HCC.out]; exact C7)
       rw [← HLL.out] at gl
       clear gc hb7 K7 C7)
    | (go_at_call 30; (with_reducible refine gl.mono ?_); rintro e w8 ⟨rfl, hq⟩))
  go_ret
  exact ⟨rfl, hq⟩
end Go.Proofs.YtfcdldcekdbckacDoor
