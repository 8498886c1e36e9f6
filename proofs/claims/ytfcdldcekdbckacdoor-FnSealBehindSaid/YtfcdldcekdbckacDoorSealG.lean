/- A plaintext is sealed into a place: encrypted, its tag behind it. -/
import Derived.Test.YtfcdldcekdbckacDoorCtrG
import Derived.Test.YtfcdldcekdbckacDoorGcm
import Derived.Test.YtfcdldcekdbckacDoorAuth
namespace Go.Proofs.YtfcdldcekdbckacDoor
open Go Go.RowKit Gf

/-- What is sealed: the ciphertext, and the first ts bytes of its tag. -/
def cOf (E : BitVec 128 → BitVec 128) (ns : List (BitVec 8)) : BitVec 128 := firstOf (E 0#128) ns
def ctOf (E : BitVec 128 → BitVec 128) (ns pt : List (BitVec 8)) : List (BitVec 8) := gctr E (inc4 (cOf E ns)) pt
def tgOf (E : BitVec 128 → BitVec 128) (ns ct ds : List (BitVec 8)) : BitVec 128 := tagOf (E 0#128) (E (cOf E ns)) ct ds
def sealL (E : BitVec 128 → BitVec 128) (ns pt ds : List (BitVec 8)) (ts : Nat) : List (BitVec 8) := ctOf E ns pt ++ (bytesOf (tgOf E ns (ctOf E ns pt) ds)).take ts
theorem ctOf_length (E : BitVec 128 → BitVec 128) (ns pt : List (BitVec 8)) : (ctOf E ns pt).length = pt.length := gctr_length _ _ _
theorem sealL_length (E : BitVec 128 → BitVec 128) (ns pt ds : List (BitVec 8)) (ts : Nat) (h : ts ≤ 16) : (sealL E ns pt ds ts).length = pt.length + ts := by
  unfold sealL
  rw [List.length_append, ctOf_length, List.length_take, bytesOf_length, Nat.min_eq_left h]

theorem RowAt.move {D Y : Nat} {w W : World} {v : Value} {bs : List (BitVec 8)} (h : RowAt D w v bs) (hk : Keeps D w W) (hY : w.heap.size ≤ Y) : RowAt Y W v bs := by
  obtain ⟨p, c, h1, h2, h3, h4⟩ := h
  refine ⟨p, c, h1, h2, h3, h4.imp id ?_⟩
  rintro ⟨b, o, h5, h6, h7, h8⟩
  exact ⟨b, o, h5, by omega, Nat.lt_of_lt_of_le h7 hk.size, fun i x hx => (hk.cell h7 h6 _).trans (h8 i x hx)⟩
theorem RowAt.rdL {D : Nat} {w : World} {p : Option Addr} {n c : Nat} {bs : List (BitVec 8)} (h : RowAt D w (.slice p n c) bs) (X : Nat) (hX : X ≠ D) : ∃ S o, S ≠ D ∧ (S = X ∨ S < w.heap.size) ∧ RdL w S o bs ∧ (bs ≠ [] → p = some ⟨S, o, none⟩) := by
  obtain ⟨p', c', h1, h2, h3, h4⟩ := h
  cases h1
  rcases h4 with rfl | ⟨b, o, h5, h6, h7, h8⟩
  · exact ⟨X, 0, hX, .inl rfl, fun i x hx => by simp at hx, fun h => absurd rfl h⟩
  · exact ⟨b, o, h6, .inr h7, h8, fun _ => h5⟩
theorem Keeps.keeps2_ {g h : Nat} {a b c : World} (x : Keeps g a b) (y : Keeps2 g h b c) (hg : g < a.heap.size) (hh : a.heap.size ≤ h) : Keeps g a c :=
  ⟨x.bel.trans (y.bel.mono (by omega)), Nat.le_trans x.size y.size, fun k hk h1 => (y.other k (Nat.lt_of_lt_of_le hk x.size) h1 (by omega)).trans (x.other k hk h1)⟩

set_option maxRecDepth 100000 in
set_option maxHeartbeats 4000000 in
theorem sealG_any (T : Tab) (ks ns pt ds : List (BitVec 8)) (G D od dn dc ts : Nat) (vn vp vd : Value) (cs : Array Value) (tD : TypeId) (w : World) (hC : CiphAt T ks w G) (hD : objAt w D = some (.cells cs tD (0, 0))) (hroom : ByteRoom cs od dn)
    (hn : RowAt D w vn ns) (hp : RowAt D w vp pt) (hd : RowAt D w vd ds) (hGD : G ≠ D) (hlow : nG ≤ D) (hdn : dn = pt.length + ts) (ht1 : 12 ≤ ts) (ht2 : ts ≤ 16) (hdc : dn ≤ dc) (hdc2 : (dc : Int) ≤ 9223372036854775807)
    (hnl : ns.length ≤ 2147483647) (hpl : pt.length ≤ 2147483647) (hdl : ds.length ≤ 2147483647) :
    Calls Tryd.prog 27 #[.slice (some ⟨D, od, none⟩) dn dc, .pointer (some ⟨G, 0, none⟩), vn, vp, vd] w
      fun e w' => e = .returned (.tuple #[]) ∧ objAt w' D = some (.cells (putL cs od (sealL (ciph T ks) ns pt ds ts)) tD (0, 0)) ∧ Keeps D w w' := by
  subst hdn
  have hDl := oa_lt hD
  have hGl := hC.lt
  obtain ⟨N, hN⟩ : ∃ N, N = w.heap.size := ⟨_, rfl⟩
  obtain ⟨Cb, hCb⟩ : ∃ Cb, Cb = N + 1 := ⟨_, rfl⟩
  obtain ⟨Mb, hMb⟩ : ∃ Mb, Mb = Cb + 1 := ⟨_, rfl⟩
  obtain ⟨w1, hw1⟩ : ∃ w1, w1 = (((w.alloc (.cells (blk 0#128) 69)).alloc (.cells (blk 0#128) 69)).alloc (.cells (blk 0#128) 69)) := ⟨_, rfl⟩
  have b1 : Below w.heap.size w w1 := by rw [hw1]; exact (((Below.refl _ _).alloc (Nat.le_refl _) _).alloc (by simp) _).alloc (by simp; omega) _
  have k1 := Lib.hid (Keeps.of_below b1 hDl (Nat.le_refl _))
  have H1 := Lib.hid (show objAt w1 N = some (.cells (blk 0#128) 69 (0, 0)) by rw [hw1, hN]; simp [go_sem])
  have C1 := Lib.hid (show objAt w1 Cb = some (.cells (blk 0#128) 69 (0, 0)) by rw [hw1, hCb, hN]; simp [go_sem])
  have M1 := Lib.hid (show objAt w1 Mb = some (.cells (blk 0#128) 69 (0, 0)) by rw [hw1, hMb, hCb, hN]; simp [go_sem])
  have D1 := Lib.hid (oa_below hD b1 hDl)
  have HC := Lib.hid (hC.below b1 hGl)
  have HR := Lib.hid hroom
  have HN := Lib.hid hn
  have HP := Lib.hid hp
  have HDD := Lib.hid hd
  obtain ⟨pn, cn, rfl⟩ := hn.slice
  obtain ⟨pp, cp, rfl⟩ := hp.slice
  obtain ⟨pd, cd, rfl⟩ := hd.slice
  obtain ⟨E, hE⟩ : ∃ E, E = ciph T ks := ⟨_, rfl⟩
  rw [← hE]
  have HE := Lib.hid hE
  have hNle : w.heap.size ≤ N := Nat.le_of_eq hN.symm
  have hGN : nG ≤ N := by have := hC.tab.sz; omega
  clear hC hD hroom hn hp hd hE b1
  go_enter Tryd.func27, Tryd.ntmps27
  go_wp2_with (fail)
  rw [← hw1, ← hN, ← hCb, ← hMb]
  have nNC : N ≠ Cb := by omega
  have nNM : N ≠ Mb := by omega
  have nCM : Cb ≠ Mb := by omega
  have nND : N ≠ D := by omega
  have nCD : Cb ≠ D := by omega
  have nMD : Mb ≠ D := by omega
  have nGN : G ≠ N := by omega
  have nGC : G ≠ Cb := by omega
  have nGM : G ≠ Mb := by omega
  have lC : w.heap.size ≤ Cb := by omega
  have lM : w.heap.size ≤ Mb := by omega
  have gC : nG ≤ Cb := by omega
  have gM : nG ≤ Mb := by omega
  clear hw1 hN hCb hMb
  -- the hash's key
  have g1 := Lib.hid (fun m => encX N 0#128 69 (w1.drewN m) (HC.out.drewN m) (oa_drewN H1.out m))
  rw [← HE.out] at g1
  refine wp_region_chain (l := [_, _, _, _, _, _]) (fun _ => True) (fun w' => ∃ m, w' = w1.drewN m) (by kernel_rfl) (by kernel_rfl) ⟨1, rfl⟩ (fun _ _ => trivial) ?_
  iterate 5 (refine chain_val (v := ?_) (by rfl) ?_ ?_; rotate_left; (focus (intro w2 b2; (try obtain ⟨m2, rfl⟩ := b2); go_simp; (try with_reducible rfl); done)); simp only [Act.put, List.setIfInBounds_toArray, List.set_cons_zero, List.set_cons_succ])
  refine chain_call (fun w' => objAt w' N = some (.cells (blk (E 0#128)) 69 (0, 0)) ∧ Keeps N w1 w') (v := .tuple #[]) (f := 28) (args := #[.pointer (some ⟨G, 0, none⟩), .slice (some ⟨N, 0, none⟩) 16 16, .slice (some ⟨N, 0, none⟩) 16 16]) rfl (by rfl) (fun _ _ => trivial) (fun w2 b2 => (by go_simp; done))
    (fun w2 b2 => (by
      obtain ⟨m2, rfl⟩ := b2
      refine (g1.out m2).mono fun e w' he => ?_
      obtain ⟨he, ho, hk⟩ := he
      exact ⟨he, ho, (keeps_drewN (Keeps.refl N w1) m2).trans hk⟩)) ?_
  simp only [Act.put, List.setIfInBounds_toArray, List.set_cons_zero, List.set_cons_succ]
  refine chain_nil fun w2 b2 => ?_
  obtain ⟨h2, q2⟩ := b2
  have H2 := Lib.hid h2
  have C2 := Lib.hid (q2.at_ C1.out nNC.symm)
  have M2 := Lib.hid (q2.at_ M1.out nNM.symm)
  have D2 := Lib.hid (q2.at_ D1.out nND.symm)
  have K2 := Lib.hid (k1.out.below hDl hNle q2.bel)
  have HC2 := Lib.hid (HC.out.keeps q2 nGN hGN)
  clear h2 q2 g1 H1 C1 M1 D1 k1 HC
  -- the first counter
  have g2 := Lib.hid (deriveC_any N Cb (E 0#128) 69 69 ns _ w2 hnl H2.out C2.out nNC (HN.out.move K2.out lC))
  have hcc : firstOf (E 0#128) ns = cOf E ns := rfl
  rw [hcc] at g2
  obtain ⟨cc, hc0⟩ : ∃ cc, cc = cOf E ns := ⟨_, rfl⟩
  rw [← hc0] at g2
  have HCC := Lib.hid hc0
  clear hcc hc0
  go_wp2_with (go_at_call 29; (with_reducible refine g2.out.mono ?_); rintro e w3 ⟨rfl, h3, q3⟩; have C3 := Lib.hid h3; have Q3 := Lib.hid q3; clear h3 q3 g2)
  have q3 := Q3.out
  have H3 := Lib.hid (q3.at_ H2.out nNC)
  have M3 := Lib.hid (q3.at_ M2.out nCM.symm)
  have D3 := Lib.hid (q3.at_ D2.out nCD.symm)
  have K3 := Lib.hid (K2.out.below hDl lC q3.bel)
  have HC3 := Lib.hid (HC2.out.keeps q3 nGC gC)
  clear q3 Q3 H2 C2 M2 D2 K2 HC2
  -- the tag's mask
  have zr : ByteRoom (blk 0#128) 0 16 := ⟨bytesOf 0#128, bytesOf_length _, by rw [blk_bcells]; exact bytesIn_all _⟩
  have zb : BytesIn (blk 0#128) 0 (bytesOf 0#128) := by rw [blk_bcells]; exact bytesIn_all _
  have z16 := bytesOf_length 0#128
  have g3 := Lib.hid (fun m => ctrG_any T ks (bytesOf 0#128) G Mb Cb Mb 0 0 16 16 16 (some ⟨Mb, 0, none⟩) (blk 0#128) 69 69 cc (w3.drewN m) (HC3.out.drewN m) (oa_drewN M3.out m) (oa_drewN C3.out m) (rdL_obj (oa_drewN M3.out m) zb) (fun _ => rfl) (by rw [z16]; exact zr) ⟨by rw [z16]; decide, by decide, by decide, by rw [z16]; decide, by decide, .inr rfl, nCM.symm, nGM, nGC, nCM.symm, gM, gC⟩)
  rw [← HE.out, gctr_zero, put_blk, z16] at g3
  clear zr zb z16
  go_wp2_with (fail)
  refine wp_region_chain (l := [_, _, _, _, _, _]) (fun _ => True) (fun w' => ∃ m, w' = w3.drewN m) (by kernel_rfl) (by kernel_rfl) ⟨1, rfl⟩ (fun _ _ => trivial) ?_
  iterate 5 (refine chain_val (v := ?_) (by rfl) ?_ ?_; rotate_left; (focus (intro w2 b2; (try obtain ⟨m2, rfl⟩ := b2); go_simp; (try with_reducible rfl); done)); simp only [Act.put, List.setIfInBounds_toArray, List.set_cons_zero, List.set_cons_succ])
  refine chain_call (fun w' => objAt w' Mb = some (.cells (blk (E cc)) 69 (0, 0)) ∧ objAt w' Cb = some (.cells (blk (inc4 cc)) 69 (0, 0)) ∧ Keeps2 Mb Cb w3 w') (v := .tuple #[]) (f := 30) (args := #[.pointer (some ⟨G, 0, none⟩), .slice (some ⟨Mb, 0, none⟩) 16 16, .slice (some ⟨Mb, 0, none⟩) 16 16, .pointer (some ⟨Cb, 0, none⟩)]) rfl (by rfl) (fun _ _ => trivial) (fun w2 b2 => (by go_simp; done))
    (fun w2 b2 => (by
      obtain ⟨m2, rfl⟩ := b2
      refine (g3.out m2).mono fun e w' he => ?_
      obtain ⟨he, ho, hc, hk⟩ := he
      exact ⟨he, ho, hc, ((Keeps2.refl Mb Cb w3).drewN m2).trans hk⟩)) ?_
  simp only [Act.put, List.setIfInBounds_toArray, List.set_cons_zero, List.set_cons_succ]
  refine chain_nil fun w4 b4 => ?_
  obtain ⟨m4, c4, q4⟩ := b4
  have M4 := Lib.hid m4
  have C4 := Lib.hid c4
  have H4 := Lib.hid (q4.at_ H3.out nNM nNC)
  have D4 := Lib.hid (q4.at_ D3.out nMD.symm nCD.symm)
  have K4 := Lib.hid (K3.out.below hDl (by omega : w.heap.size ≤ min Mb Cb) q4.bel)
  have HC4 := Lib.hid (HC3.out.keeps2 q4 nGM nGC gM gC)
  clear m4 c4 q4 g3 H3 C3 M3 D3 K3 HC3
  -- the ciphertext
  obtain ⟨S, os, hSD, hSw, hS, hSp⟩ := HP.out.rdL G hGD
  have nSC : S ≠ Cb := by rcases hSw with h | h <;> omega
  have hS4 : RdL w4 S os pt := fun i x hx => by
    have h := hS i x hx
    exact (K4.out.cell (block_lt_of_cell h) hSD _).trans h
  have hr4 : ByteRoom cs od pt.length := HR.out.sub (Nat.le_refl _) (by omega)
  obtain ⟨_, _, hpe, hpc, hpc2, _⟩ := HP.out
  cases hpe
  have g4 := Lib.hid (ctrG_any T ks pt G D Cb S od os (pt.length + ts) dc cp pp cs tD 69 (inc4 cc) w4 HC4.out D4.out C4.out hS4 hSp hr4 ⟨by omega, hdc, hdc2, hpc, hpc2, .inl hSD, nSC, hGD, nGC, nCD.symm, hlow, gC⟩)
  rw [← HE.out] at g4
  obtain ⟨ct, hct⟩ : ∃ ct, ct = gctr E (inc4 cc) pt := ⟨_, rfl⟩
  rw [← hct] at g4
  have hcl : ct.length = pt.length := by rw [hct, gctr_length]
  have HCT := Lib.hid hct
  have HCL := Lib.hid hcl
  clear hS hSp hS4 hr4 hct hcl
  go_wp2_with (go_at_call 30; (with_reducible refine g4.out.mono ?_); rintro e w5 ⟨rfl, d5, _, q5⟩; have D5 := Lib.hid d5; have Q5 := Lib.hid q5; clear d5 q5 g4)
  have K5 := Lib.hid (K4.out.keeps2_ Q5.out hDl lC)
  have H5 := Lib.hid (Q5.out.at_ H4.out nND nNC)
  have M5 := Lib.hid (Q5.out.at_ M4.out nMD nCM.symm)
  clear Q5 K4 H4 M4 HC4 C4 D4
  obtain ⟨X, hX⟩ : ∃ X, X = w5.heap.size := ⟨_, rfl⟩
  have hXw : w.heap.size ≤ X := by have := K5.out.size; omega
  have hXM : Mb ≠ X := by have := oa_lt M5.out; omega
  have hXD : D ≠ X := by omega
  have b6 : Below w5.heap.size w5 (w5.alloc (.cells (blk 0#128) 69)) := (Below.refl _ _).alloc (Nat.le_refl _) _
  have K6 := Lib.hid (K5.out.below hDl K5.out.size b6)
  have X6 := Lib.hid (show objAt (w5.alloc (.cells (blk 0#128) 69)) X = some (.cells (blk 0#128) 69 (0, 0)) by rw [hX]; exact objAt_alloc_at _ _ _ rfl)
  have H6 := Lib.hid (oa_below H5.out b6 (oa_lt H5.out))
  have M6 := Lib.hid (oa_below M5.out b6 (oa_lt M5.out))
  have D6 := Lib.hid (oa_below D5.out b6 (oa_lt D5.out))
  rw [← hX]
  generalize w5.alloc (.cells (blk 0#128) 69) = w6 at *
  clear b6 hX K5 H5 M5 D5
  have hfit : od + (pt.length + ts) ≤ cs.size := HR.out.le (by omega)
  have hrc : rowOf 0 ct (.slice (some ⟨D, od, none⟩) pt.length dc) w6.drew := by
    have h := rowOf_obj (n0 := 0) (c := dc) (oa_drew D6.out) (bs := ct) (o := od) (BytesIn.put (by rw [HCL.out]; omega)) (Nat.zero_le _) (by rw [HCL.out]; omega) hdc2
    rwa [HCL.out] at h
  have hrd : rowOf 0 ds (.slice pd ds.length cd) w6.drew := stab_rowOf _ _ _ _ _ (Below.refl _ w6).drew (HDD.out.move K6.out (Nat.le_refl _)).rowOf
  have g5 := Lib.hid (authG_any X N Mb (E 0#128) (E cc) 0#128 69 69 69 (0, 0) ct ds _ _ w6.drew (oa_drew X6.out) (oa_drew H6.out) (oa_drew M6.out) hXM hrc hrd (by rw [HCL.out]; omega) hdl)
  obtain ⟨tg, htg⟩ : ∃ tg, tg = tagOf (E 0#128) (E cc) ct ds := ⟨_, rfl⟩
  rw [← htg] at g5
  have HTG := Lib.hid htg
  have kpd : (pt.length : Int) ≤ (dc : Int) := by omega
  clear hrc hrd htg
  refine wp_region_still_tail 6 (by kernel_rfl) (by kernel_rfl) ?_
  change wpStill _ _ (World.drew _) (fun a' => wpList _ _ _ _ a' (World.drew _)) _ _
  simp only [List.take_succ_cons, List.take_zero, List.drop_succ_cons, List.drop_zero]
  repeat still_step
  refine wpStill_nil ?_
  go_wp2_with (go_at_call 31; (with_reducible refine g5.out.mono ?_); rintro e w7 ⟨rfl, x7, q7⟩; have X7 := Lib.hid x7; have Q7 := Lib.hid q7; clear x7 q7 g5)
  have hD7 := oa_drew (Q7.out.at_ (oa_drew D6.out) hXD)
  have K7 := Lib.hid ((K6.out.drew.below hDl hXw Q7.out.bel).drew)
  have hrt : rowOf 0 (bytesOf tg) (.slice (some ⟨X, 0, none⟩) 16 16) w7.drew := rowOf_blk (oa_drew X7.out) (Nat.zero_le _)
  have hcp := run_copyB w7.drew D (od + pt.length) ts (dc - pt.length) (putL cs od ct) tD (bytesOf tg) (.slice (some ⟨X, 0, none⟩) 16 16) 3 hD7 hrt (by rw [putL_size]; omega)
  rw [bytesOf_length] at hcp
  have hpa := putL_append cs od ct ((bytesOf tg).take ts)
  rw [HCL.out] at hpa
  rw [hpa] at hcp
  have hne : ¬ dc = pt.length := by omega
  have hts : pt.length + ts - pt.length = ts := by omega
  have kpt : (pt.length : Int) ≤ (pt.length : Int) + (ts : Int) := by omega
  have O8 := Lib.hid (objAt_setRow_same hD7 (putL cs od (ct ++ (bytesOf tg).take ts)))
  have K8 := Lib.hid (K7.out.row (putL cs od (ct ++ (bytesOf tg).take ts)))
  clear hrt hD7 hpa K6 X6 H6 M6 D6
  refine wp_region_still_tail 5 (by kernel_rfl) (by kernel_rfl) ?_
  change wpStill _ _ (World.drew _) (fun a' => wpList _ _ _ _ a' (World.drew _)) _ _
  simp only [List.take_succ_cons, List.take_zero, List.drop_succ_cons, List.drop_zero]
  repeat still_step
  refine wpStill_nil ?_
  go_wp2_with (fail)
  have hfin : sealL E ns pt ds ts = ct ++ (bytesOf tg).take ts := by
    have h1 : ctOf E ns pt = ct := by unfold ctOf; rw [← HCC.out, ← HCT.out]
    unfold sealL tgOf
    rw [h1, ← HCC.out, ← HTG.out]
  refine bodyPost_end (v := .tuple #[]) (by simp [results, Tryd.results27, go_sem]) rfl ⟨rfl, ?_, K8.out⟩
  rw [hfin]
  exact O8.out
end Go.Proofs.YtfcdldcekdbckacDoor
