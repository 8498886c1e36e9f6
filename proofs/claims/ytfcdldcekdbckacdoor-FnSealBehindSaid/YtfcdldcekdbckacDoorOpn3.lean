/- The wrapper's code that opens. -/
import Derived.Test.YtfcdldcekdbckacDoorOpn2
namespace Go.Proofs.YtfcdldcekdbckacDoor
open Go Go.RowKit Gf

set_option maxRecDepth 100000 in
set_option maxHeartbeats 1000000 in
theorem iopen_any (T : Tab) (ks xs ns ct ds : List (BitVec 8)) (ts : Nat) (vk va vn vp vd : Value) (w : World) (hT : TabAt T w) (hk : isKey ks) (hrk : rowOf 0 ks vk w) (ha : rowOf 0 xs va w)
    (hn : rowOf 0 ns vn w) (hp : rowOf 0 (ct ++ (bytesOf (tgOf (ciph T ks) ns ct ds)).take ts) vp w) (hd : rowOf 0 ds vd w) (ht1 : 12 ≤ ts) (ht2 : ts ≤ 16) (hn0 : 0 < ns.length) (hal : xs.length ≤ 2147483647) (hnl : ns.length ≤ 2147483647) (hpl : ct.length ≤ 2147483647) (hdl : ds.length ≤ 2147483647) :
    Calls Tryd.prog 8 #[vk, .int .i64 (ts : Int), va, vn, vp, vd] w (RowTP (xs ++ gctr (ciph T ks) (inc4 (cOf (ciph T ks) ns)) ct) w) := by
  have gN := inew_any T ks vk (ns.length : Int) (ts : Int) w hk hT hrk (by omega) (by omega) (by omega)
  have HT := Lib.hid hT
  have HA := Lib.hid ha
  have HN := Lib.hid hn
  have HP := Lib.hid hp
  have HD := Lib.hid hd
  obtain ⟨sl, hsl⟩ : ∃ sl, sl = ct ++ (bytesOf (tgOf (ciph T ks) ns ct ds)).take ts := ⟨_, rfl⟩
  rw [← hsl] at HP hp
  have HSL := Lib.hid (show sl.length ≤ ct.length + 16 by rw [hsl, List.length_append, List.length_take, bytesOf_length]; omega)
  have HSE := Lib.hid hsl
  clear hsl
  obtain ⟨pk, ck, rfl⟩ := hrk.slice
  obtain ⟨pa, ca, rfl⟩ := ha.slice
  obtain ⟨pn, cn, rfl⟩ := hn.slice
  obtain ⟨pp, cp, rfl⟩ := hp.slice
  obtain ⟨pd, cd, rfl⟩ := hd.slice
  obtain ⟨E, hE⟩ : ∃ E, E = ciph T ks := ⟨_, rfl⟩
  rw [← hE]
  have HE := Lib.hid hE
  clear hT hrk ha hn hp hd hE
  go_enter Tryd.func8, Tryd.ntmps8
  go_wp2_with (first
    | (go_at_call 10; (with_reducible refine gN.mono ?_); rintro e w1 ⟨G, D0, rfl, hGl, hG, hb1⟩; have HG := Lib.hid hG; have B1 := Lib.hid hb1; have ga := Lib.hid (copied_own w1 xs _ (stab_rowOf _ _ _ _ _ hb1 HA.out) (by omega)); clear hG hb1 gN)
    | (go_at_call 12; (with_reducible refine ga.out.mono ?_); rintro e w2 ⟨va', rfl, hb2, hra⟩; have B2 := Lib.hid (B1.out.trans (hb2.mono B1.out.size)); have RA := Lib.hid hra; have S12 := Lib.hid hb2.size; have G2 := Lib.hid (oa_below HG.out hb2 (oa_lt HG.out)); have gn := Lib.hid (copied_any w2 ns _ (stab_rowOf _ _ _ _ _ B2.out HN.out) (by omega)); have lG := Lib.hid (oa_lt HG.out); clear hb2 hra ga HG)
    | (go_at_call 12; (with_reducible refine gn.out.mono ?_); rintro e w3 ⟨vn', rfl, hb3, hrn⟩; have B3 := Lib.hid (B2.out.trans (hb3.mono B2.out.size)); have RA3 := Lib.hid (RA.out.below hb3 (Nat.le_refl _)); have S23 := Lib.hid hb3.size; have RN := Lib.hid hrn; have G3 := Lib.hid (oa_below G2.out hb3 (oa_lt G2.out)); have gp := Lib.hid (copied_any w3 sl _ (stab_rowOf _ _ _ _ _ B3.out HP.out) (by have := HSL.out; omega)); clear hb3 hrn gn G2 B2 RA)
    | (go_at_call 12; (with_reducible refine gp.out.mono ?_); rintro e w4 ⟨vp', rfl, hb4, hrp⟩; have B4 := Lib.hid (B3.out.trans (hb4.mono B3.out.size)); have RA4 := Lib.hid (RA3.out.below hb4 S23.out); have S34 := Lib.hid hb4.size; have RN4 := Lib.hid (stab_rowOf _ _ _ _ _ hb4 RN.out); have RP := Lib.hid (hrp.mono S23.out); have G4 := Lib.hid (oa_below G3.out hb4 (oa_lt G3.out)); have gd := Lib.hid (copied_any w4 ds _ (stab_rowOf _ _ _ _ _ B4.out HD.out) (by omega)); clear hb4 hrp gp G3 B3 RN RA3)
    | (go_at_call 12; (with_reducible refine gd.out.mono ?_); rintro e w5 ⟨vd', rfl, hb5, hrd⟩; have B5 := Lib.hid (B4.out.trans (hb5.mono B4.out.size)); have S24 := Nat.le_trans S23.out S34.out; have gM := Lib.hid (mopen_any T ks xs ns ct ds w1.heap.size w2.heap.size G ts D0 56 va' vn' vp' vd' w5 (HT.out.below B5.out HT.out.sz) hk (by have := HT.out.sz; omega) (oa_below G4.out hb5 (oa_lt G4.out)) lG.out S12.out (Nat.le_trans S24 hb5.size) (RA4.out.below hb5 S24) (stab_rowOf _ _ _ _ _ hb5 RN4.out) (by rw [← HSE.out]; exact stab_rowOf _ _ _ _ _ hb5 RP.out) (hrd.mono S24) ht1 ht2 hal hnl hpl hdl); clear hb5 hrd gd G4 B4 RN4 RP RA4 S24)
    | (go_at_call 13; (with_reducible refine gM.out.mono ?_); rintro e w6 ⟨v6, rfl, hr6, hb6⟩; have R6 := Lib.hid hr6; have B6 := Lib.hid (B5.out.trans (hb6.mono B1.out.size)); clear hr6 hb6 gM))
  refine wp_region_chain (l := [_, _, _, _, _]) (fun _ => True) (fun w' => ∃ m, w' = w6.drewN m) (by kernel_rfl) (by kernel_rfl) ⟨1, rfl⟩ (fun _ _ => trivial) ?_
  iterate 5 (refine chain_val (v := ?_) (by rfl) ?_ ?_; rotate_left; (focus (intro w2 b2; (try obtain ⟨m2, rfl⟩ := b2); go_simp; (try with_reducible rfl); done)); simp only [Act.put, List.setIfInBounds_toArray, List.set_cons_zero, List.set_cons_succ])
  refine chain_nil fun w8 b8 => ?_
  obtain ⟨m8, rfl⟩ := b8
  go_wp2_with (fail)
  go_ret2
  rw [HE.out]
  exact ⟨v6, rfl, stab_rowOf _ _ _ _ _ (bel_drewN (Below.refl _ w6) m8) R6.out, bel_drewN B6.out m8⟩
end Go.Proofs.YtfcdldcekdbckacDoor
