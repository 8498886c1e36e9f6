/- A plaintext is sealed behind bytes that were there. -/
import Derived.Test.YtfcdldcekdbckacDoorOwn4
namespace Go.Proofs.YtfcdldcekdbckacDoor
open Go Go.RowKit Gf

/-- Bytes ahead of what is written stand. -/
theorem put_behind (ds ys ls : List (BitVec 8)) (h : ls.length ≤ ys.length) : BytesIn (putL (bcells (ds ++ ys)).toArray ds.length ls) 0 (ds ++ ls) := fun i x hx => by
  rw [Nat.zero_add]
  by_cases hi : i < ds.length
  · rw [List.getElem?_append_left hi] at hx
    rw [putL_out _ _ _ _ (.inl hi), tA, bcells_get, List.getElem?_append_left hi, hx]; rfl
  · rw [List.getElem?_append_right (by omega)] at hx
    have := putL_in (bcells (ds ++ ys)).toArray ds.length ls (i - ds.length) x hx (by rw [List.size_toArray, bcells_length, List.length_append]; omega)
    rwa [show ds.length + (i - ds.length) = i by omega] at this
theorem room_behind (ds ys : List (BitVec 8)) (n : Nat) (h : n ≤ ys.length) : ByteRoom (bcells (ds ++ ys)).toArray ds.length n :=
  ByteRoom.sub (o := 0) (n := (ds ++ ys).length) ⟨_, rfl, bytesIn_all _⟩ (Nat.zero_le _) (by rw [List.length_append]; omega)
/-- A row of bytes is handed back; only what lies at n0 or behind has turned. -/
def RowN (n0 : Nat) (bs : List (BitVec 8)) (w : World) (e : Ending) (w' : World) : Prop := ∃ v, e = .returned v ∧ rowOf 0 bs v w' ∧ Below n0 w w'
theorem RowAt.move_ {D : Nat} {w W : World} {v : Value} {bs : List (BitVec 8)} (h : RowAt D w v bs) (hb : Below w.heap.size w W) : RowAt D W v bs := by
  obtain ⟨p, c, h1, h2, h3, h4⟩ := h
  refine ⟨p, c, h1, h2, h3, h4.imp id ?_⟩
  rintro ⟨b, o, h5, h6, h7, h8⟩
  exact ⟨b, o, h5, h6, Nat.lt_of_lt_of_le h7 hb.size, fun i x hx => (cell_same (hb.block b h7) _).trans (h8 i x hx)⟩
set_option maxRecDepth 100000 in
set_option maxHeartbeats 1000000 in
theorem sai_any (T : Tab) (ks xs ns pt ds : List (BitVec 8)) (n0 n1 G ts : Nat) (D0 : Nat → BitVec 32) (tG : TypeId) (va vn vp vd : Value) (w : World) (hT : TabAt T w) (hk : isKey ks) (hlow : nG ≤ G) (hG : objAt w G = some (.cells (gcmC (rOf ks) (kOf T ks) D0 (ns.length : Int) (ts : Int)) tG (0, 0)))
    (hGn : G < n0) (hnn : n0 ≤ n1) (hnw : n1 ≤ w.heap.size) (ha : outR n0 n1 xs va w) (hn : rowOf n1 ns vn w) (hp : rowOf n1 pt vp w) (hd : rowOf n1 ds vd w) (ht1 : 12 ≤ ts) (ht2 : ts ≤ 16) (hn0 : 0 < ns.length) (hal : xs.length ≤ 2147483647) (hnl : ns.length ≤ 2147483647) (hpl : pt.length ≤ 2147483647) (hdl : ds.length ≤ 2147483647) :
    Calls Tryd.prog 16 #[.pointer (some ⟨G, 0, none⟩), va, vn, vp, vd] w (RowN n0 (xs ++ sealL (ciph T ks) ns pt ds ts) w) := by
  have c121 := (objAt_cell hG 121).trans (gcmC_ns _ _ _ _ _)
  have c122 := (objAt_cell hG 122).trans (gcmC_ts _ _ _ _ _)
  have hGl := oa_lt hG
  obtain ⟨n, hnn2⟩ : ∃ n, n = pt.length + ts := ⟨_, rfl⟩
  have ea : (pt.length : Int) + (ts : Int) = (n : Int) := by omega
  have gA := sfa_any n0 n1 xs va n w ha (by omega) (by omega) (by omega)
  have hsl := sealL_length (ciph T ks) ns pt ds ts ht2
  rw [← hnn2] at hsl
  have GS := Lib.hid (fun (N : Nat) (ys : List (BitVec 8)) (w1 : World) (hN : n0 ≤ N) (hN2 : N < n1 ∨ N = w.heap.size) (hy : n ≤ ys.length) (hy2 : xs.length + ys.length ≤ maxLen) (ho : objAt w1 N = some (.cells (bcells (xs ++ ys)).toArray 5 (0, 0))) (hb : Below w.heap.size w w1) =>
    seal_any T ks ns pt ds G N xs.length n ys.length ts vn vp vd _ 5 w1 ⟨hT.below hb hT.sz, ⟨_, _, _, oa_below hG hb hGl, gcmC_key _ _ _ _ _⟩, hk, hlow⟩ ho (room_behind xs ys n hy)
      ((hn.rowAt (Y := N) (by omega)).move_ hb) ((hp.rowAt (Y := N) (by omega)).move_ hb) ((hd.rowAt (Y := N) (by omega)).move_ hb) (by omega) (by omega) hnn2 ht1 ht2 hy (by simp only [maxLen] at hy2; omega) hnl hpl hdl)
  generalize sealL (ciph T ks) ns pt ds ts = sl at *
  have HSL := Lib.hid hsl
  have e0 : ¬ (ns.length : Int) = 0 := by omega
  have e1 : IntKind.u64.wrap (pt.length : Int) = (pt.length : Int) := u64len _ hpl
  have e2 : ¬ 68719476704 < (pt.length : Int) := by omega
  obtain ⟨pn, cn, rfl⟩ := hn.slice
  obtain ⟨pp, cp, rfl⟩ := hp.slice
  obtain ⟨pd, cd, rfl⟩ := hd.slice
  obtain ⟨pa, ca, rfl⟩ := ha.slice
  have C121 := Lib.hid c121
  have C122 := Lib.hid c122
  clear hT hG hn hp hd ha hsl hnn2
  go_enter Tryd.func16, Tryd.ntmps16
  go_wp2_with (first
    | (go_at_call 17; (with_reducible refine gA.mono ?_); rintro e w1 ⟨N, ys, rfl, hN, hN2, hy, hy2, ho, hb⟩; have B1 := Lib.hid hb; have gs := Lib.hid (GS.out N ys w1 hN hN2 hy hy2 ho hb); clear ho hb gA)
    | (go_at_call 21; (with_reducible refine gs.out.mono ?_); rintro e w2 ⟨rfl, ho, hk2⟩; have HO := Lib.hid ho; have HK := Lib.hid hk2; clear ho hk2 gs))
  go_ret
  refine ⟨_, rfl, ?_, (B1.out.mono (by omega)).trans (HK.out.bel.mono hN)⟩
  have h := rowOf_obj (n0 := 0) (c := xs.length + ys.length) HO.out (put_behind xs ys sl (by rw [HSL.out]; exact hy)) (Nat.zero_le _) (by rw [List.length_append, HSL.out]; omega) (by simp only [maxLen] at hy2; omega)
  rwa [List.length_append, HSL.out] at h
set_option maxRecDepth 100000 in
set_option maxHeartbeats 1000000 in
theorem mseal_any (T : Tab) (ks xs ns pt ds : List (BitVec 8)) (n0 n1 G ts : Nat) (D0 : Nat → BitVec 32) (tG : TypeId) (va vn vp vd : Value) (w : World) (hT : TabAt T w) (hk : isKey ks) (hlow : nG ≤ G) (hG : objAt w G = some (.cells (gcmC (rOf ks) (kOf T ks) D0 (ns.length : Int) (ts : Int)) tG (0, 0)))
    (hGn : G < n0) (hnn : n0 ≤ n1) (hnw : n1 ≤ w.heap.size) (ha : outR n0 n1 xs va w) (hn : rowOf n1 ns vn w) (hp : rowOf n1 pt vp w) (hd : rowOf n1 ds vd w) (ht1 : 12 ≤ ts) (ht2 : ts ≤ 16) (hn0 : 0 < ns.length) (hal : xs.length ≤ 2147483647) (hnl : ns.length ≤ 2147483647) (hpl : pt.length ≤ 2147483647) (hdl : ds.length ≤ 2147483647) :
    Calls Tryd.prog 11 #[.pointer (some ⟨G, 0, none⟩), va, vn, vp, vd] w (RowN n0 (xs ++ sealL (ciph T ks) ns pt ds ts) w) := by
  have GG := Lib.hid (sai_any T ks xs ns pt ds n0 n1 G ts D0 tG va vn vp vd w hT hk hlow hG hGn hnn hnw ha hn hp hd ht1 ht2 hn0 hal hnl hpl hdl)
  generalize xs ++ sealL (ciph T ks) ns pt ds ts = sl at *
  clear hT hG hn hp hd ha
  go_enter Tryd.func11, Tryd.ntmps11
  go_wp2_with (go_at_call 16; (with_reducible refine GG.out.mono ?_); rintro e w1 ⟨v, rfl, ho, hk⟩; have HO := Lib.hid ho; have HK := Lib.hid hk; clear ho hk)
  go_ret
  exact ⟨v, rfl, HO.out, HK.out⟩

set_option maxRecDepth 100000 in
set_option maxHeartbeats 1000000 in
theorem iseal_any (T : Tab) (ks xs ns pt ds : List (BitVec 8)) (ts : Nat) (vk va vn vp vd : Value) (w : World) (hT : TabAt T w) (hk : isKey ks) (hrk : rowOf 0 ks vk w) (ha : rowOf 0 xs va w)
    (hn : rowOf 0 ns vn w) (hp : rowOf 0 pt vp w) (hd : rowOf 0 ds vd w) (ht1 : 12 ≤ ts) (ht2 : ts ≤ 16) (hn0 : 0 < ns.length) (hal : xs.length ≤ 2147483647) (hnl : ns.length ≤ 2147483647) (hpl : pt.length ≤ 2147483647) (hdl : ds.length ≤ 2147483647) :
    Calls Tryd.prog 7 #[vk, .int .i64 (ts : Int), va, vn, vp, vd] w (RowTP (xs ++ sealL (ciph T ks) ns pt ds ts) w) := by
  have gN := inew_any T ks vk (ns.length : Int) (ts : Int) w hk hT hrk (by omega) (by omega) (by omega)
  have HT := Lib.hid hT
  have HA := Lib.hid ha
  have HN := Lib.hid hn
  have HP := Lib.hid hp
  have HD := Lib.hid hd
  obtain ⟨pk, ck, rfl⟩ := hrk.slice
  obtain ⟨pa, ca, rfl⟩ := ha.slice
  obtain ⟨pn, cn, rfl⟩ := hn.slice
  obtain ⟨pp, cp, rfl⟩ := hp.slice
  obtain ⟨pd, cd, rfl⟩ := hd.slice
  obtain ⟨E, hE⟩ : ∃ E, E = ciph T ks := ⟨_, rfl⟩
  rw [← hE]
  have HE := Lib.hid hE
  clear hT hrk ha hn hp hd hE
  go_enter Tryd.func7, Tryd.ntmps7
  go_wp2_with (first
    | (go_at_call 10; (with_reducible refine gN.mono ?_); rintro e w1 ⟨G, D0, rfl, hGl, hG, hb1⟩; have HG := Lib.hid hG; have B1 := Lib.hid hb1; have ga := Lib.hid (copied_own w1 xs _ (stab_rowOf _ _ _ _ _ hb1 HA.out) (by omega)); clear hG hb1 gN)
    | (go_at_call 12; (with_reducible refine ga.out.mono ?_); rintro e w2 ⟨va', rfl, hb2, hra⟩; have B2 := Lib.hid (B1.out.trans (hb2.mono B1.out.size)); have RA := Lib.hid hra; have S12 := Lib.hid hb2.size; have G2 := Lib.hid (oa_below HG.out hb2 (oa_lt HG.out)); have gn := Lib.hid (copied_any w2 ns _ (stab_rowOf _ _ _ _ _ B2.out HN.out) (by omega)); have lG := Lib.hid (oa_lt HG.out); clear hb2 hra ga HG)
    | (go_at_call 12; (with_reducible refine gn.out.mono ?_); rintro e w3 ⟨vn', rfl, hb3, hrn⟩; have B3 := Lib.hid (B2.out.trans (hb3.mono B2.out.size)); have RA3 := Lib.hid (RA.out.below hb3 (Nat.le_refl _)); have S23 := Lib.hid hb3.size; have RN := Lib.hid hrn; have G3 := Lib.hid (oa_below G2.out hb3 (oa_lt G2.out)); have gp := Lib.hid (copied_any w3 pt _ (stab_rowOf _ _ _ _ _ B3.out HP.out) (by omega)); clear hb3 hrn gn G2 B2 RA)
    | (go_at_call 12; (with_reducible refine gp.out.mono ?_); rintro e w4 ⟨vp', rfl, hb4, hrp⟩; have B4 := Lib.hid (B3.out.trans (hb4.mono B3.out.size)); have RA4 := Lib.hid (RA3.out.below hb4 S23.out); have S34 := Lib.hid hb4.size; have RN4 := Lib.hid (stab_rowOf _ _ _ _ _ hb4 RN.out); have RP := Lib.hid (hrp.mono S23.out); have G4 := Lib.hid (oa_below G3.out hb4 (oa_lt G3.out)); have gd := Lib.hid (copied_any w4 ds _ (stab_rowOf _ _ _ _ _ B4.out HD.out) (by omega)); clear hb4 hrp gp G3 B3 RN RA3)
    | (go_at_call 12; (with_reducible refine gd.out.mono ?_); rintro e w5 ⟨vd', rfl, hb5, hrd⟩; have B5 := Lib.hid (B4.out.trans (hb5.mono B4.out.size)); have S24 := Nat.le_trans S23.out S34.out; have gM := Lib.hid (mseal_any T ks xs ns pt ds w1.heap.size w2.heap.size G ts D0 56 va' vn' vp' vd' w5 (HT.out.below B5.out HT.out.sz) hk (by have := HT.out.sz; omega) (oa_below G4.out hb5 (oa_lt G4.out)) lG.out S12.out (Nat.le_trans S24 hb5.size) (RA4.out.below hb5 S24) (stab_rowOf _ _ _ _ _ hb5 RN4.out) (stab_rowOf _ _ _ _ _ hb5 RP.out) (hrd.mono S24) ht1 ht2 hn0 hal hnl hpl hdl); clear hb5 hrd gd G4 B4 RN4 RP RA4 S24)
    | (go_at_call 11; (with_reducible refine gM.out.mono ?_); rintro e w6 ⟨v6, rfl, hr6, hb6⟩; have R6 := Lib.hid hr6; have B6 := Lib.hid (B5.out.trans (hb6.mono B1.out.size)); clear hr6 hb6 gM))
  go_ret2
  rw [HE.out]
  exact ⟨v6, rfl, R6.out, B6.out⟩
end Go.Proofs.YtfcdldcekdbckacDoor
