/- A plaintext is sealed, behind nothing. -/
import Derived.Test.YtfcdldcekdbckacDoorSealG
namespace Go.Proofs.YtfcdldcekdbckacDoor
open Go Go.RowKit Gf

set_option maxRecDepth 100000 in
set_option maxHeartbeats 400000 in
theorem sfa_nil (n : Nat) (w : World) (hn : 0 < n) (hn2 : n ≤ 281474976710656) :
    Calls Tryd.prog 17 #[.slice none 0 0, .int .i64 (n : Int)] w fun e w' => e = .returned (.tuple #[.slice (some ⟨w.heap.size, 0, none⟩) n n, .slice (some ⟨w.heap.size, 0, none⟩) n n]) ∧ w' = w.alloc (.cells (bcells (List.replicate n 0#8)).toArray 5) := by
  have hmk := run_makeB w n n hn2 (Nat.le_refl _)
  have k1 : ¬ (n : Int) ≤ 0 := by omega
  have k2 : (0 : Int) ≤ (n : Int) := by omega
  have ho := objAt_alloc_at w (.cells (bcells (List.replicate n 0#8)).toArray 5) _ rfl
  have hcp := run_copyB _ w.heap.size 0 n n _ 5 [] (.slice none 0 0) 3 ho (rowOf_nil 0 _) (by rw [List.size_toArray, bcells_length, List.length_replicate]; omega)
  rw [List.take_nil, putL_nil, setRow_self _ _ _ _ _ ho] at hcp
  have kne : ¬ n = 0 := by omega
  clear ho
  go_enter Tryd.func17, Tryd.ntmps17
  go_wp2_with (fail)
  go_ret2
  exact ⟨rfl, rfl⟩

set_option maxRecDepth 100000 in
set_option maxHeartbeats 400000 in
theorem seal_any (T : Tab) (ks ns pt ds : List (BitVec 8)) (G D od dn dc ts : Nat) (vn vp vd : Value) (cs : Array Value) (tD : TypeId) (w : World) (hC : CiphAt T ks w G) (hD : objAt w D = some (.cells cs tD (0, 0))) (hroom : ByteRoom cs od dn)
    (hn : RowAt D w vn ns) (hp : RowAt D w vp pt) (hd : RowAt D w vd ds) (hGD : G ≠ D) (hlow : nG ≤ D) (hdn : dn = pt.length + ts) (ht1 : 12 ≤ ts) (ht2 : ts ≤ 16) (hdc : dn ≤ dc) (hdc2 : (dc : Int) ≤ 9223372036854775807)
    (hnl : ns.length ≤ 2147483647) (hpl : pt.length ≤ 2147483647) (hdl : ds.length ≤ 2147483647) :
    Calls Tryd.prog 21 #[.slice (some ⟨D, od, none⟩) dn dc, .pointer (some ⟨G, 0, none⟩), vn, vp, vd] w
      fun e w' => e = .returned (.tuple #[]) ∧ objAt w' D = some (.cells (putL cs od (sealL (ciph T ks) ns pt ds ts)) tD (0, 0)) ∧ Keeps D w w' := by
  have g := sealG_any T ks ns pt ds G D od dn dc ts vn vp vd cs tD w hC hD hroom hn hp hd hGD hlow hdn ht1 ht2 hdc hdc2 hnl hpl hdl
  generalize sealL (ciph T ks) ns pt ds ts = sl at *
  have GG := Lib.hid g
  clear hC hD hroom hn hp hd hdn g
  go_enter Tryd.func21, Tryd.ntmps21
  go_wp2_with (go_at_call 27; (with_reducible refine GG.out.mono ?_); rintro e w1 ⟨rfl, ho, hk⟩; have HO := Lib.hid ho; have HK := Lib.hid hk; clear ho hk)
  exact bodyPost_end (v := .tuple #[]) (by simp [results, Tryd.results21, go_sem]) rfl ⟨rfl, HO.out, HK.out⟩

/-- A new row of bytes is handed back. -/
def RowP (bs : List (BitVec 8)) (w : World) (e : Ending) (w' : World) : Prop := ∃ v, e = .returned v ∧ rowOf 0 bs v w' ∧ Below w.heap.size w w'
set_option maxRecDepth 100000 in
set_option maxHeartbeats 1000000 in
theorem sai_nil (T : Tab) (ks ns pt ds : List (BitVec 8)) (G ts : Nat) (D0 : Nat → BitVec 32) (tG : TypeId) (vn vp vd : Value) (w : World) (hT : TabAt T w) (hk : isKey ks) (hlow : nG ≤ G) (hG : objAt w G = some (.cells (gcmC (rOf ks) (kOf T ks) D0 (ns.length : Int) (ts : Int)) tG (0, 0)))
    (hn : rowOf 0 ns vn w) (hp : rowOf 0 pt vp w) (hd : rowOf 0 ds vd w) (ht1 : 12 ≤ ts) (ht2 : ts ≤ 16) (hn0 : 0 < ns.length) (hnl : ns.length ≤ 2147483647) (hpl : pt.length ≤ 2147483647) (hdl : ds.length ≤ 2147483647) :
    Calls Tryd.prog 16 #[.pointer (some ⟨G, 0, none⟩), .slice none 0 0, vn, vp, vd] w (RowP (sealL (ciph T ks) ns pt ds ts) w) := by
  have c121 := (objAt_cell hG 121).trans (gcmC_ns _ _ _ _ _)
  have c122 := (objAt_cell hG 122).trans (gcmC_ts _ _ _ _ _)
  have hGl := oa_lt hG
  obtain ⟨n, hnn⟩ : ∃ n, n = pt.length + ts := ⟨_, rfl⟩
  have ea : (pt.length : Int) + (ts : Int) = (n : Int) := by omega
  have gA := sfa_nil n w (by omega) (by omega)
  have bA : Below w.heap.size w (w.alloc (.cells (bcells (List.replicate n 0#8)).toArray 5)) := (Below.refl _ _).alloc (Nat.le_refl _) _
  have zr : ByteRoom (bcells (List.replicate n 0#8)).toArray 0 n := ⟨_, List.length_replicate, bytesIn_all _⟩
  have gS := seal_any T ks ns pt ds G w.heap.size 0 n n ts vn vp vd _ 5 _ (⟨hT.below bA hT.sz, ⟨_, _, _, oa_below hG bA hGl, gcmC_key _ _ _ _ _⟩, hk, hlow⟩) (objAt_alloc_at w (.cells (bcells (List.replicate n 0#8)).toArray 5) _ rfl) zr (rowAt_new hn _ rfl) (rowAt_new hp _ rfl) (rowAt_new hd _ rfl) (by omega) hT.sz hnn ht1 ht2 (Nat.le_refl _) (by omega) hnl hpl hdl
  have hsl := sealL_length (ciph T ks) ns pt ds ts ht2
  rw [← hnn] at hsl
  generalize sealL (ciph T ks) ns pt ds ts = sl at *
  rw [putL_all _ _ (by rw [hsl, List.length_replicate])] at gS
  have GS := Lib.hid gS
  have BA := Lib.hid bA
  have HSL := Lib.hid hsl
  have e0 : ¬ (ns.length : Int) = 0 := by omega
  have e1 : IntKind.u64.wrap (pt.length : Int) = (pt.length : Int) := u64len _ hpl
  have e2 : ¬ 68719476704 < (pt.length : Int) := by omega
  obtain ⟨pn, cn, rfl⟩ := hn.slice
  obtain ⟨pp, cp, rfl⟩ := hp.slice
  obtain ⟨pd, cd, rfl⟩ := hd.slice
  clear hT hG hn hp hd gS bA zr hsl hnn
  go_enter Tryd.func16, Tryd.ntmps16
  go_wp2_with (first
    | (go_at_call 17; (with_reducible refine gA.mono ?_); rintro e w1 ⟨rfl, rfl⟩)
    | (go_at_call 21; (with_reducible refine GS.out.mono ?_); rintro e w2 ⟨rfl, ho, hk2⟩; have HO := Lib.hid ho; have HK := Lib.hid hk2; clear ho hk2))
  go_ret
  refine ⟨_, rfl, ?_, BA.out.trans HK.out.bel⟩
  have h := rowOf_obj (n0 := 0) (c := n) HO.out (bytesIn_all sl) (Nat.zero_le _) (by rw [HSL.out]; exact Nat.le_refl _) (by omega)
  rwa [HSL.out] at h
set_option maxRecDepth 100000 in
set_option maxHeartbeats 1000000 in
theorem mseal_nil (T : Tab) (ks ns pt ds : List (BitVec 8)) (G ts : Nat) (D0 : Nat → BitVec 32) (tG : TypeId) (vn vp vd : Value) (w : World) (hT : TabAt T w) (hk : isKey ks) (hlow : nG ≤ G) (hG : objAt w G = some (.cells (gcmC (rOf ks) (kOf T ks) D0 (ns.length : Int) (ts : Int)) tG (0, 0)))
    (hn : rowOf 0 ns vn w) (hp : rowOf 0 pt vp w) (hd : rowOf 0 ds vd w) (ht1 : 12 ≤ ts) (ht2 : ts ≤ 16) (hn0 : 0 < ns.length) (hnl : ns.length ≤ 2147483647) (hpl : pt.length ≤ 2147483647) (hdl : ds.length ≤ 2147483647) :
    Calls Tryd.prog 11 #[.pointer (some ⟨G, 0, none⟩), .slice none 0 0, vn, vp, vd] w (RowP (sealL (ciph T ks) ns pt ds ts) w) := by
  have GG := Lib.hid (sai_nil T ks ns pt ds G ts D0 tG vn vp vd w hT hk hlow hG hn hp hd ht1 ht2 hn0 hnl hpl hdl)
  generalize sealL (ciph T ks) ns pt ds ts = sl at *
  clear hT hG hn hp hd
  go_enter Tryd.func11, Tryd.ntmps11
  go_wp2_with (go_at_call 16; (with_reducible refine GG.out.mono ?_); rintro e w1 ⟨v, rfl, ho, hk⟩; have HO := Lib.hid ho; have HK := Lib.hid hk; clear ho hk)
  go_ret
  exact ⟨v, rfl, HO.out, HK.out⟩

theorem copied_nil (w : World) : Calls Tryd.prog 12 #[.slice none 0 0] w fun e w' => e = .returned (.slice none 0 0) ∧ w' = w := by
  obtain ⟨i, hi, hs, hb, hz⟩ := info5
  have hrun : (Builtin.append_ #[22, 22] 22 #[.slice none 0 0, .slice none 0 0]).run Tryd.prog w = .ok (.slice none 0 0) w := by
    simp [Builtin.append_, run_underlying Tryd.underlying22, sizeOf, typeInfo, hi, Builtin.lenOf, Builtin.firstCells]
  clear hi hs hb hz
  go_enter Tryd.func12, Tryd.ntmps12
  go_wp2_with (at_builtin; refine wpList_append_run rfl _ _ _ _ rfl _ _ rfl rfl hrun ?_; clear hrun)
  go_ret
  exact ⟨rfl, rfl⟩
/-- .. and true. -/
def RowTP (bs : List (BitVec 8)) (w : World) (e : Ending) (w' : World) : Prop := ∃ v, e = .returned (.tuple #[v, .bool true]) ∧ rowOf 0 bs v w' ∧ Below w.heap.size w w'
set_option maxRecDepth 100000 in
set_option maxHeartbeats 1000000 in
theorem iseal_nil (T : Tab) (ks ns pt ds : List (BitVec 8)) (ts : Nat) (vk vn vp vd : Value) (w : World) (hT : TabAt T w) (hk : isKey ks) (hrk : rowOf 0 ks vk w)
    (hn : rowOf 0 ns vn w) (hp : rowOf 0 pt vp w) (hd : rowOf 0 ds vd w) (ht1 : 12 ≤ ts) (ht2 : ts ≤ 16) (hn0 : 0 < ns.length) (hnl : ns.length ≤ 2147483647) (hpl : pt.length ≤ 2147483647) (hdl : ds.length ≤ 2147483647) :
    Calls Tryd.prog 7 #[vk, .int .i64 (ts : Int), .slice none 0 0, vn, vp, vd] w (RowTP (sealL (ciph T ks) ns pt ds ts) w) := by
  have gN := inew_any T ks vk (ns.length : Int) (ts : Int) w hk hT hrk (by omega) (by omega) (by omega)
  have HT := Lib.hid hT
  have HN := Lib.hid hn
  have HP := Lib.hid hp
  have HD := Lib.hid hd
  obtain ⟨pk, ck, rfl⟩ := hrk.slice
  obtain ⟨pn, cn, rfl⟩ := hn.slice
  obtain ⟨pp, cp, rfl⟩ := hp.slice
  obtain ⟨pd, cd, rfl⟩ := hd.slice
  clear hT hrk hn hp hd
  go_enter Tryd.func7, Tryd.ntmps7
  obtain ⟨E, hE⟩ : ∃ E, E = ciph T ks := ⟨_, rfl⟩
  rw [← hE]
  have HE := Lib.hid hE
  clear hE
  go_wp2_with (first
    | (go_at_call 10; (with_reducible refine gN.mono ?_); rintro e w1 ⟨G, D0, rfl, hGl, hG, hb1⟩; have HG := Lib.hid hG; have B1 := Lib.hid hb1; have gn := Lib.hid (copied_any w1 ns _ (stab_rowOf _ _ _ _ _ hb1 HN.out) (by omega)); clear hG hb1 gN)
    | (go_at_call 12; (with_reducible refine (copied_nil _).mono ?_); rintro e w1' ⟨rfl, hw1⟩; replace hw1 := hw1.symm; subst hw1)
    | (go_at_call 12; (with_reducible refine gn.out.mono ?_); rintro e w2 ⟨vn', rfl, hb2, hrn⟩; have B2 := Lib.hid (B1.out.trans (hb2.mono B1.out.size)); have RN := Lib.hid (hrn.mono (Nat.zero_le _)); have G2 := Lib.hid (oa_below HG.out hb2 (oa_lt HG.out)); have gp := Lib.hid (copied_any w2 pt _ (stab_rowOf _ _ _ _ _ B2.out HP.out) (by omega)); clear hb2 hrn gn HG B1)
    | (go_at_call 12; (with_reducible refine gp.out.mono ?_); rintro e w3 ⟨vp', rfl, hb3, hrp⟩; have B3 := Lib.hid (B2.out.trans (hb3.mono B2.out.size)); have RN3 := Lib.hid (stab_rowOf _ _ _ _ _ hb3 RN.out); have RP := Lib.hid (hrp.mono (Nat.zero_le _)); have G3 := Lib.hid (oa_below G2.out hb3 (oa_lt G2.out)); have gd := Lib.hid (copied_any w3 ds _ (stab_rowOf _ _ _ _ _ B3.out HD.out) (by omega)); clear hb3 hrp gp G2 B2 RN)
    | (go_at_call 12; (with_reducible refine gd.out.mono ?_); rintro e w4 ⟨vd', rfl, hb4, hrd⟩; have B4 := Lib.hid (B3.out.trans (hb4.mono B3.out.size)); have gM := Lib.hid (mseal_nil T ks ns pt ds G ts D0 56 vn' vp' vd' w4 (HT.out.below B4.out HT.out.sz) hk (by have := HT.out.sz; omega) (oa_below G3.out hb4 (oa_lt G3.out)) (stab_rowOf _ _ _ _ _ hb4 RN3.out) (stab_rowOf _ _ _ _ _ hb4 RP.out) (hrd.mono (Nat.zero_le _)) ht1 ht2 hn0 hnl hpl hdl); clear hb4 hrd gd G3 B3 RN3 RP)
    | (go_at_call 11; (with_reducible refine gM.out.mono ?_); rintro e w5 ⟨v5, rfl, hr5, hb5⟩; have R5 := Lib.hid hr5; have B5 := Lib.hid (B4.out.trans (hb5.mono B4.out.size)); clear hr5 hb5 gM))
  go_ret2
  rw [HE.out]
  exact ⟨v5, rfl, R5.out, B5.out⟩
end Go.Proofs.YtfcdldcekdbckacDoor
