/- Counter mode: XORKeyStream. -/
import Derived.Test.YtfcdldcekdbckaeDoorNewCtr
import Derived.Test.YtfcdldcekdbckaeDoorOwn2
namespace Go.Proofs.YtfcdldcekdbckaeDoor
open Go Go.RowKit Gf

theorem ctrC_kbl (r : Nat) (K D : Nat → BitVec 32) (lo hi o : BitVec 64) (i : Nat) (h : i < 121) : (ctrC r K D lo hi o)[i]? = (kbl r K D)[i]? := by
  unfold ctrC
  rw [Array.getElem?_append_left (by rw [kbl_size]; exact h)]
theorem ctrC_key (r : Nat) (K D : Nat → BitVec 32) (lo hi o : BitVec 64) : KeyC (ctrC r K D lo hi o) r K :=
  ⟨by rw [ctrC_kbl _ _ _ _ _ _ _ (by decide)]; rfl, fun i hi => by rw [ctrC_kbl _ _ _ _ _ _ _ (by omega)]; exact kbl_k _ _ _ _ hi⟩
theorem ctrC_lo (r : Nat) (K D : Nat → BitVec 32) (lo hi o : BitVec 64) : (ctrC r K D lo hi o)[121]? = some (.int .u64 (n64 lo)) := by
  unfold ctrC; rw [Array.getElem?_append_right (by rw [kbl_size]; decide), kbl_size]; rfl
theorem ctrC_hi (r : Nat) (K D : Nat → BitVec 32) (lo hi o : BitVec 64) : (ctrC r K D lo hi o)[122]? = some (.int .u64 (n64 hi)) := by
  unfold ctrC; rw [Array.getElem?_append_right (by rw [kbl_size]; decide), kbl_size]; rfl
theorem ctrC_o (r : Nat) (K D : Nat → BitVec 32) (lo hi o : BitVec 64) : (ctrC r K D lo hi o)[123]? = some (.int .u64 (n64 o)) := by
  unfold ctrC; rw [Array.getElem?_append_right (by rw [kbl_size]; decide), kbl_size]; rfl
theorem ctrC_set (r : Nat) (K D : Nat → BitVec 32) (lo hi o p : BitVec 64) : (ctrC r K D lo hi o).setIfInBounds 123 (.int .u64 (n64 p)) = ctrC r K D lo hi p := by
  apply Array.ext_getElem?
  intro i
  by_cases h : i < 121
  · rw [Array.getElem?_setIfInBounds_ne (by omega), ctrC_kbl _ _ _ _ _ _ _ h, ctrC_kbl _ _ _ _ _ _ _ h]
  · by_cases h1 : i = 121
    · subst h1; rw [Array.getElem?_setIfInBounds_ne (by omega), ctrC_lo, ctrC_lo]
    · by_cases h2 : i = 122
      · subst h2; rw [Array.getElem?_setIfInBounds_ne (by omega), ctrC_hi, ctrC_hi]
      · by_cases h3 : i = 123
        · subst h3; rw [Array.getElem?_setIfInBounds_self_of_lt (by rw [ctrC_size]; decide), ctrC_o]
        · rw [Array.getElem?_eq_none (by rw [Array.size_setIfInBounds, ctrC_size]; omega), Array.getElem?_eq_none (by rw [ctrC_size]; omega)]

/-- What the walks over a stream need of the world. -/
structure StrAt (T : Tab) (ks : List (BitVec 8)) (w : World) (C : Nat) (D0 : Nat → BitVec 32) (c : BitVec 128) (o : Nat) (t : TypeId) : Prop where
  tab : TabAt T w
  isk : isKey ks
  low : nG ≤ C
  obj : objAt w C = some (.cells (ctrC (rOf ks) (kOf T ks) D0 (loOf c) (hiOf c) (BitVec.ofNat 64 o)) t (0, 0))
theorem StrAt.ciph {T : Tab} {ks : List (BitVec 8)} {w : World} {C o : Nat} {D0 : Nat → BitVec 32} {c : BitVec 128} {t : TypeId} (h : StrAt T ks w C D0 c o t) : CiphAt T ks w C := ⟨h.tab, ⟨_, _, _, h.obj, ctrC_key _ _ _ _ _ _⟩, h.isk, h.low⟩

/-- The stream at a place, over a row just made: as many bytes as there are. -/
theorem xksR_any (T : Tab) (ks : List (BitVec 8)) (C D off o : Nat) (D0 : Nat → BitVec 32) (t tD : TypeId) (bs zs : List (BitVec 8)) (v : Value) (c : BitVec 128) (w : World) (hC : StrAt T ks w C D0 c o t) (hCD : C ≠ D) (hG : nG ≤ D)
    (hz : zs.length = bs.length) (hD : objAt w D = some (.cells (bcells zs).toArray tD (0, 0))) (hv : RowAt D w v bs) (hlen : bs.length ≤ 1099511627776) (hoff : off < 9223372036854775808) :
    Calls Tryd.prog 21 #[.pointer (some ⟨C, 0, none⟩), .slice (some ⟨D, 0, none⟩) bs.length bs.length, v, .int .u64 (off : Int)] w
      fun e w' => e = .returned (.tuple #[]) ∧ objAt w' D = some (.cells (bcells (ctrL (ciph T ks) c off bs)).toArray tD (0, 0)) ∧ Keeps D w w' := by
  have hlo : w.cell? ⟨C, 121, none⟩ = some (.int .u64 (n64 (loOf c))) := by rw [objAt_cell hC.obj]; exact ctrC_lo _ _ _ _ _ _
  have hhi : w.cell? ⟨C, 122, none⟩ = some (.int .u64 (n64 (hiOf c))) := by rw [objAt_cell hC.obj]; exact ctrC_hi _ _ _ _ _ _
  obtain ⟨p, sc, rfl, hsc, hsc2, h4⟩ := hv
  by_cases hbs : bs = []
  · subst hbs
    have hz0 : zs = [] := List.length_eq_zero_iff.1 hz
    subst hz0
    refine (xks0_any T ks C D 0 0 sc off p _ tD c w hC.ciph hlo hhi hD (Nat.zero_le _) hsc2 hoff).mono fun e w' ⟨he, hb⟩ => ⟨he, ?_, ?_⟩
    · exact oa_below hD hb (oa_lt hD)
    · exact Keeps.of_below hb (oa_lt hD) (Nat.le_refl _)
  · obtain ⟨S, os, rfl, hSD, hSl, hcell⟩ := h4.resolve_left hbs
    refine (xksAt_any T ks C D 0 bs.length S os sc off (bcells zs).toArray bs tD c w hC.ciph hlo hhi hCD hSD hG (List.length_pos_iff.2 hbs) hD (by rw [← hz]; exact ⟨zs, rfl, bytesIn_all zs⟩) (Nat.le_refl _) (by omega) hcell hsc hsc2 hoff).mono fun e w' ⟨he, ho, hk⟩ => ⟨he, ?_, hk⟩
    rw [ho, putL_all _ _ (by rw [ctrL_length, hz])]

theorem Keeps.two {g h : Nat} {w w' : World} (hk : Keeps g w w') (i : Nat) (v : Value) : Keeps2 h g w (w'.setCell ⟨h, i, none⟩ v) :=
  ⟨(hk.bel.mono (by omega)).setCell (p := ⟨h, i, none⟩) (by simp; omega) _, by simpa using hk.size, fun k hk' h1 h2 => (objAt_setCell w' h i v k h1).trans (hk.other k hk' h2)⟩
set_option maxRecDepth 100000 in
set_option maxHeartbeats 4000000 in
theorem xks_any (T : Tab) (ks : List (BitVec 8)) (C D o : Nat) (D0 : Nat → BitVec 32) (t tD : TypeId) (bs zs : List (BitVec 8)) (v : Value) (c : BitVec 128) (w : World) (hC : StrAt T ks w C D0 c o t) (hCD : C ≠ D) (hG : nG ≤ D)
    (hz : zs.length = bs.length) (hD : objAt w D = some (.cells (bcells zs).toArray tD (0, 0))) (hv : RowAt D w v bs) (hlen : bs.length ≤ 1099511627776) (hoff : o < 1099511627776) :
    Calls Tryd.prog 22 #[.pointer (some ⟨C, 0, none⟩), .slice (some ⟨D, 0, none⟩) bs.length bs.length, v] w
      fun e w' => e = .returned (.tuple #[]) ∧ objAt w' D = some (.cells (bcells (ctrL (ciph T ks) c o bs)).toArray tD (0, 0)) ∧ objAt w' C = some (.cells (ctrC (rOf ks) (kOf T ks) D0 (loOf c) (hiOf c) (BitVec.ofNat 64 (o + bs.length))) t (0, 0)) ∧ Keeps2 C D w w' := by
  have g := xksR_any T ks C D o o D0 t tD bs zs v c w hC hCD hG hz hD hv hlen (by omega)
  have en : n64 (BitVec.ofNat 64 o) = (o : Int) := by unfold n64; rw [BitVec.toNat_ofNat]; omega
  have hc3 : w.cell? ⟨C, 123, none⟩ = some (.int .u64 (o : Int)) := by rw [objAt_cell hC.obj, ctrC_o, en]
  have hCl := oa_lt hC.obj
  obtain ⟨p, sc, rfl, _, _, _⟩ := hv
  have HC := Lib.hid hC
  have HE := Lib.hid en
  have e1 : IntKind.u64.wrap (bs.length : Int) = (bs.length : Int) := by rw [IntKind.wrap_u64]; omega
  have a0 : (0 : Int) ≤ (o : Int) := by omega
  have a1 : (0 : Int) ≤ (bs.length : Int) := by omega
  have a2 : ((o : Int) + (bs.length : Int)) % 18446744073709551616 = ((o + bs.length : Nat) : Int) := by omega
  have a3 : ((o : Int) + (bs.length : Int)) / 18446744073709551616 = 0 := by omega
  have HCELL := Lib.hid (fun (w1 : World) (hk : Keeps D w w1) => (⟨by rw [objAt_cell (hk.at_ hC.obj hCD), ctrC_o, en], objAt_free (hk.at_ hC.obj hCD) 123⟩ : w1.cell? ⟨C, 123, none⟩ = some (.int .u64 (o : Int)) ∧ w1.frozen? ⟨C, 123, none⟩ = false))
  have en2 : ((o + bs.length : Nat) : Int) = n64 (BitVec.ofNat 64 (o + bs.length)) := by unfold n64; rw [BitVec.toNat_ofNat]; omega
  rw [en2] at a2
  clear hC hD en en2
  go_enter Tryd.func22, Tryd.ntmps22
  go_wp2_with (first
    | (go_at_call 21; (with_reducible refine g.mono ?_); rintro e w1 ⟨rfl, ho1, hk1⟩; obtain ⟨hc4, hf4⟩ := HCELL.out w1 hk1; have HO1 := Lib.hid ho1; have HK1 := Lib.hid hk1; clear ho1 hk1)
    | simp only [add64_0 _ _ a0 a1, a2, a3])
  refine bodyPost_end (v := .tuple #[]) (by simp [results, Tryd.results22, go_sem]) rfl ⟨rfl, ?_, ?_, HK1.out.two _ _⟩
  · exact oa_set HO1.out (fun h => hCD h.symm) _ _
  · have h := objAt_set (HK1.out.at_ HC.out.obj hCD) 123 (.int .u64 (n64 (BitVec.ofNat 64 (o + bs.length))))
    rw [ctrC_set] at h
    exact h
end Go.Proofs.YtfcdldcekdbckaeDoor
