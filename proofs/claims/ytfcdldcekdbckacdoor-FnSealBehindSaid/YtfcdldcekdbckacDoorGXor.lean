/- Two rows of bytes added into a third place, by the other package's function. -/
import Derived.Test.YtfcdldcekdbckacDoorXorP
namespace Go.Proofs.YtfcdldcekdbckacDoor
open Go Go.RowKit Gf

set_option maxHeartbeats 2000000 in
set_option maxRecDepth 100000 in
theorem gxor_any (D od dn dc X ox xn xc Y oy yn yc : Nat) (cs : Array Value) (xs ys : List (BitVec 8)) (tD : TypeId) (w : World) (hD : objAt w D = some (.cells cs tD (0, 0))) (hroom : ByteRoom cs od (min xn yn)) (hpos : 0 < min xn yn) (hdn : min xn yn ≤ dn)
    (hb : (dn : Int) ≤ 9223372036854775807) (hxs : min xn yn ≤ xs.length) (hys : min xn yn ≤ ys.length) (hX : RdL w X ox xs) (hY : RdL w Y oy ys) (aX : X ≠ D ∨ od ≤ ox ∨ ox + min xn yn ≤ od) (aY : Y ≠ D ∨ od ≤ oy ∨ oy + min xn yn ≤ od) :
    Calls Tryd.prog 38 #[.slice (some ⟨D, od, none⟩) dn dc, .slice (some ⟨X, ox, none⟩) xn xc, .slice (some ⟨Y, oy, none⟩) yn yc] w
      fun e w' => e = .returned (.int .i64 ((min xn yn : Nat) : Int)) ∧ objAt w' D = some (.cells (putL cs od ((xorL xs ys).take (min xn yn))) tD (0, 0)) ∧ Keeps D w w' := by
  have m0 : (if yn < xn then (yn : Int) else (xn : Int)) = ((min xn yn : Nat) : Int) := by split <;> omega
  obtain ⟨m, hm⟩ : ∃ m, m = min xn yn := ⟨_, rfl⟩
  have mx : (m : Int) ≤ xn := by omega
  have my : (m : Int) ≤ yn := by omega
  rw [← hm] at hroom hpos hdn hxs hys aX aY m0 ⊢
  have mp : ((m : Int) == 0) = false := by simp; omega
  have md : decide (dn < m) = false := by simp; omega
  have HD := Lib.hid hD
  have HR := Lib.hid hroom
  have HX := Lib.hid hX
  have HY := Lib.hid hY
  have hl : m ≤ (xorL xs ys).length := by rw [xorL_length]; omega
  clear hD hroom hX hY hm
  go_enter Tryd.func38, Tryd.ntmps38
  go_wp2
  clear m0
  go_loopw [8] (fun i wr => ∃ k : Nat, k ≤ m ∧ i = .int .i64 k ∧ objAt wr D = some (.cells (putL cs od ((xorL xs ys).take k)) tD (0, 0)) ∧ Keeps D w wr) (fun i _ => m - (intOf i).toNat)
  case atStart => exact ⟨0, by omega, rfl, HD.out, Keeps.refl _ _⟩
  case round =>
    obtain ⟨k, hk, rfl, hDk, hK⟩ := hrel
    have HDK := Lib.hid hDk
    have HK := Lib.hid hK
    by_cases hlt : k < m
    · have hk' : (k : Int) < m := by omega
      have hkx : (k : Int) < xn := by omega
      have hky : (k : Int) < yn := by omega
      have hkd : (k : Int) < dn := by omega
      have hll : ((xorL xs ys).take k).length = k := by rw [List.length_take]; omega
      have ex : xs[k]? = some (xs[k]'(by omega)) := List.getElem?_eq_getElem (by omega)
      have ey : ys[k]? = some (ys[k]'(by omega)) := List.getElem?_eq_getElem (by omega)
      generalize xs[k]'(by omega) = x at ex
      generalize ys[k]'(by omega) = y at ey
      have c1 := rd_put HD.out hDk hK (HX.out k x ex) (by rw [hll]; omega)
      have c2 := rd_put HD.out hDk hK (HY.out k y ey) (by rw [hll]; omega)
      obtain ⟨z, rz⟩ := (HR.out.put (p := od) (ds := (xorL xs ys).take k)).get k hlt
      have c3 := (objAt_cell hDk (od + k)).trans rz
      have f3 := objAt_free hDk (od + k)
      have HE := Lib.hid (xorL_get xs ys k x y ex ey)
      clear hDk hK ex ey hll rz
      go_wp2
      refine wp_region_still_tail 12 (by kernel_rfl) (by kernel_rfl) ?_
      change wpStill _ _ (World.drew _) (fun a' => wpList _ _ _ _ a' (World.drew _)) _ _
      simp only [List.take_succ_cons, List.take_zero, List.drop_succ_cons, List.drop_zero]
      repeat still_step
      refine wpStill_nil ?_
      go_wp2
      go_roundw
      case rel =>
        refine ⟨k + 1, by omega, by go_num, ?_, ?_⟩
        · have h := objAt_set HDK.out (od + k) (.int .u8 (n8 (x ^^^ y)))
          rw [putL_step cs od k _ _ HE.out] at h
          exact h
        · exact keeps_drewN (HK.out.set _ _) 1
      case measure => simp [intOf]; omega
    · obtain rfl : k = m := by omega
      clear hDk hK
      go_wp2
      go_ret
      exact ⟨rfl, HDK.out, HK.out⟩
end Go.Proofs.YtfcdldcekdbckacDoor
