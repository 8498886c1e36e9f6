/- Words of 64 bits: read, laid into memory, added to a counter of two halves. -/
import Derived.Test.YtfcdldcekdbckaeDoorNew
import Derived.Laws.Externs
namespace Go.Proofs.YtfcdldcekdbckaeDoor
open Go Go.RowKit Gf

/-! ### A counter of 128 bits as two halves -/
def hiOf (c : BitVec 128) : BitVec 64 := (c >>> 64).setWidth 64
def loOf (c : BitVec 128) : BitVec 64 := c.setWidth 64
def ofHL (h l : BitVec 64) : BitVec 128 := h.setWidth 128 <<< 64 ||| l.setWidth 128
theorem hiOf_nat (c : BitVec 128) : (hiOf c).toNat = c.toNat / 2 ^ 64 := by
  have := c.isLt
  unfold hiOf
  rw [BitVec.toNat_setWidth, BitVec.toNat_ushiftRight, Nat.shiftRight_eq_div_pow]
  omega
theorem loOf_nat (c : BitVec 128) : (loOf c).toNat = c.toNat % 2 ^ 64 := by unfold loOf; rw [BitVec.toNat_setWidth]
theorem hl_hi (h l : BitVec 64) : hiOf (ofHL h l) = h := by
  apply BitVec.eq_of_getLsbD_eq
  intro t ht
  unfold hiOf ofHL
  simp only [BitVec.getLsbD_setWidth, BitVec.getLsbD_ushiftRight, BitVec.getLsbD_or, BitVec.getLsbD_shiftLeft]
  have e2 : 64 + t - 64 = t := by omega
  have h3 : t < 128 := by omega
  have h4 : 64 + t < 128 := by omega
  simp [ht, h3, h4]
theorem hl_lo (h l : BitVec 64) : loOf (ofHL h l) = l := by
  apply BitVec.eq_of_getLsbD_eq
  intro t ht
  unfold loOf ofHL
  simp only [BitVec.getLsbD_setWidth, BitVec.getLsbD_or, BitVec.getLsbD_shiftLeft]
  have h3 : t < 128 := by omega
  simp [ht, h3]
/-- A counter with x added. -/
def cadd (c : BitVec 128) (x : Nat) : BitVec 128 := c + BitVec.ofNat 128 x
theorem cadd_zero (c : BitVec 128) : cadd c 0 = c := by unfold cadd; simp
theorem cadd_add (c : BitVec 128) (x y : Nat) : cadd (cadd c x) y = cadd c (x + y) := by
  apply BitVec.eq_of_toNat_eq
  unfold cadd
  simp only [BitVec.toNat_add, BitVec.toNat_ofNat]
  omega

theorem lookupA : Tryd.prog.funcs[34]? = some Tryd.f34 := by kernel_rfl
theorem add64 (x y c : Int) (hx : 0 ≤ x) (hy : 0 ≤ y) (hc0 : 0 ≤ c) (hc : c ≤ 1) (w : World) : (callFunc 34 #[.int .u64 x, .int .u64 y, .int .u64 c]).run Tryd.prog w =
    .ok (.value (.tuple #[.int .u64 ((x + y + c) % 18446744073709551616), .int .u64 ((x + y + c) / 18446744073709551616)])) w := by
  rw [run_callFunc_extern lookupA (by kernel_rfl) (by kernel_rfl) (by kernel_rfl) (e := add64Entry) (by kernel_rfl), run_add64 x y c hx hy hc0 hc]
  rfl
theorem add64_0 (x y : Int) (hx : 0 ≤ x) (hy : 0 ≤ y) (w : World) : (callFunc 34 #[.int .u64 x, .int .u64 y, .int .u64 0]).run Tryd.prog w =
    .ok (.value (.tuple #[.int .u64 ((x + y) % 18446744073709551616), .int .u64 ((x + y) / 18446744073709551616)])) w := by
  simpa using add64 x y 0 hx hy (Int.le_refl 0) (by decide) w
theorem add64_m (y c : Int) (hy : 0 ≤ y) (hc0 : 0 ≤ c) (hc : c ≤ 1) (w : World) : (callFunc 34 #[.int .u64 y, .int .u64 0, .int .u64 c]).run Tryd.prog w =
    .ok (.value (.tuple #[.int .u64 ((y + c) % 18446744073709551616), .int .u64 ((y + c) / 18446744073709551616)])) w := by
  simpa using add64 y 0 c hy (Int.le_refl 0) hc0 hc w
theorem lo_add (c : BitVec 128) (x : Nat) : (n64 (loOf c) + (x : Int)) % 18446744073709551616 = n64 (loOf (cadd c x)) := by
  unfold n64
  rw [loOf_nat, loOf_nat]
  unfold cadd
  simp only [BitVec.toNat_add, BitVec.toNat_ofNat]
  omega
theorem hi_add (c : BitVec 128) (x : Nat) (hx : x < 18446744073709551616) : (n64 (hiOf c) + (n64 (loOf c) + (x : Int)) / 18446744073709551616) % 18446744073709551616 = n64 (hiOf (cadd c x)) := by
  have := c.isLt
  unfold n64
  rw [loOf_nat, hiOf_nat, hiOf_nat]
  unfold cadd
  simp only [BitVec.toNat_add, BitVec.toNat_ofNat]
  omega
theorem addc_any (c : BitVec 128) (x : Nat) (hx : x < 18446744073709551616) (w : World) :
    Calls Tryd.prog 29 #[.int .u64 (n64 (loOf c)), .int .u64 (n64 (hiOf c)), .int .u64 (x : Int)] w fun e w' => e = .returned (.tuple #[.int .u64 (n64 (loOf (cadd c x))), .int .u64 (n64 (hiOf (cadd c x)))]) ∧ w' = w := by
  have a1 := n64_lo (loOf c)
  have a2 := n64_hi (loOf c)
  have b1 := n64_lo (hiOf c)
  have k0 : 0 ≤ (n64 (loOf c) + (x : Int)) / 18446744073709551616 := by omega
  have k1 : (n64 (loOf c) + (x : Int)) / 18446744073709551616 ≤ 1 := by omega
  have k2 : (0 : Int) ≤ (x : Int) := by omega
  have e1 := Lib.hid (lo_add c x)
  have e2 := Lib.hid (hi_add c x hx)
  go_enter Tryd.func29, Tryd.ntmps29
  go_wp2_with (first | simp only [add64_0 _ _ a1 k2] | simp only [add64_m _ _ b1 k0 k1])
  go_ret2
  rw [e1.out, e2.out]
  exact ⟨rfl, rfl⟩

/-! ### Eight bytes -/
def w8 (v : BitVec 64) (i : Nat) : BitVec 8 := wext 8 (wshr v (56 - 8 * i))
def be64 (v : BitVec 64) : List (BitVec 8) := (List.range 8).map (w8 v)
theorem be64_length (v : BitVec 64) : (be64 v).length = 8 := by simp [be64]
theorem be64_take (v : BitVec 64) (k : Nat) (h : k < 8) : (be64 v).take (k + 1) = (be64 v).take k ++ [w8 v k] := by
  rw [List.take_succ_eq_append_getElem (by rw [be64_length]; exact h)]
  simp [be64]
theorem w8_shift (v : BitVec 64) (k : Nat) : IntKind.u8.wrap (n64 v / 2 ^ (56 - 8 * k)) = n8 (w8 v k) := by
  rw [shr64_k, u8_n64]; rfl
set_option maxHeartbeats 1000000 in
theorem aput64_any (g o n c : Nat) (cs : Array Value) (v : BitVec 64) (t : TypeId) (w : World) (hr : ByteRoom cs o 8) (hn : 8 ≤ n) (hn2 : (n : Int) ≤ 9223372036854775807)
    (hg : objAt w g = some (.cells cs t (0, 0))) :
    Calls Tryd.prog 44 #[.slice (some ⟨g, o, none⟩) n c, .int .u64 (n64 v)] w fun e w' => e = .returned (.tuple #[]) ∧ objAt w' g = some (.cells (putL cs o (be64 v)) t (0, 0)) ∧ Keeps g w w' := by
  have k7 : (7 : Int) < (n : Int) := by omega
  obtain ⟨y7, r7⟩ := hr.get 7 (by decide)
  have c7 := (objAt_cell hg (o + 7)).trans r7
  have HR := Lib.hid hr
  have HG := Lib.hid hg
  clear hr hg r7
  go_enter Tryd.func44, Tryd.ntmps44
  go_wp2
  clear c7
  go_loopw [4] (fun i wr => ∃ k : Nat, k ≤ 8 ∧ i = .int .i64 k ∧ objAt wr g = some (.cells (putL cs o ((be64 v).take k)) t (0, 0)) ∧ Keeps g w wr) (fun i _ => 8 - (intOf i).toNat)
  case atStart => exact ⟨0, by omega, rfl, HG.out, Keeps.refl _ _⟩
  case round =>
    obtain ⟨k, hk, rfl, hgk, hK⟩ := hrel
    have HGK := Lib.hid hgk
    have HK := Lib.hid hK
    by_cases hlt : k < 8
    · have hk' : (k : Int) < 8 := by omega
      have hkn : (k : Int) < n := by omega
      have e0 : IntKind.i64.wrap (8 * (k : Int)) = ((8 * k : Nat) : Int) := by rw [IntKind.wrap_i64]; omega
      have e1 : IntKind.i64.wrap (56 - 8 * (k : Int)) = ((56 - 8 * k : Nat) : Int) := by rw [IntKind.wrap_i64]; omega
      have e2 : ¬ (56 - 8 * (k : Int) < 0) := by omega
      obtain ⟨y, ry⟩ := (HR.out.put (p := o) (ds := (be64 v).take k)).get k (by omega)
      have c1 := (objAt_cell hgk (o + k)).trans ry
      have f1 := objAt_free hgk (o + k)
      have hw := w8_shift v k
      clear hgk hK ry
      go_wp2
      go_roundw
      case rel =>
        refine ⟨k + 1, by omega, by go_num, ?_, ?_⟩
        · have h := objAt_set HGK.out (o + k) (.int .u8 (n8 (w8 v k)))
          have e : (putL cs o ((be64 v).take k)).setIfInBounds (o + k) (.int .u8 (n8 (w8 v k))) = putL cs o ((be64 v).take (k + 1)) := by
            have h2 := putL_append cs o ((be64 v).take k) [w8 v k]
            rw [List.length_take, be64_length, Nat.min_eq_left (by omega)] at h2
            rw [be64_take v k hlt, ← h2]; rfl
          rw [e] at h
          exact h
        · exact HK.out.set _ _
      case measure => simp [intOf]; omega
    · obtain rfl : k = 8 := by omega
      have e : (be64 v).take 8 = be64 v := List.take_of_length_le (by rw [be64_length]; decide)
      rw [e] at hgk
      have HGK2 := Lib.hid hgk
      clear hgk hK e
      go_wp2
      refine bodyPost_end (v := .tuple #[]) (by simp [results, Tryd.results44, go_sem]) rfl ⟨rfl, HGK2.out, HK.out⟩
end Go.Proofs.YtfcdldcekdbckaeDoor
