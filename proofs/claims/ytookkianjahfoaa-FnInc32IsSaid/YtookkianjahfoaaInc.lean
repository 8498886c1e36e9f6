/- The walks of the counter's increment. -/
import Derived.Test.YtookkianjahfoaaBe
import Derived.Test.YtookkianjahfoaaOpen
import Derived.Test.YtookkianjahfoaaEq
import Derived.Test.YtookkianjahfoaaHeld
import Derived.Test.YtookkianjahfoaaUni
namespace Go.Proofs.Ytookkianjahfoaa
open Go.RowKit Gf

def wadd {w : Nat} (x y : BitVec w) : BitVec w := x + y
@[go_sem] theorem add1_32 (x : BitVec 32) : IntKind.u32.wrap (n32 x + 1) = n32 (wadd x 1#32) := by
  rw [IntKind.wrap_u32]; unfold wadd n32; rw [BitVec.toNat_add]; simp
@[go_sem] theorem add64w (x y : BitVec 64) : IntKind.u64.wrap (n64 x + n64 y) = n64 (wadd x y) := by
  rw [IntKind.wrap_u64]; unfold wadd n64; rw [BitVec.toNat_add]; omega
@[go_sem] theorem shr64_8 (x : BitVec 64) : n64 x / 256 = n64 (wshr x 8) := shr64 x 8

@[go_sem] theorem byte_setB_ne (x : BitVec 128) (i : Nat) (b : BitVec 8) (j : Nat) (hj : j < 16) (hne : j ≠ i) : byte (setB x i b) j = byte x j := by rw [byte_setB _ _ _ _ hj, if_neg hne]
theorem Keeps.drewN {g : Nat} {a w : World} (h : Keeps g a w) (k : Nat) : Keeps g a (w.drewN k) := ⟨bel_drewN h.bel k, h.size, h.other⟩
/-- The reference's steps. -/
def nx0 (x : BitVec 128) (v : BitVec 64) : BitVec 64 := wadd v (wext 64 (byte x 15))
def nx1 (x : BitVec 128) (v : BitVec 64) : BitVec 64 := wadd (wshr (nx0 x v) 8) (wext 64 (byte x 14))
def nx2 (x : BitVec 128) (v : BitVec 64) : BitVec 64 := wadd (wshr (nx1 x v) 8) (wext 64 (byte x 13))
def nx3 (x : BitVec 128) (v : BitVec 64) : BitVec 64 := wadd (wshr (nx2 x v) 8) (wext 64 (byte x 12))
def next4 (x : BitVec 128) (v : BitVec 64) : BitVec 128 :=
  setB (setB (setB (setB x 15 (wext 8 (nx0 x v))) 14 (wext 8 (nx1 x v))) 13 (wext 8 (nx2 x v))) 12 (wext 8 (nx3 x v))
/-- The code's: one more. -/
def inc4 (x : BitVec 128) : BitVec 128 := put4 x 12 (wadd (be32 (byte x 12) (byte x 13) (byte x 14) (byte x 15)) 1#32)

theorem next4_inc4 (x : BitVec 128) : next4 x 1#64 = inc4 x := by
  have ha := (byte x 12).isLt; have hb := (byte x 13).isLt; have hc := (byte x 14).isLt; have hd := (byte x 15).isLt
  have hv : (wadd (be32 (byte x 12) (byte x 13) (byte x 14) (byte x 15)) 1#32).toNat = ((byte x 12).toNat * 16777216 + (byte x 13).toNat * 65536 + (byte x 14).toNat * 256 + (byte x 15).toNat + 1) % 4294967296 := by
    unfold wadd; rw [BitVec.toNat_add, be32_nat]; rfl
  have e1 : ∀ y : BitVec 8, (wext 64 y).toNat = y.toNat := fun y => by unfold wext; rw [BitVec.toNat_setWidth]; have := y.isLt; omega
  have hs : ∀ y : BitVec 64, (wshr y 8).toNat = y.toNat / 256 := fun y => by unfold wshr; rw [BitVec.toNat_ushiftRight, Nat.shiftRight_eq_div_pow]
  have ad : ∀ y z : BitVec 64, (wadd y z).toNat = (y.toNat + z.toNat) % 18446744073709551616 := fun y z => by unfold wadd; rw [BitVec.toNat_add]
  have hn0 : (nx0 x 1#64).toNat = (byte x 15).toNat + 1 := by unfold nx0; rw [ad, e1]; have : (1#64).toNat = 1 := rfl; omega
  have hn1 : (nx1 x 1#64).toNat = ((byte x 15).toNat + 1) / 256 + (byte x 14).toNat := by unfold nx1; rw [ad, e1, hs, hn0]; omega
  have hn2 : (nx2 x 1#64).toNat = (((byte x 15).toNat + 1) / 256 + (byte x 14).toNat) / 256 + (byte x 13).toNat := by unfold nx2; rw [ad, e1, hs, hn1]; omega
  have hn3 : (nx3 x 1#64).toNat = ((((byte x 15).toNat + 1) / 256 + (byte x 14).toNat) / 256 + (byte x 13).toNat) / 256 + (byte x 12).toNat := by unfold nx3; rw [ad, e1, hs, hn2]; omega
  have w8 : ∀ y : BitVec 64, (wext 8 y).toNat = y.toNat % 256 := fun y => by unfold wext; rw [BitVec.toNat_setWidth]
  have v8 : ∀ (y : BitVec 32), (wext 8 y).toNat = y.toNat % 256 := fun y => by unfold wext; rw [BitVec.toNat_setWidth]
  have s24 : ∀ y : BitVec 32, (wshr y 24).toNat = y.toNat / 16777216 := fun y => by unfold wshr; rw [BitVec.toNat_ushiftRight, Nat.shiftRight_eq_div_pow]
  have s16 : ∀ y : BitVec 32, (wshr y 16).toNat = y.toNat / 65536 := fun y => by unfold wshr; rw [BitVec.toNat_ushiftRight, Nat.shiftRight_eq_div_pow]
  have s8 : ∀ y : BitVec 32, (wshr y 8).toNat = y.toNat / 256 := fun y => by unfold wshr; rw [BitVec.toNat_ushiftRight, Nat.shiftRight_eq_div_pow]
  unfold next4 inc4 put4
  generalize hV : wadd (be32 (byte x 12) (byte x 13) (byte x 14) (byte x 15)) 1#32 = V at hv
  have E15 : wext 8 (nx0 x 1#64) = wext 8 V := by apply BitVec.eq_of_toNat_eq; rw [w8, v8, hn0, hv]; omega
  have E14 : wext 8 (nx1 x 1#64) = wext 8 (wshr V 8) := by apply BitVec.eq_of_toNat_eq; rw [w8, v8, s8, hn1, hv]; omega
  have E13 : wext 8 (nx2 x 1#64) = wext 8 (wshr V 16) := by apply BitVec.eq_of_toNat_eq; rw [w8, v8, s16, hn2, hv]; omega
  have E12 : wext 8 (nx3 x 1#64) = wext 8 (wshr V 24) := by apply BitVec.eq_of_toNat_eq; rw [w8, v8, s24, hn3, hv]; omega
  rw [E15, E14, E13, E12]
  apply bytes_ext
  intro i hi
  simp only [byte_setB _ _ _ _ hi]
  by_cases h12 : i = 12
  · subst h12; simp
  by_cases h13 : i = 13
  · subst h13; simp
  by_cases h14 : i = 14
  · subst h14; simp
  by_cases h15 : i = 15
  · subst h15; simp
  simp [h12, h13, h14, h15]

set_option maxHeartbeats 1000000 in
theorem next_any (x : BitVec 128) (v : BitVec 64) (w : World) :
    Calls Try.prog 7 #[.agg (blk x), .int .u64 (n64 v), .int .i64 4] w fun e w' => e = .returned (.agg (blk (next4 x v))) ∧ Below w.heap.size w w' := by
  go_enter Try.func7, Try.ntmps7
  go_wp2
  go_rounds 5
  refine bodyPost_ret (retB (x := next4 x v) (t := 28) (fr := (0, 0)) rfl rfl ?_) rfl ⟨rfl, ?_⟩
  · simp [go_sem, next4, nx3, nx2, nx1, nx0]
  · go_grown
theorem one64 : n64 1#64 = 1 := by decide
theorem next_one (x : BitVec 128) (w : World) :
    Calls Try.prog 7 #[.agg (blk x), .int .u64 1, .int .i64 4] w fun e w' => e = .returned (.agg (blk (inc4 x))) ∧ Below w.heap.size w w' := by
  have h := next_any x 1#64 w
  rwa [one64, next4_inc4] at h

set_option maxHeartbeats 1000000 in
theorem ginc_any (x : BitVec 128) (g : Nat) (w : World) (hg : objAt w g = some (.cells (blk x) 26 (0, 0))) :
    Calls Try.prog 11 #[.pointer (some ⟨g, 0, none⟩)] w fun e w' => e = .returned (.tuple #[]) ∧ objAt w' g = some (.cells (blk (inc4 x)) 26 (0, 0)) ∧ Keeps g w w' := by
  have c0 := (objAt_cell hg 12).trans (blk_get _ _ (by decide))
  have c1 := (objAt_cell hg 13).trans (blk_get _ _ (by decide))
  have c2 := (objAt_cell hg 14).trans (blk_get _ _ (by decide))
  have c3 := (objAt_cell hg 15).trans (blk_get _ _ (by decide))
  go_enter Try.func11, Try.ntmps11
  go_wp2_with (first
    | (go_at_call 14; (with_reducible refine (be_any g 12 4 4 _ _ _ _ _ (by decide) (by decide) c0 c1 c2 c3).mono ?_); rintro e w1 ⟨rfl, m, rfl⟩; have hg1 := oa_drewN hg m)
    | (go_at_call 13; (with_reducible refine (put_any g 12 4 4 x _ 26 _ (by decide) (by decide) (by decide) hg1).mono ?_); rintro e w2 ⟨rfl, g2, hk⟩))
  exact bodyPost_end (results_none rfl _ _ _) rfl ⟨rfl, g2, ((Keeps.refl g w).drewN m).trans hk⟩

theorem zinc_any (x : BitVec 128) (w : World) :
    Calls Try.prog 9 #[.agg (blk x)] w fun e w' => e = .returned (.agg (blk (inc4 x))) ∧ Below w.heap.size w w' := by
  have q0 : objAt ((w.alloc (.cells (blk x) 26)).alloc (.cells (blk 0#128) 26)) w.heap.size = some (.cells (blk x) 26 (0, 0)) := by simp [go_sem]
  have q1 : objAt ((w.alloc (.cells (blk x) 26)).alloc (.cells (blk 0#128) 26)) (w.heap.size + 1) = some (.cells (blk 0#128) 26 (0, 0)) := by simp [go_sem]
  go_enter Try.func9, Try.ntmps9
  go_wp2_with (go_at_call 11; (with_reducible refine (ginc_any x _ _ q0).mono ?_); rintro e w1 ⟨rfl, g0, hk1⟩; have g1 := hk1.at_ q1 (by omega); have hK := Lib.hid hk1; clear hk1)
  refine bodyPost_ret (retA (x := inc4 x) (t := 26) (fr := (0, 0)) rfl rfl (objAt_setRow_same g1 _)) rfl ⟨rfl, ?_⟩
  refine bel_setRow ?_ (by omega) _
  exact (((Below.refl _ _).alloc (by omega) _).alloc (by simp) _).trans (hK.out.bel.mono (by omega))

theorem iinc_any (x : BitVec 128) (w : World) :
    Calls Try.prog 6 #[.agg (blk x)] w fun e w' => e = .returned (.agg (blk (inc4 x))) ∧ Below w.heap.size w w' := by
  go_enter Try.func6, Try.ntmps6
  have q1 : objAt ((w.alloc (.cells (blk x) 26)).alloc (.cells (blk 0#128) 26)) (w.heap.size + 1) = some (.cells (blk 0#128) 26 (0, 0)) := by simp [go_sem]
  go_wp2_with (go_at_call 9; (with_reducible refine (zinc_any _ _).mono ?_); rintro e w1 ⟨rfl, hb1⟩; have g1 := oa_below q1 hb1 (by simp); have hB1 := Lib.hid hb1; clear hb1)
  refine bodyPost_ret (retA (x := inc4 x) (t := 26) (fr := (0, 0)) rfl rfl (objAt_setRow_same g1 _)) rfl ⟨rfl, ?_⟩
  refine bel_setRow ?_ (by omega) _
  exact (((Below.refl _ _).alloc (by omega) _).alloc (by simp) _).trans (hB1.out.mono (by simp; omega))

set_option maxHeartbeats 1000000 in
theorem inc_is (x : BitVec 128) (w : World) :
    Calls Try.prog 4 #[.agg (blk x)] w fun e w' => e = .returned (.bool true) ∧ Below w.heap.size w w' := by
  have t2 := weq_self (inc4 x)
  have q0 : objAt (w.alloc (.cells (blk x) 26)) w.heap.size = some (.cells (blk x) 26 (0, 0)) := objAt_alloc_at _ _ _ rfl
  have b0 : Below w.heap.size w (w.alloc (.cells (blk x) 26)) := (Below.refl _ _).alloc (by omega) _
  go_enter Try.func4, Try.ntmps4
  go_wp2
  refine wp_region_uni (fun w' => objAt w' w.heap.size = some (.cells (blk x) 26 (0, 0)) ∧ Hid (Below w.heap.size w w')) (by kernel_rfl) (by kernel_rfl) ?_ ?_
  · exact ⟨oa_drew q0, start0 b0⟩
  iterate 6 (first | (refine uni_no (by rfl) ?_; simp only [Act.put, List.setIfInBounds_toArray, List.set_cons_zero, List.set_cons_succ]) | (refine uni_val (v := ?_) (by rfl) ?_ ?_; rotate_left; (focus (intro w hS; (try dsimp only at hS); go_simp; (try with_reducible rfl); done)); simp only [Act.put, List.setIfInBounds_toArray, List.set_cons_zero, List.set_cons_succ]) | (refine uni_callB (by rfl) (iinc_any x) (fun _ _ hS hb => held1 hb hS) ?_ ?_; (focus (intro w hS; (try dsimp only at hS); go_simp; done)); simp only [Act.put, List.setIfInBounds_toArray, List.set_cons_zero, List.set_cons_succ]) | (refine uni_callB (by rfl) (next_one x) (fun _ _ hS hb => held1 hb hS) ?_ ?_; (focus (intro w hS; (try dsimp only at hS); go_simp; done)); simp only [Act.put, List.setIfInBounds_toArray, List.set_cons_zero, List.set_cons_succ]))
  refine uni_nil fun w1 hS => ?_
  go_wp2
  go_ret
  exact ⟨rfl, hS.2.out⟩
end Go.Proofs.Ytookkianjahfoaa
