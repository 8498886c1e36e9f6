/- The walks of a block's move to the left. -/
import Derived.Test.YtaalpefdialjpaaShlP
import Derived.Test.YtaalpefdialjpaaOpen
import Derived.Test.YtaalpefdialjpaaEq
import Derived.StillTailTactics
import Derived.BigQuiet
import Derived.BigRegion
import Derived.Handy
import Derived.Lib.Hide
namespace Go.Proofs.Ytaalpefdialjpaa
open Go.RowKit Gf

@[go_sem] theorem shr8_7 (x : BitVec 8) : n8 x / 128 = n8 (wshr x 7) := shr8 x 7
@[go_sem] theorem shl8_1 (x : BitVec 8) : IntKind.u8.wrap (n8 x * 2) = n8 (wshl x 1) := shl8 x 1

theorem retA2 {fn : Func} {p q : Tmp} (h : fn.results = #[.cell p 26, .tmp q]) {tmps : Array Value} {w : World} {g : Nat} {t : TypeId} {fr : Nat × Nat} {x : BitVec 128} {v : Value}
    (hp : tmps.getD p undef = .pointer (some ⟨g, 0, none⟩)) (hq : tmps.getD q undef = v) (hg : objAt w g = some (.cells (blk x) t fr)) : (results fn tmps).run Try.prog w = .ok (.tuple #[.agg (blk x), v]) w := by
  have hp' : tmps[p]?.getD undef = .pointer (some ⟨g, 0, none⟩) := by simpa using hp
  have hq' : tmps[q]?.getD undef = v := by simpa using hq
  have hr := run_loadVar_row (P := Try.prog) w g t 26 (blk x) fr _ hg Try.underlying26 rfl (by rw [blk_size]; kernel_rfl)
  simp [results, h, hp', hq', asAddr, hr]
theorem retB2 {fn : Func} {p q : Tmp} (h : fn.results = #[.cell p 27, .tmp q]) {tmps : Array Value} {w : World} {g : Nat} {t : TypeId} {fr : Nat × Nat} {x : BitVec 128} {v : Value}
    (hp : tmps.getD p undef = .pointer (some ⟨g, 0, none⟩)) (hq : tmps.getD q undef = v) (hg : objAt w g = some (.cells (blk x) t fr)) : (results fn tmps).run Try.prog w = .ok (.tuple #[.agg (blk x), v]) w := by
  have hp' : tmps[p]?.getD undef = .pointer (some ⟨g, 0, none⟩) := by simpa using hp
  have hq' : tmps[q]?.getD undef = v := by simpa using hq
  have hr := run_loadVar_row (P := Try.prog) w g t 27 (blk x) fr _ hg Try.underlying27 rfl (by rw [blk_size]; kernel_rfl)
  simp [results, h, hp', hq', asAddr, hr]

set_option maxHeartbeats 1000000 in
theorem sleft_any (x : BitVec 128) (w : World) :
    Calls Try.prog 9 #[.agg (blk x)] w fun e w' => e = .returned (.tuple #[.agg (blk (x <<< 1)), .int .u8 (n8 (wshr (byte x 0) 7))]) ∧ Below w.heap.size w w' := by
  go_enter Try.func9, Try.ntmps9
  go_wp2
  go_loopw [7] (fun i wr => ∃ k : Nat, k ≤ 16 ∧ i = .int .i64 k ∧ objAt wr w.heap.size = some (.cells (blk x) 27 (0, 0)) ∧ objAt wr (w.heap.size + 1) = some (.cells (blk 0#128) 27 (0, 0)) ∧
      objAt wr (w.heap.size + 1 + 1) = some (.cells (blk (lTo x k)) 27 (0, 0)) ∧ Below w.heap.size w wr) (fun i _ => 16 - (intOf i).toNat)
  case atStart =>
    refine ⟨0, by omega, rfl, by simp [go_sem], by simp [go_sem], by rw [lTo_zero]; simp [go_sem], ?_⟩
    go_grown
  case round =>
    obtain ⟨k, hk, rfl, h0, h1, h2, hb⟩ := hrel
    have hz0 := oa_lt h2
    have hz1 : w.heap.size + 1 < wr.heap.size := by omega
    have hz2 : w.heap.size < wr.heap.size := by omega
    have hB := Lib.hid hb
    clear hb
    by_cases hlt : k < 16
    · have hk' : (k : Int) < 16 := by omega
      have c0 := (objAt_cell h0 k).trans (blk_get _ _ hlt)
      have c2 := (objAt_cell h2 k).trans (blk_get _ _ hlt)
      have f2 := objAt_free h2 k
      by_cases h15 : k < 15
      · have hk2 : (k : Int) < 15 := by omega
        have hk3 : k + 1 < 16 := by omega
        have c1 := (objAt_cell h0 (k + 1)).trans (blk_get _ _ hk3)
        have h2' := objAt_set h2 k (.int .u8 (n8 (wshl (byte x k) 1)))
        rw [blk_set _ _ _ hlt] at h2'
        have f2' := objAt_free h2' k
        have c2' := (objAt_cell h2' k).trans (blk_get _ _ hlt)
        rw [byte_lTo_mid x k _ hlt] at c2'
        go_wp2
        have e1 : IntKind.i64.wrap ((k : Int) + 1) = (k : Int) + 1 := IntWalk.i64_in _ (by omega)
        have e4 : ((k : Int) + 1).toNat = k + 1 := by omega
        have e5 : (k : Int) + 1 < 16 := by omega
        have e6 : 0 ≤ (k : Int) + 1 := by omega
        have k1 : (wr.setCell ⟨w.heap.size + 1 + 1, k, none⟩ (.int .u8 (n8 (wshl (byte x k) 1)))).cell? ⟨w.heap.size, k + 1, none⟩ = some (.int .u8 (n8 (byte x (k + 1)))) :=
          (objAt_cell (oa_set h0 (by omega) _ _) (k + 1)).trans (blk_get _ _ hk3)
        refine wp_region_still_tail 11 (by kernel_rfl) (by kernel_rfl) ?_
        change wpStill _ _ (World.drew _) (fun a' => wpList _ _ _ _ a' (World.drew _)) _ _
        simp only [List.take_succ_cons, List.take_zero, List.drop_succ_cons, List.drop_zero]
        repeat still_step
        refine wpStill_nil ?_
        go_wp2
        go_roundw
        case rel =>
          have h3 := objAt_set h2' k (.int .u8 (n8 (wor (wshl (byte x k) 1) (wshr (byte x (k + 1)) 7))))
          rw [blk_set _ _ _ hlt] at h3
          have e : setB (setB (lTo x k) k (wshl (byte x k) 1)) k (wor (wshl (byte x k) 1) (wshr (byte x (k + 1)) 7)) = lTo x (k + 1) := lTo_mid x k h15
          rw [e] at h3
          refine ⟨k + 1, by omega, by go_num, oa_drew (oa_set (oa_set h0 (by omega) _ _) (by omega) _ _), oa_drew (oa_set (oa_set h1 (by omega) _ _) (by omega) _ _), oa_drew h3, ?_⟩
          exact ((hB.out.setCell (p := ⟨w.heap.size + 1 + 1, k, none⟩) (by simp; omega) _).setCell (p := ⟨w.heap.size + 1 + 1, k, none⟩) (by simp; omega) _).drew
        case measure => simp [intOf]; omega
      · obtain rfl : k = 15 := by omega
        go_wp2
        go_roundw
        case rel =>
          have h3 := objAt_set h2 15 (.int .u8 (n8 (wshl (byte x 15) 1)))
          rw [blk_set _ _ _ hlt] at h3
          have e : setB (lTo x 15) 15 (wshl (byte x 15) 1) = lTo x 16 := lTo_last x
          rw [e] at h3
          refine ⟨16, by omega, by go_num, oa_set h0 (by omega) _ _, oa_set h1 (by omega) _ _, h3, ?_⟩
          exact hB.out.setCell (p := ⟨w.heap.size + 1 + 1, 15, none⟩) (by simp; omega) _
        case measure => simp [intOf]
    · obtain rfl : k = 16 := by omega
      rw [lTo_all] at h2
      have c0 := (objAt_cell h0 0).trans (blk_get _ _ (by decide))
      go_wp2
      have c1 : (wr.setRow (w.heap.size + 1) (blk (x <<< 1))).cell? ⟨w.heap.size, 0, none⟩ = some (.int .u8 (n8 (byte x 0))) :=
        (objAt_cell (oa_row h0 (by omega) _) 0).trans (blk_get _ _ (by decide))
      go_region
      go_wp2
      refine bodyPost_ret (retB2 (x := x <<< 1) (t := 27) (fr := (0, 0)) rfl rfl rfl (oa_drew (objAt_setRow_same h1 _))) rfl ⟨rfl, ?_⟩
      exact (bel_setRow hB.out (by omega) _).drew

theorem spleft_any (x : BitVec 128) (w : World) :
    Calls Try.prog 6 #[.agg (blk x)] w fun e w' => e = .returned (.tuple #[.agg (blk (x <<< 1)), .int .u8 (n8 (wshr (byte x 0) 7))]) ∧ Below w.heap.size w w' := by
  go_enter Try.func6, Try.ntmps6
  have q1 : objAt ((w.alloc (.cells (blk x) 27)).alloc (.cells (blk 0#128) 27)) (w.heap.size + 1) = some (.cells (blk 0#128) 27 (0, 0)) := by simp [go_sem]
  go_wp2_with (go_at_call 9; (with_reducible refine (sleft_any _ _).mono ?_); rintro e w1 ⟨rfl, hb1⟩; have g1 := oa_below q1 hb1 (by first | (simp; done) | (simp; omega)); have hB1 := Lib.hid hb1; clear hb1)
  refine bodyPost_ret (retB2 (x := x <<< 1) (t := 27) (fr := (0, 0)) rfl rfl rfl (objAt_setRow_same g1 _)) rfl ⟨rfl, ?_⟩
  refine bel_setRow ?_ (by omega) _
  exact (((Below.refl _ _).alloc (by omega) _).alloc (by simp) _).trans (hB1.out.mono (by simp; omega))

set_option maxHeartbeats 1000000 in
/-- The code's move: in place. -/
theorem shl_any (x : BitVec 128) (g : Nat) (t : TypeId) (w : World) (hg : objAt w g = some (.cells (blk x) t (0, 0))) :
    Calls Try.prog 12 #[.pointer (some ⟨g, 0, none⟩)] w fun e w' => e = .returned (.int .u8 (n8 (wshr (byte x 0) 7))) ∧ objAt w' g = some (.cells (blk (x <<< 1)) t (0, 0)) ∧ Keeps g w w' := by
  have hgz := oa_lt hg
  go_enter Try.func12, Try.ntmps12
  go_wp2
  go_loopw [3, 4] (fun c i wr => ∃ k : Nat, k ≤ 16 ∧ i = .int .i64 ((k : Int) - 1) ∧ c = .int .u8 (n8 (outB x k)) ∧ objAt wr g = some (.cells (blk (rTo x k)) t (0, 0)) ∧ Keeps g w wr) (fun _ i _ => (intOf i + 1).toNat)
  case atStart =>
    exact ⟨16, by omega, rfl, rfl, by rw [rTo_all]; exact hg, Keeps.refl g w⟩
  case round =>
    obtain ⟨k, hk, rfl, rfl, h0, hb⟩ := hrel
    have hB := Lib.hid hb
    clear hb
    cases k with
    | zero =>
      go_wp2
      go_ret
      rw [outB_lt x 0 (by decide)]
      rw [rTo_zero] at h0
      exact ⟨rfl, h0, hB.out⟩
    | succ k =>
      have hk1 : k < 16 := by omega
      have e0 : ((k + 1 : Nat) : Int) - 1 = (k : Int) := by omega
      have e1 : (0 : Int) ≤ (k : Int) := by omega
      have e2 : (k : Int) < 16 := by omega
      have c0 := (objAt_cell h0 k).trans (blk_get _ _ hk1)
      rw [byte_rTo x k hk1] at c0
      have f0 := objAt_free h0 k
      rw [e0]
      go_wp2
      go_region
      go_wp2
      go_roundw
      case rel =>
        have h3 := objAt_set h0 k (.int .u8 (n8 (wor (wshl (byte x k) 1) (outB x (k + 1)))))
        rw [blk_set _ _ _ hk1] at h3
        have e : setB (rTo x (k + 1)) k (wor (wshl (byte x k) 1) (outB x (k + 1))) = rTo x k := rTo_succ x k hk1
        rw [e] at h3
        refine ⟨k, by omega, by go_num, by rw [outB_lt x k hk1]; rfl, oa_drew h3, ?_⟩
        exact (hB.out.set k _).drew
      case measure => simp [intOf]

set_option maxHeartbeats 1000000 in
theorem zshl_any (x : BitVec 128) (w : World) :
    Calls Try.prog 10 #[.agg (blk x)] w fun e w' => e = .returned (.tuple #[.agg (blk (x <<< 1)), .int .u8 (n8 (wshr (byte x 0) 7))]) ∧ Below w.heap.size w w' := by
  have q0 : objAt ((w.alloc (.cells (blk x) 26)).alloc (.cells (blk 0#128) 26)) w.heap.size = some (.cells (blk x) 26 (0, 0)) := by simp [go_sem]
  have q1 : objAt ((w.alloc (.cells (blk x) 26)).alloc (.cells (blk 0#128) 26)) (w.heap.size + 1) = some (.cells (blk 0#128) 26 (0, 0)) := by simp [go_sem]
  go_enter Try.func10, Try.ntmps10
  go_wp2_with (go_at_call 12; (with_reducible refine (shl_any x _ 26 _ q0).mono ?_); rintro e w1 ⟨rfl, g0, hk1⟩; have g1 := hk1.at_ q1 (by omega); have hK := Lib.hid hk1; clear hk1)
  refine bodyPost_ret (retA2 (x := x <<< 1) (t := 26) (fr := (0, 0)) rfl rfl rfl (objAt_setRow_same g1 _)) rfl ⟨rfl, ?_⟩
  refine bel_setRow ?_ (by omega) _
  exact (((Below.refl _ _).alloc (by omega) _).alloc (by simp) _).trans (hK.out.bel.mono (by omega))

theorem ishl_any (x : BitVec 128) (w : World) :
    Calls Try.prog 7 #[.agg (blk x)] w fun e w' => e = .returned (.tuple #[.agg (blk (x <<< 1)), .int .u8 (n8 (wshr (byte x 0) 7))]) ∧ Below w.heap.size w w' := by
  go_enter Try.func7, Try.ntmps7
  have q1 : objAt ((w.alloc (.cells (blk x) 26)).alloc (.cells (blk 0#128) 26)) (w.heap.size + 1) = some (.cells (blk 0#128) 26 (0, 0)) := by simp [go_sem]
  go_wp2_with (go_at_call 10; (with_reducible refine (zshl_any _ _).mono ?_); rintro e w1 ⟨rfl, hb1⟩; have g1 := oa_below q1 hb1 (by first | (simp; done) | (simp; omega)); have hB1 := Lib.hid hb1; clear hb1)
  refine bodyPost_ret (retA2 (x := x <<< 1) (t := 26) (fr := (0, 0)) rfl rfl rfl (objAt_setRow_same g1 _)) rfl ⟨rfl, ?_⟩
  refine bel_setRow ?_ (by omega) _
  exact (((Below.refl _ _).alloc (by omega) _).alloc (by simp) _).trans (hB1.out.mono (by simp; omega))

theorem set_one_bytes : (List.range 16).all (fun i => byte (setB 0#128 0 128#8) i == byte e0 i) = true := by decide +kernel
@[go_sem] theorem set_one : (blk 0#128).setIfInBounds 0 (.int .u8 128) = blk e0 := by
  have h := blk_set 0#128 0 128#8 (by decide)
  have e : setB 0#128 0 128#8 = e0 := bytes_ext fun i hi => by simpa using List.all_eq_true.1 set_one_bytes i (List.mem_range.2 hi)
  rw [e] at h
  exact h
theorem top_out : weq (wshr (byte e0 0) 7) 1#8 = true := by decide +kernel
theorem top_outn : n8 (wshr (byte e0 0) 7) = 1 := by
  have h : wshr (byte e0 0) 7 = 1#8 := by have := top_out; unfold weq at this; simpa using this
  rw [h]; rfl

set_option maxHeartbeats 1000000 in
theorem shl_is (x : BitVec 128) (w : World) :
    Calls Try.prog 4 #[.agg (blk x)] w fun e w' => e = .returned (.bool true) ∧ Below w.heap.size w w' := by
  have t1 := top_outn
  have t2 := weq_self (x <<< 1)
  have t3 := weq_self (wshr (byte x 0) 7)
  have q0 : objAt (w.alloc (.cells (blk x) 26)) w.heap.size = some (.cells (blk x) 26 (0, 0)) := objAt_alloc_at _ _ _ rfl
  go_enter Try.func4, Try.ntmps4
  go_wp2_with (first
    | (go_at_call 6; (with_reducible refine (spleft_any _ _).mono ?_); rintro e w1 ⟨rfl, hb1⟩; have z1 := hb1.size; simp at z1; have p0 := oa_below q0 hb1 (by simp); have y1 : w.heap.size < w1.heap.size := (by omega); have p0' := oa_alloc p0 (.cells (blk (x <<< 1)) 27); have hB1 := Lib.hid hb1; clear hb1)
    | (go_at_call 7; (with_reducible refine (ishl_any x _).mono ?_); rintro e w2 ⟨rfl, hb2⟩; have z2 := hb2.size; simp at z2; have p1 := oa_below (oa_alloc p0 (.cells (blk (x <<< 1)) 27)) hb2 (by simp; omega); have r1 := oa_below (objAt_alloc_at w1 (.cells (blk (x <<< 1)) 27) _ rfl) hb2 (by simp); have y2 : w1.heap.size < w2.heap.size := (by omega); have y2' : w.heap.size < w2.heap.size := (by omega); have p1' := oa_alloc p1 (.cells (blk (x <<< 1)) 26); have r1' := oa_alloc r1 (.cells (blk (x <<< 1)) 26); have hB2 := Lib.hid hb2; clear hb2)
    | (go_at_call 7; (with_reducible refine (ishl_any e0 _).mono ?_); rintro e w3 ⟨rfl, hb3⟩; have z3 := hb3.size; simp at z3; have p2 := oa_below (oa_alloc p1 (.cells (blk (x <<< 1)) 26)) hb3 (by simp; omega); have r2 := oa_below (oa_alloc r1 (.cells (blk (x <<< 1)) 26)) hb3 (by simp; omega); have s2 := oa_below (objAt_alloc_at w2 (.cells (blk (x <<< 1)) 26) _ rfl) hb3 (by simp); have y3 : w2.heap.size < w3.heap.size := (by omega); have y3' : w1.heap.size < w3.heap.size := (by omega); have y3'' : w.heap.size < w3.heap.size := (by omega); have p3 := oa_alloc p2 (.cells (blk (e0 <<< 1)) 26); have r3 := oa_alloc r2 (.cells (blk (e0 <<< 1)) 26); have s3 := oa_alloc s2 (.cells (blk (e0 <<< 1)) 26); have hB3 := Lib.hid hb3; clear hb3))
  go_ret
  refine ⟨rfl, ?_⟩
  have b1 := ((Below.refl w.heap.size w).alloc (by omega) (.cells (blk x) 26)).trans (hB1.out.mono (by simp))
  have b2 := (b1.alloc (by omega) (.cells (blk (x <<< 1)) 27)).trans (hB2.out.mono (by simp; omega))
  have b3 := (b2.alloc (by omega) (.cells (blk (x <<< 1)) 26)).trans (hB3.out.mono (by simp; omega))
  exact b3.alloc (by omega) _
end Go.Proofs.Ytaalpefdialjpaa
