/- The walks of the carryless product's callers, up to its two laws. -/
import Derived.Test.YtdaebcaokoajjaaMul
import Derived.Test.YtdaebcaokoajjaaClose
namespace Go.Proofs.Ytdaebcaokoajjaa
open Go.RowKit

theorem scl_any (x y : BitVec 32) (w : World) :
    Calls Try.prog 24 #[.int .u32 (n32 x), .int .u32 (n32 y)] w fun e w' => e = .returned (.int .u64 (n64 (Gf.clm x y))) ∧ w = w' := by
  go_enter Try.func24, Try.ntmps24
  go_wp2
  go_loop [5, 6] (fun t i => ∃ k : Nat, k ≤ 32 ∧ i = .int .i64 k ∧ t = .int .u64 (n64 (Gf.clmN x y k))) (fun _ i => 32 - (intOf i).toNat)
  case atStart => exact ⟨0, by omega, rfl, rfl⟩
  case round =>
    obtain ⟨k, hk, rfl, rfl⟩ := hrel
    by_cases hlt : k < 32
    · go_wp2
      · have hb : y.getLsbD k = true := by assumption
        go_round
        case rel => exact ⟨k + 1, by omega, by go_num, by simp only [Gf.clmN, hb, if_true]; rfl⟩
        case measure => simp [intOf]; omega
      · have hb : y.getLsbD k = false := by assumption
        go_round
        case rel => exact ⟨k + 1, by omega, by go_num, by simp [Gf.clmN, hb]⟩
        case measure => simp [intOf]; omega
    · obtain rfl : k = 32 := by omega
      go_wp2
      go_ret
      exact ⟨rfl, rfl⟩

theorem zmul_any (x y : BitVec 32) (w : World) :
    Calls Try.prog 41 #[.int .u32 (n32 x), .int .u32 (n32 y)] w fun e w' => e = .returned (.int .u64 (n64 (Gf.clm x y))) ∧ Below w.heap.size w w' := by
  go_enter Try.func41, Try.ntmps41
  go_wp2_with (go_at_call 53; refine (mul_any _ _ _).mono ?_; rintro e w1 ⟨rfl, hb1⟩)
  go_ret
  exact ⟨rfl, by assumption⟩

theorem icl_any (x y : BitVec 32) (w : World) :
    Calls Try.prog 23 #[.int .u32 (n32 x), .int .u32 (n32 y)] w fun e w' => e = .returned (.int .u64 (n64 (Gf.clm x y))) ∧ Below w.heap.size w w' := by
  go_enter Try.func23, Try.ntmps23
  go_wp2_with (go_at_call 41; refine (zmul_any _ _ _).mono ?_; rintro e w1 ⟨rfl, hb1⟩)
  go_ret
  exact ⟨rfl, by assumption⟩

theorem weq_refl {n : Nat} (x : BitVec n) : weq x x = true := by unfold weq; simp

theorem carry_is (x y : BitVec 32) (w : World) :
    Calls Try.prog 3 #[.int .u32 (n32 x), .int .u32 (n32 y)] w fun e w' => e = .returned (.bool true) ∧ Below w.heap.size w w' := by
  have hr := weq_refl (Gf.clm x y)
  go_enter Try.func3, Try.ntmps3
  go_wp2_with (first
    | (go_at_call 23; refine (icl_any _ _ _).mono ?_; rintro e w1 ⟨rfl, hb1⟩)
    | (go_at_call 24; refine (scl_any _ _ _).mono ?_; rintro e w2 ⟨rfl, rfl⟩))
  go_ret
  exact ⟨rfl, by assumption⟩

theorem icl_one (x : BitVec 32) (w : World) :
    Calls Try.prog 23 #[.int .u32 (n32 x), .int .u32 1] w fun e w' => e = .returned (.int .u64 (n64 (wext 64 x))) ∧ Below w.heap.size w w' := by
  have h := icl_any x 1#32 w
  rw [Gf.clm_one] at h
  exact h

theorem ring_is (x y z : BitVec 32) (w : World) :
    Calls Try.prog 4 #[.int .u32 (n32 x), .int .u32 (n32 y), .int .u32 (n32 z)] w fun e w' => e = .returned (.bool true) ∧ Below w.heap.size w w' := by
  have e1 : weq (Gf.clm x y) (Gf.clm y x) = true := by rw [Gf.clm_comm]; exact weq_refl _
  have e2 : weq (Gf.clm (wxor x y) z) (wxor (Gf.clm x z) (Gf.clm y z)) = true := by unfold wxor; rw [Gf.clm_xor_left]; exact weq_refl _
  have e3 := weq_refl (wext 64 x)
  have hb := Below.refl w.heap.size w
  go_enter Try.func4, Try.ntmps4
  go_wp2_with (first
    | (go_at_call 23; (with_reducible refine (icl_one _ _).mono ?_); rintro e w1 ⟨rfl, hb1⟩; replace hb := hb.trans (hb1.mono hb.size); clear hb1)
    | (go_at_call 23; (with_reducible refine (icl_any _ _ _).mono ?_); rintro e w1 ⟨rfl, hb1⟩; replace hb := hb.trans (hb1.mono hb.size); clear hb1))
  go_ret
  exact ⟨rfl, by assumption⟩
end Go.Proofs.Ytdaebcaokoajjaa
