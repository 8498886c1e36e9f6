/- Two blocks compared. -/
import Derived.Test.YtfcdldcekdbckaeDoorBlk
namespace Go.Proofs.YtfcdldcekdbckaeDoor
open Go.RowKit Gf
theorem weq_self {n : Nat} (x : BitVec n) : weq x x = true := by unfold weq; simp
theorem weq_ne {n : Nat} {x y : BitVec n} (h : x ≠ y) : weq x y = false := by unfold weq; simp [h]
theorem weq_of {n : Nat} {x y : BitVec n} (h : ¬ weq x y = false) : x = y := by unfold weq at h; simpa using h
theorem ite_chain {α : Type} (c : Prop) [Decidable c] (a b : α) (h : ¬ c → b = a) : (if c then a else b) = a := by split; rfl; exact h ‹_›
set_option maxHeartbeats 2000000 in
@[go_sem] theorem eqA (x y : BitVec 128) (w : World) : (Op.equalIn 10000 23 (.agg (blk x)) (.agg (blk y))).run Tryd.prog w = .ok (weq x y) w := by
  have a5 := Tryd.isAgg5
  have z5 := Tryd.sizeOf5
  rw [show (10000 : Nat) = 9999 + 1 from rfl, Op.equalIn]
  simp only [Sem.run_bind, run_underlying Tryd.underlying23, Result.andThen_ok]
  simp only [Std.Legacy.Range.forIn_eq_forIn_range', Std.Legacy.Range.size, Nat.sub_zero, Nat.add_sub_cancel, Nat.div_one, List.range'_succ, List.range'_zero, List.forIn_cons, List.forIn_nil]
  go_simp
  by_cases hxy : x = y
  · subst hxy
    simp only [weq_self, Bool.true_eq_false, if_false]
  · rw [weq_ne hxy]
    refine ite_chain _ _ _ fun h0 => ?_
    refine ite_chain _ _ _ fun h1 => ?_
    refine ite_chain _ _ _ fun h2 => ?_
    refine ite_chain _ _ _ fun h3 => ?_
    refine ite_chain _ _ _ fun h4 => ?_
    refine ite_chain _ _ _ fun h5 => ?_
    refine ite_chain _ _ _ fun h6 => ?_
    refine ite_chain _ _ _ fun h7 => ?_
    refine ite_chain _ _ _ fun h8 => ?_
    refine ite_chain _ _ _ fun h9 => ?_
    refine ite_chain _ _ _ fun h10 => ?_
    refine ite_chain _ _ _ fun h11 => ?_
    refine ite_chain _ _ _ fun h12 => ?_
    refine ite_chain _ _ _ fun h13 => ?_
    refine ite_chain _ _ _ fun h14 => ?_
    refine ite_chain _ _ _ fun h15 => ?_
    refine absurd (bytes_ext fun i hi => ?_) hxy
    obtain rfl | rfl | rfl | rfl | rfl | rfl | rfl | rfl | rfl | rfl | rfl | rfl | rfl | rfl | rfl | rfl : i = 0 ∨ i = 1 ∨ i = 2 ∨ i = 3 ∨ i = 4 ∨ i = 5 ∨ i = 6 ∨ i = 7 ∨ i = 8 ∨ i = 9 ∨ i = 10 ∨ i = 11 ∨ i = 12 ∨ i = 13 ∨ i = 14 ∨ i = 15 := by omega
    exact weq_of h0
    exact weq_of h1
    exact weq_of h2
    exact weq_of h3
    exact weq_of h4
    exact weq_of h5
    exact weq_of h6
    exact weq_of h7
    exact weq_of h8
    exact weq_of h9
    exact weq_of h10
    exact weq_of h11
    exact weq_of h12
    exact weq_of h13
    exact weq_of h14
    exact weq_of h15
set_option maxHeartbeats 2000000 in
@[go_sem] theorem eqB (x y : BitVec 128) (w : World) : (Op.equalIn 10000 23 (.agg (blk x)) (.agg (blk y))).run Tryd.prog w = .ok (weq x y) w := by
  have a5 := Tryd.isAgg5
  have z5 := Tryd.sizeOf5
  rw [show (10000 : Nat) = 9999 + 1 from rfl, Op.equalIn]
  simp only [Sem.run_bind, run_underlying Tryd.underlying23, Result.andThen_ok]
  simp only [Std.Legacy.Range.forIn_eq_forIn_range', Std.Legacy.Range.size, Nat.sub_zero, Nat.add_sub_cancel, Nat.div_one, List.range'_succ, List.range'_zero, List.forIn_cons, List.forIn_nil]
  go_simp
  by_cases hxy : x = y
  · subst hxy
    simp only [weq_self, Bool.true_eq_false, if_false]
  · rw [weq_ne hxy]
    refine ite_chain _ _ _ fun h0 => ?_
    refine ite_chain _ _ _ fun h1 => ?_
    refine ite_chain _ _ _ fun h2 => ?_
    refine ite_chain _ _ _ fun h3 => ?_
    refine ite_chain _ _ _ fun h4 => ?_
    refine ite_chain _ _ _ fun h5 => ?_
    refine ite_chain _ _ _ fun h6 => ?_
    refine ite_chain _ _ _ fun h7 => ?_
    refine ite_chain _ _ _ fun h8 => ?_
    refine ite_chain _ _ _ fun h9 => ?_
    refine ite_chain _ _ _ fun h10 => ?_
    refine ite_chain _ _ _ fun h11 => ?_
    refine ite_chain _ _ _ fun h12 => ?_
    refine ite_chain _ _ _ fun h13 => ?_
    refine ite_chain _ _ _ fun h14 => ?_
    refine ite_chain _ _ _ fun h15 => ?_
    refine absurd (bytes_ext fun i hi => ?_) hxy
    obtain rfl | rfl | rfl | rfl | rfl | rfl | rfl | rfl | rfl | rfl | rfl | rfl | rfl | rfl | rfl | rfl : i = 0 ∨ i = 1 ∨ i = 2 ∨ i = 3 ∨ i = 4 ∨ i = 5 ∨ i = 6 ∨ i = 7 ∨ i = 8 ∨ i = 9 ∨ i = 10 ∨ i = 11 ∨ i = 12 ∨ i = 13 ∨ i = 14 ∨ i = 15 := by omega
    exact weq_of h0
    exact weq_of h1
    exact weq_of h2
    exact weq_of h3
    exact weq_of h4
    exact weq_of h5
    exact weq_of h6
    exact weq_of h7
    exact weq_of h8
    exact weq_of h9
    exact weq_of h10
    exact weq_of h11
    exact weq_of h12
    exact weq_of h13
    exact weq_of h14
    exact weq_of h15
end Go.Proofs.YtfcdldcekdbckaeDoor
