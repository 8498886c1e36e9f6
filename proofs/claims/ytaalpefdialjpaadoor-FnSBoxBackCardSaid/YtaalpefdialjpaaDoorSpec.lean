/- The walks of the reference: the product of two bytes, the inverse, the S-box's entry. -/
import Derived.Test.YtaalpefdialjpaaDoorAes
import Derived.BigQuiet
import Derived.Handy
import Derived.Lib.Hide
namespace Go.Proofs.YtaalpefdialjpaaDoor
open Go.RowKit

@[go_sem] theorem shl8_1 (x : BitVec 8) : IntKind.u8.wrap (n8 x * 2) = n8 (wshl x 1) := shl8 x 1
@[go_sem] theorem xor27 (x : BitVec 8) : bits .xor .u8 (n8 x) 27 = n8 (wxor x 27#8) := (b8 _ _ x _ (ofInt_n8 x) rfl).2.2
@[go_sem] theorem xor99 (x : BitVec 8) : bits .xor .u8 (n8 x) 99 = n8 (wxor x 99#8) := (b8 _ _ x _ (ofInt_n8 x) rfl).2.2

set_option maxHeartbeats 1000000 in
theorem times_any (a b : BitVec 8) (w : World) : Calls Tryd.prog 6 #[.int .u8 (n8 a), .int .u8 (n8 b)] w fun e w' => e = .returned (.int .u8 (n8 (times a b))) ∧ w' = w := by
  go_enter Tryd.func6, Tryd.ntmps6
  go_wp2
  go_loopw [0, 5, 6, 7] (fun x o i _ wr => ∃ k : Nat, k ≤ 8 ∧ i = .int .i64 k ∧ o = .int .u8 (n8 (outT a b k)) ∧ x = .int .u8 (n8 (curT a k)) ∧ wr = w) (fun _ _ i _ _ => 8 - (intOf i).toNat)
  case atStart => exact ⟨0, by omega, rfl, rfl, rfl, rfl⟩
  case round =>
    obtain ⟨k, hk, rfl, rfl, rfl, rfl⟩ := hrel
    by_cases hlt : k < 8
    · have hk' : (k : Int) < 8 := by omega
      have ho : outT a b (k + 1) = if b.getLsbD k then wxor (outT a b k) (curT a k) else outT a b k := rfl
      have hc : curT a (k + 1) = if 128 ≤ (curT a k).toNat then wxor (wshl (curT a k) 1) 27#8 else wshl (curT a k) 1 := rfl
      have ho' := Lib.hid ho
      have hc' := Lib.hid hc
      clear ho hc
      by_cases hh : 128 ≤ (curT a k).toNat
      · have hge : (128 : Int) ≤ n8 (curT a k) := by unfold n8; omega
        cases hb : b.getLsbD k
        · have hb2 : b[k]'hlt = false := by rw [← BitVec.getLsbD_eq_getElem]; exact hb
          go_wp2
          go_roundw
          case rel => exact ⟨k + 1, by omega, by go_num, by rw [ho'.out]; simp [hb], by rw [hc'.out, if_pos hh], trivial⟩
          case measure => simp [intOf]; omega
        · have hb2 : b[k]'hlt = true := by rw [← BitVec.getLsbD_eq_getElem]; exact hb
          go_wp2
          go_roundw
          case rel => exact ⟨k + 1, by omega, by go_num, by rw [ho'.out]; simp [hb], by rw [hc'.out, if_pos hh], trivial⟩
          case measure => simp [intOf]; omega
      · have hge : ¬ ((128 : Int) ≤ n8 (curT a k)) := by unfold n8; omega
        cases hb : b.getLsbD k
        · have hb2 : b[k]'hlt = false := by rw [← BitVec.getLsbD_eq_getElem]; exact hb
          go_wp2
          go_roundw
          case rel => exact ⟨k + 1, by omega, by go_num, by rw [ho'.out]; simp [hb], by rw [hc'.out, if_neg hh], trivial⟩
          case measure => simp [intOf]; omega
        · have hb2 : b[k]'hlt = true := by rw [← BitVec.getLsbD_eq_getElem]; exact hb
          go_wp2
          go_roundw
          case rel => exact ⟨k + 1, by omega, by go_num, by rw [ho'.out]; simp [hb], by rw [hc'.out, if_neg hh], trivial⟩
          case measure => simp [intOf]; omega
    · obtain rfl : k = 8 := by omega
      go_wp2
      go_ret
      exact ⟨rfl, rfl⟩

set_option maxHeartbeats 1000000 in
theorem inv_any (a : BitVec 8) (w : World) : Calls Tryd.prog 13 #[.int .u8 (n8 a)] w fun e w' => e = .returned (.int .u8 (n8 (invB a))) ∧ w' = w := by
  go_enter Tryd.func13, Tryd.ntmps13
  go_wp2
  go_loopw [3, 4] (fun o i wr => ∃ k : Nat, k ≤ 6 ∧ i = .int .i64 k ∧ o = .int .u8 (n8 (invTo a k)) ∧ wr = w) (fun _ i _ => 6 - (intOf i).toNat)
  case atStart => exact ⟨0, by omega, rfl, rfl, rfl⟩
  case round =>
    obtain ⟨k, hk, rfl, rfl, rfl⟩ := hrel
    by_cases hlt : k < 6
    · have hk' : (k : Int) < 6 := by omega
      go_wp2_with (go_at_call 6; (with_reducible refine (times_any _ _ _).mono ?_); rintro e w1 ⟨rfl, hw1⟩; replace hw1 := hw1.symm; subst hw1)
      go_roundw
      case rel => exact ⟨k + 1, by omega, by go_num, rfl, trivial⟩
      case measure => simp [intOf]; omega
    · obtain rfl : k = 6 := by omega
      go_wp2_with (go_at_call 6; (with_reducible refine (times_any _ _ _).mono ?_); rintro e w1 ⟨rfl, hw1⟩; replace hw1 := hw1.symm; subst hw1)
      go_ret
      exact ⟨rfl, rfl⟩

set_option maxHeartbeats 1000000 in
theorem turn_any (a : BitVec 8) (n : Nat) (hn : n ≤ 4) (w : World) : Calls Tryd.prog 14 #[.int .u8 (n8 a), .int .i64 (n : Int)] w fun e w' => e = .returned (.int .u8 (n8 (turnB a n))) ∧ ∃ m, w' = w.drewN m := by
  have e1 : IntKind.i64.wrap (8 - (n : Int)) = ((8 - n : Nat) : Int) := by rw [IntKind.wrap_i64]; omega
  go_enter Tryd.func14, Tryd.ntmps14
  go_wp2
  go_quiet (fail)
  go_wp2
  go_ret
  exact ⟨rfl, _, rfl⟩

theorem turn1 (a : BitVec 8) (w : World) : Calls Tryd.prog 14 #[.int .u8 (n8 a), .int .i64 1] w fun e w' => e = .returned (.int .u8 (n8 (turnB a 1))) ∧ ∃ m, w' = w.drewN m := turn_any a 1 (by decide) w
theorem turn2 (a : BitVec 8) (w : World) : Calls Tryd.prog 14 #[.int .u8 (n8 a), .int .i64 2] w fun e w' => e = .returned (.int .u8 (n8 (turnB a 2))) ∧ ∃ m, w' = w.drewN m := turn_any a 2 (by decide) w
theorem turn3 (a : BitVec 8) (w : World) : Calls Tryd.prog 14 #[.int .u8 (n8 a), .int .i64 3] w fun e w' => e = .returned (.int .u8 (n8 (turnB a 3))) ∧ ∃ m, w' = w.drewN m := turn_any a 3 (by decide) w
theorem turn4 (a : BitVec 8) (w : World) : Calls Tryd.prog 14 #[.int .u8 (n8 a), .int .i64 4] w fun e w' => e = .returned (.int .u8 (n8 (turnB a 4))) ∧ ∃ m, w' = w.drewN m := turn_any a 4 (by decide) w
set_option maxHeartbeats 1000000 in
theorem sub_any (a : BitVec 8) (w : World) : Calls Tryd.prog 9 #[.int .u8 (n8 a)] w fun e w' => e = .returned (.int .u8 (n8 (subB a))) ∧ ∃ m, w' = w.drewN m := by
  go_enter Tryd.func9, Tryd.ntmps9
  go_wp2_with (first
    | (go_at_call 13; (with_reducible refine (inv_any _ _).mono ?_); rintro e w1 ⟨rfl, hw1⟩; replace hw1 := hw1.symm; subst hw1)
    | (go_at_call 14; (with_reducible refine (turn1 _ _).mono ?_); rintro e w1 ⟨rfl, m1, rfl⟩)
    | (go_at_call 14; (with_reducible refine (turn2 _ _).mono ?_); rintro e w1 ⟨rfl, m2, rfl⟩)
    | (go_at_call 14; (with_reducible refine (turn3 _ _).mono ?_); rintro e w1 ⟨rfl, m3, rfl⟩)
    | (go_at_call 14; (with_reducible refine (turn4 _ _).mono ?_); rintro e w1 ⟨rfl, m4, rfl⟩))
  go_ret
  exact ⟨rfl, m1 + m2 + m3 + m4, rfl⟩
end Go.Proofs.YtaalpefdialjpaaDoor
