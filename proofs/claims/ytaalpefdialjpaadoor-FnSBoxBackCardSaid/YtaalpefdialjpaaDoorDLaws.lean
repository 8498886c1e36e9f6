/- The walks of the three laws over the tables. -/
import Derived.Test.YtaalpefdialjpaaDoorTabs
namespace Go.Proofs.YtaalpefdialjpaaDoor
open Go.RowKit

theorem open_n8 {a : Int} (h : (Lit.int .u8 a).wf = true) : ∃ x : BitVec 8, a = n8 x := by
  have hx : 0 ≤ a ∧ a ≤ 255 := by simpa [Lit.wf, IntKind.min, IntKind.max, IntKind.signed, IntKind.bits] using h
  exact ⟨_, n8_of a hx.1 hx.2⟩
theorem weq_same {w : Nat} (x : BitVec w) : weq x x = true := by unfold weq; simp
set_option maxHeartbeats 1000000 in
theorem sboxis_is (b : BitVec 8) (w : World) (h : Lib.TabIs Tryd.prog w "loop.example/pub-g03026/pub/aes.sbox0" .u8 zs0) : Calls Tryd.prog 4 #[.int .u8 (n8 b)] w fun e w' => e = .returned (.bool true) ∧ ∃ m, w' = w.drewN m := by
  have g := sbox_any b w h
  rw [sub_law] at g
  have t0 := weq_same (subB b)
  clear h
  go_enter Tryd.func4, Tryd.ntmps4
  go_wp2_with (first
    | (go_at_call 8; (with_reducible refine g.mono ?_); rintro e w1 ⟨rfl, hw1⟩; replace hw1 := hw1.symm; subst hw1)
    | (go_at_call 9; (with_reducible refine (sub_any _ _).mono ?_); rintro e w2 ⟨rfl, m, rfl⟩))
  go_ret
  exact ⟨rfl, m, rfl⟩

theorem sbox_zero (w : World) (h : Lib.TabIs Tryd.prog w "loop.example/pub-g03026/pub/aes.sbox0" .u8 zs0) : Calls Tryd.prog 8 #[.int .u8 0] w fun e w' => e = .returned (.int .u8 99) ∧ w' = w := by
  have g := sbox_any 0#8 w h
  have e : (0#8).toNat = 0 := rfl
  rw [e, zero_law] at g
  exact g
set_option maxHeartbeats 1000000 in
theorem back_is (b : BitVec 8) (w : World) (h : Lib.TabIs Tryd.prog w "loop.example/pub-g03026/pub/aes.sbox0" .u8 zs0) (h' : Lib.TabIs Tryd.prog w "loop.example/pub-g03026/pub/aes.sbox1" .u8 zs1) : Calls Tryd.prog 5 #[.int .u8 (n8 b)] w fun e w' => e = .returned (.bool true) ∧ ∃ m, w' = w.drewN m := by
  have g1 := sbox_any b w h
  have g2 := invbox_any (entry zs0 b.toNat) w h'
  have g3 := invbox_any b w h'
  have g4 := sbox_any (entry zs1 b.toNat) w h
  have g5 := sbox_zero w h
  rw [back_law] at g2
  rw [forth_law] at g4
  have t0 := weq_same b
  clear h h'
  generalize entry zs0 b.toNat = x at g1 g2
  generalize entry zs1 b.toNat = y at g3 g4
  go_enter Tryd.func5, Tryd.ntmps5
  go_wp2_with (first
    | (go_at_call 8; (with_reducible refine g1.mono ?_); rintro e w1 ⟨rfl, hw1⟩; replace hw1 := hw1.symm; subst hw1; clear g1)
    | (go_at_call 10; (with_reducible refine g2.mono ?_); rintro e w1 ⟨rfl, hw1⟩; replace hw1 := hw1.symm; subst hw1; clear g2)
    | (go_at_call 10; (with_reducible refine g3.mono ?_); rintro e w1 ⟨rfl, hw1⟩; replace hw1 := hw1.symm; subst hw1; clear g3)
    | (go_at_call 8; (with_reducible refine g4.mono ?_); rintro e w1 ⟨rfl, hw1⟩; replace hw1 := hw1.symm; subst hw1; clear g4)
    | (go_at_call 8; (with_reducible refine g5.mono ?_); rintro e w1 ⟨rfl, hw1⟩; replace hw1 := hw1.symm; subst hw1; clear g5))
  go_ret
  exact ⟨rfl, 0, rfl⟩

theorem times2 (a : BitVec 8) (w : World) : Calls Tryd.prog 6 #[.int .u8 (n8 a), .int .u8 2] w fun e w' => e = .returned (.int .u8 (n8 (times a 2#8))) ∧ w' = w := times_any a 2#8 w
set_option maxHeartbeats 1000000 in
theorem power_in (n : Nat) (hn : n < 16) (w : World) (h : Lib.TabIs Tryd.prog w "loop.example/pub-g03026/pub/aes.powx" .u8 zsP) : Calls Tryd.prog 3 #[.int .i64 (n : Int)] w fun e w' => e = .returned (.bool true) ∧ ∃ m, w' = w.drewN m := by
  have g := ipow_any n hn w h
  rw [pow_law n hn] at g
  have t0 := weq_same (powB n)
  have k1 : ¬ ((n : Int) < 0) := by omega
  have k2 : ¬ (15 < (n : Int)) := by omega
  clear h
  go_enter Tryd.func3, Tryd.ntmps3
  go_wp2
  clear k1 k2
  go_loopw [3, 4] (fun x i wr => ∃ k : Nat, k ≤ n ∧ i = .int .i64 k ∧ x = .int .u8 (n8 (powB k)) ∧ w = wr) (fun _ i _ => n - (intOf i).toNat)
  case atStart => exact ⟨0, Nat.zero_le _, rfl, rfl, rfl⟩
  case round =>
    obtain ⟨k, hk, rfl, rfl, hw⟩ := hrel
    subst hw
    by_cases hlt : k < n
    · have hk' : (k : Int) < n := by omega
      go_wp2_with (go_at_call 6; (with_reducible refine (times2 _ _).mono ?_); rintro e w1 ⟨rfl, hw1⟩; replace hw1 := hw1.symm; subst hw1)
      go_roundw
      case rel => exact ⟨k + 1, by omega, by go_num, rfl, trivial⟩
      case measure => simp [intOf]; omega
    · obtain rfl : k = n := by omega
      go_wp2_with (go_at_call 7; (with_reducible refine g.mono ?_); rintro e w1 ⟨rfl, hw1⟩; replace hw1 := hw1.symm; subst hw1)
      go_ret
      exact ⟨rfl, 0, rfl⟩
set_option maxHeartbeats 1000000 in
theorem power_is (i : Int) (w : World) (h : Lib.TabIs Tryd.prog w "loop.example/pub-g03026/pub/aes.powx" .u8 zsP) : Calls Tryd.prog 3 #[.int .i64 i] w fun e w' => e = .returned (.bool true) ∧ ∃ m, w' = w.drewN m := by
  by_cases h0 : i < 0
  · clear h
    go_enter Tryd.func3, Tryd.ntmps3
    go_wp2
    go_ret
    exact ⟨rfl, 0, rfl⟩
  · by_cases h1 : 15 < i
    · clear h
      go_enter Tryd.func3, Tryd.ntmps3
      go_wp2
      go_ret
      exact ⟨rfl, 0, rfl⟩
    · obtain ⟨n, rfl⟩ : ∃ n : Nat, i = n := ⟨i.toNat, by omega⟩
      exact power_in n (by omega) w h
end Go.Proofs.YtaalpefdialjpaaDoor
