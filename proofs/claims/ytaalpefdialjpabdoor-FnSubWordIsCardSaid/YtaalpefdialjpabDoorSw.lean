/- A word whose bytes are put through the S-box: the table, the walks, the law. -/
import Derived.Test.YtaalpefdialjpabDoorWd
import Derived.BigQuiet
import Derived.Handy
import Derived.Lib.Hide
import Derived.ProofKit
import Derived.OpenShut
import Derived.Deep.DeepHandedRow
import Derived.Lib.LaidTab
namespace Go.Proofs.YtaalpefdialjpabDoor
open Go.ChangeShapes Go.WideShapes Go.ChangeAt Go.RowKit

def litInts : DataW Unit → List Int
  | .agg l => l.map fun | .lit (.int _ n) => n | _ => 0
  | _ => []
def zs0 : List Int := litInts Rows.laid_loop_example_pub_g03026_pub_aes_sbox0
def entry (zs : List Int) (i : Nat) : BitVec 8 := BitVec.ofInt 8 (zs.getD i 0)
theorem fit0 : zs0.all (fun z => decide (0 ≤ z ∧ z ≤ 255)) = true := by decide +kernel
theorem len0 : zs0.length = 256 := by decide +kernel
theorem entry_n8 {zs : List Int} (h : zs.all (fun z => decide (0 ≤ z ∧ z ≤ 255)) = true) (i : Nat) (hi : i < zs.length) : zs.getD i 0 = n8 (entry zs i) := by
  have hm : zs.getD i 0 ∈ zs := by
    rw [List.getD_eq_getElem?_getD, List.getElem?_eq_getElem hi]
    exact List.getElem_mem hi
  have := List.all_eq_true.1 h _ hm
  simp only [decide_eq_true_eq] at this
  exact n8_of _ this.1 this.2
theorem own : ownKnob Tryd.prog.godebug = none := by kernel_rfl
theorem g0 : Tryd.prog.globalNamed "loop.example/pub-g03026/pub/aes.sbox0" = some 0 := by kernel_rfl
theorem g0t : (Tryd.prog.globals[0]?).map (·.type) = some 26 := by kernel_rfl
theorem cells26 : Tryd.prog.cellsOf 26 = 256 := by kernel_rfl
theorem cells5 : Tryd.prog.cellsOf 5 = 1 := by kernel_rfl
set_option maxRecDepth 100000 in
theorem tab0 {W : World} (h : laidMetH Tryd.prog Rows.fnSubWordIsRow.laid W) : Lib.TabIs Tryd.prog W "loop.example/pub-g03026/pub/aes.sbox0" .u8 zs0 :=
  Lib.tabIs_of_head (rest := []) g0 g0t Tryd.underlying26 Tryd.underlying5 cells5 cells26 h
theorem read0 {W : World} (h : Lib.TabIs Tryd.prog W "loop.example/pub-g03026/pub/aes.sbox0" .u8 zs0) (i : Nat) (hi : i < 256) : W.cell? ⟨0, i, none⟩ = some (.int .u8 (n8 (entry zs0 i))) := by
  have hb : i < zs0.length := by rw [len0]; exact hi
  rw [h.cell g0 i hb, entry_n8 fit0 _ hb]
theorem open_n32 {a : Int} (h : (Lit.int .u32 a).wf = true) : ∃ x : BitVec 32, a = n32 x := by
  have hx : 0 ≤ a ∧ a ≤ 4294967295 := by simpa [Lit.wf, IntKind.min, IntKind.max, IntKind.signed, IntKind.bits] using h
  exact ⟨_, n32_of a hx.1 hx.2⟩
theorem weq_same {w : Nat} (x : BitVec w) : weq x x = true := by unfold weq; simp

/-! The plain law -/
def sb (b : BitVec 8) : BitVec 8 := entry zs0 b.toNat
/-- Byte i of the word, put through the box, at its place. -/
def swB (x : BitVec 32) (k : Nat) : BitVec 32 := wshl (wext 32 (sb (wext 8 (wshr x (8 * k))))) (8 * k)
def swTo (x : BitVec 32) : Nat → BitVec 32
  | 0 => 0#32
  | k + 1 => wor (swTo x k) (swB x k)
def subW (x : BitVec 32) : BitVec 32 :=
  wor (wor (wor (wshl (wext 32 (entry zs0 (wshr x 24).toNat)) 24) (wshl (wext 32 (entry zs0 (wand (wshr x 16) 255#32).toNat)) 16)) (wshl (wext 32 (entry zs0 (wand (wshr x 8) 255#32).toNat)) 8)) (wext 32 (entry zs0 (wand x 255#32).toNat))
theorem low8 (y : BitVec 32) : (wand y 255#32).toNat = (wext 8 y).toNat := by
  unfold wand wext
  rw [BitVec.toNat_and, BitVec.toNat_setWidth]
  have e : (255#32).toNat = 2 ^ 8 - 1 := rfl
  rw [e, Nat.and_two_pow_sub_one_eq_mod]
theorem top8 (x : BitVec 32) : (wshr x 24).toNat = (wext 8 (wshr x 24)).toNat := by
  unfold wext wshr
  rw [BitVec.toNat_setWidth, BitVec.toNat_ushiftRight, Nat.shiftRight_eq_div_pow]
  have := x.isLt
  omega
theorem or4 (a b c d : BitVec 32) : wor (wor (wor a b) c) d = wor (wor (wor (wor 0#32 d) c) b) a := by
  unfold wor
  rw [BitVec.zero_or]
  ac_rfl
theorem sub_word (x : BitVec 32) : subW x = swTo x 4 := by
  have h0 : wshr x (8 * 0) = x := by unfold wshr; simp
  have h1 : ∀ y : BitVec 32, wshl y (8 * 0) = y := fun y => by unfold wshl; simp
  have b3 : swB x 3 = wshl (wext 32 (entry zs0 (wext 8 (wshr x 24)).toNat)) 24 := rfl
  have b2 : swB x 2 = wshl (wext 32 (entry zs0 (wext 8 (wshr x 16)).toNat)) 16 := rfl
  have b1 : swB x 1 = wshl (wext 32 (entry zs0 (wext 8 (wshr x 8)).toNat)) 8 := rfl
  have b0 : swB x 0 = wext 32 (entry zs0 (wext 8 x).toNat) := by
    unfold swB sb
    rw [h1, h0]
  have e4 : swTo x 4 = wor (wor (wor (wor 0#32 (swB x 0)) (swB x 1)) (swB x 2)) (swB x 3) := rfl
  rw [e4, b0, b1, b2, b3]
  unfold subW
  rw [low8, low8, low8, top8]
  exact or4 _ _ _ _
theorem zero_word : subW 0#32 = 0x63636363#32 := by decide +kernel

@[go_sem] theorem and255_32 (x : BitVec 32) : bits .and .u32 (n32 x) 255 = n32 (wand x 255#32) := (b32 _ _ x _ (ofInt_n32 x) rfl).1
theorem n32_nat (x : BitVec 32) : (n32 x).toNat = x.toNat := by unfold n32; simp
theorem low_lt (y : BitVec 32) : (wand y 255#32).toNat < 256 := by rw [low8]; exact (wext 8 y).isLt
theorem top_lt (x : BitVec 32) : (wshr x 24).toNat < 256 := by rw [top8]; exact (wext 8 (wshr x 24)).isLt
theorem n32_lt {y : BitVec 32} (h : y.toNat < 256) : n32 y < 256 := by unfold n32; omega

set_option maxHeartbeats 2000000 in
theorem subw_any (x : BitVec 32) (w : World) (h : Lib.TabIs Tryd.prog w "loop.example/pub-g03026/pub/aes.sbox0" .u8 zs0) : Calls Tryd.prog 8 #[.int .u32 (n32 x)] w fun e w' => e = .returned (.int .u32 (n32 (subW x))) ∧ ∃ m, w' = w.drewN m := by
  have c3 := read0 h _ (top_lt x)
  have c2 := read0 h _ (low_lt (wshr x 16))
  have c1 := read0 h _ (low_lt (wshr x 8))
  have c0 := read0 h _ (low_lt x)
  have i3 := n32_lt (top_lt x)
  have i2 := n32_lt (low_lt (wshr x 16))
  have i1 := n32_lt (low_lt (wshr x 8))
  have i0 := n32_lt (low_lt x)
  have j3 := n32_lo (wshr x 24)
  have j2 := n32_lo (wand (wshr x 16) 255#32)
  have j1 := n32_lo (wand (wshr x 8) 255#32)
  have j0 := n32_lo (wand x 255#32)
  have k3 := n32_nat (wshr x 24)
  have k2 := n32_nat (wand (wshr x 16) 255#32)
  have k1 := n32_nat (wand (wshr x 8) 255#32)
  have k0 := n32_nat (wand x 255#32)
  clear h
  go_enter Tryd.func8, Tryd.ntmps8
  go_wp2
  go_quiet (fail)
  go_wp2
  go_ret
  exact ⟨rfl, _, rfl⟩
theorem zsubw_any (x : BitVec 32) (w : World) (h : Lib.TabIs Tryd.prog w "loop.example/pub-g03026/pub/aes.sbox0" .u8 zs0) : Calls Tryd.prog 7 #[.int .u32 (n32 x)] w fun e w' => e = .returned (.int .u32 (n32 (subW x))) ∧ ∃ m, w' = w.drewN m := by
  have g := subw_any x w h
  clear h
  go_enter Tryd.func7, Tryd.ntmps7
  go_wp2_with (go_at_call 8; (with_reducible refine g.mono ?_); rintro e w1 ⟨rfl, m, rfl⟩)
  go_ret
  exact ⟨rfl, m, rfl⟩
theorem isubw_any (x : BitVec 32) (w : World) (h : Lib.TabIs Tryd.prog w "loop.example/pub-g03026/pub/aes.sbox0" .u8 zs0) : Calls Tryd.prog 5 #[.int .u32 (n32 x)] w fun e w' => e = .returned (.int .u32 (n32 (subW x))) ∧ ∃ m, w' = w.drewN m := by
  have g := zsubw_any x w h
  clear h
  go_enter Tryd.func5, Tryd.ntmps5
  go_wp2_with (go_at_call 7; (with_reducible refine g.mono ?_); rintro e w1 ⟨rfl, m, rfl⟩)
  go_ret
  exact ⟨rfl, m, rfl⟩
theorem isubw_zero (w : World) (h : Lib.TabIs Tryd.prog w "loop.example/pub-g03026/pub/aes.sbox0" .u8 zs0) : Calls Tryd.prog 5 #[.int .u32 0] w fun e w' => e = .returned (.int .u32 1667457891) ∧ ∃ m, w' = w.drewN m := by
  have g := isubw_any 0#32 w h
  rw [zero_word] at g
  exact g
theorem zsbox_any (b : BitVec 8) (w : World) (h : Lib.TabIs Tryd.prog w "loop.example/pub-g03026/pub/aes.sbox0" .u8 zs0) : Calls Tryd.prog 6 #[.int .u8 (n8 b)] w fun e w' => e = .returned (.int .u8 (n8 (sb b))) ∧ w' = w := by
  have hc := read0 h b.toNat b.isLt
  have hlo := n8_lo b
  have hhi := n8_hi b
  have hn : (n8 b).toNat = b.toNat := by unfold n8; simp
  clear h
  go_enter Tryd.func6, Tryd.ntmps6
  go_wp2
  go_ret
  exact ⟨rfl, rfl⟩
theorem sbox_any (b : BitVec 8) (w : World) (h : Lib.TabIs Tryd.prog w "loop.example/pub-g03026/pub/aes.sbox0" .u8 zs0) : Calls Tryd.prog 4 #[.int .u8 (n8 b)] w fun e w' => e = .returned (.int .u8 (n8 (sb b))) ∧ w' = w := by
  have g := zsbox_any b w h
  clear h
  go_enter Tryd.func4, Tryd.ntmps4
  go_wp2_with (go_at_call 6; (with_reducible refine g.mono ?_); rintro e w1 ⟨rfl, hw1⟩; replace hw1 := hw1.symm; subst hw1)
  go_ret
  exact ⟨rfl, rfl⟩

set_option maxHeartbeats 2000000 in
theorem subword_is (x : BitVec 32) (w : World) (h : Lib.TabIs Tryd.prog w "loop.example/pub-g03026/pub/aes.sbox0" .u8 zs0) : Calls Tryd.prog 3 #[.int .u32 (n32 x)] w fun e w' => e = .returned (.bool true) ∧ ∃ m, w' = w.drewN m := by
  have g := isubw_any x w h
  rw [sub_word] at g
  have t0 := weq_same (swTo x 4)
  have hH := Lib.hid h
  clear h
  go_enter Tryd.func3, Tryd.ntmps3
  go_wp2
  go_loopw [3, 4] (fun o i wr => ∃ k : Nat, k ≤ 4 ∧ i = .int .i64 k ∧ o = .int .u32 (n32 (swTo x k)) ∧ w = wr) (fun _ i _ => 4 - (intOf i).toNat)
  case atStart => exact ⟨0, Nat.zero_le _, rfl, rfl, rfl⟩
  case round =>
    obtain ⟨k, hk, rfl, rfl, hw⟩ := hrel
    subst hw
    by_cases hlt : k < 4
    · have hk' : (k : Int) < 4 := by omega
      have e0 : IntKind.i64.wrap (8 * (k : Int)) = ((8 * k : Nat) : Int) := by rw [IntKind.wrap_i64]; omega
      have e2 : ¬ (8 * (k : Int) < 0) := by omega
      have e3 : IntKind.u8.wrap (n32 x / 2 ^ (8 * k)) = n8 (wext 8 (wshr x (8 * k))) := by rw [shr32_k, u8_n32]
      have gs := sbox_any (wext 8 (wshr x (8 * k))) w hH.out
      have e4 : IntKind.u32.wrap (n32 (wext 32 (sb (wext 8 (wshr x (8 * k))))) * 2 ^ (8 * k)) = n32 (swB x k) := by rw [shl32_k]; rfl
      go_wp2_with (go_at_call 4; (with_reducible refine gs.mono ?_); rintro e w1 ⟨rfl, hw1⟩; replace hw1 := hw1.symm; subst hw1)
      go_roundw
      case rel => exact ⟨k + 1, by omega, by go_num, rfl, trivial⟩
      case measure => simp [intOf]; omega
    · obtain rfl : k = 4 := by omega
      go_wp2_with (first
        | (go_at_call 5; (with_reducible refine g.mono ?_); rintro e w1 ⟨rfl, m1, rfl⟩; have gy := isubw_zero (w.drewN m1) hH.out; clear g)
        | (go_at_call 5; (with_reducible refine gy.mono ?_); rintro e w1 ⟨rfl, m2, rfl⟩; clear gy))
      go_ret
      exact ⟨rfl, m1 + m2, rfl⟩
end Go.Proofs.YtaalpefdialjpabDoor
