/- The tables that the rows list, and what a walk reads of them. -/
import Derived.Test.YtaalpefdialjpaaDoorSpec
import Derived.ProofKit
import Derived.OpenShut
import Derived.Deep.DeepHandedRow
import Derived.Lib.LaidTab
namespace Go.Proofs.YtaalpefdialjpaaDoor
open Go.ChangeShapes Go.WideShapes Go.ChangeAt Go.RowKit

def litInts : DataW Unit → List Int
  | .agg l => l.map fun | .lit (.int _ n) => n | _ => 0
  | _ => []
def zsP : List Int := litInts Rows.laid_loop_example_pub_g03026_pub_aes_powx
def zs0 : List Int := litInts Rows.laid_loop_example_pub_g03026_pub_aes_sbox0
def zs1 : List Int := litInts Rows.laid_loop_example_pub_g03026_pub_aes_sbox1
def entry (zs : List Int) (i : Nat) : BitVec 8 := BitVec.ofInt 8 (zs.getD i 0)
theorem fit0 : zs0.all (fun z => decide (0 ≤ z ∧ z ≤ 255)) = true := by decide +kernel
theorem fit1 : zs1.all (fun z => decide (0 ≤ z ∧ z ≤ 255)) = true := by decide +kernel
theorem fitP : zsP.all (fun z => decide (0 ≤ z ∧ z ≤ 255)) = true := by decide +kernel
theorem len0 : zs0.length = 256 := by decide +kernel
theorem len1 : zs1.length = 256 := by decide +kernel
theorem lenP : zsP.length = 16 := by decide +kernel
theorem entry_n8 {zs : List Int} (h : zs.all (fun z => decide (0 ≤ z ∧ z ≤ 255)) = true) (i : Nat) (hi : i < zs.length) : zs.getD i 0 = n8 (entry zs i) := by
  have hm : zs.getD i 0 ∈ zs := by
    rw [List.getD_eq_getElem?_getD, List.getElem?_eq_getElem hi]
    exact List.getElem_mem hi
  have := List.all_eq_true.1 h _ hm
  simp only [decide_eq_true_eq] at this
  exact n8_of _ this.1 this.2
theorem own : ownKnob Tryd.prog.godebug = none := by kernel_rfl
theorem gP : Tryd.prog.globalNamed "loop.example/pub-g03026/pub/aes.powx" = some 0 := by kernel_rfl
theorem g0 : Tryd.prog.globalNamed "loop.example/pub-g03026/pub/aes.sbox0" = some 1 := by kernel_rfl
theorem g1 : Tryd.prog.globalNamed "loop.example/pub-g03026/pub/aes.sbox1" = some 2 := by kernel_rfl
theorem gPt : (Tryd.prog.globals[0]?).map (·.type) = some 29 := by kernel_rfl
theorem g0t : (Tryd.prog.globals[1]?).map (·.type) = some 30 := by kernel_rfl
theorem g1t : (Tryd.prog.globals[2]?).map (·.type) = some 30 := by kernel_rfl
theorem cells29 : Tryd.prog.cellsOf 29 = 16 := by kernel_rfl
theorem cells30 : Tryd.prog.cellsOf 30 = 256 := by kernel_rfl
theorem cells5 : Tryd.prog.cellsOf 5 = 1 := by kernel_rfl
set_option maxRecDepth 100000 in
theorem tabP {W : World} (h : laidMetH Tryd.prog Rows.fnPowerIsRow.laid W) : Lib.TabIs Tryd.prog W "loop.example/pub-g03026/pub/aes.powx" .u8 zsP :=
  Lib.tabIs_of_head (rest := []) gP gPt Tryd.underlying29 Tryd.underlying5 cells5 cells29 h
set_option maxRecDepth 100000 in
theorem tab0 {W : World} (h : laidMetH Tryd.prog Rows.fnSBoxIsRow.laid W) : Lib.TabIs Tryd.prog W "loop.example/pub-g03026/pub/aes.sbox0" .u8 zs0 :=
  Lib.tabIs_of_head (rest := []) g0 g0t Tryd.underlying30 Tryd.underlying5 cells5 cells30 h
/-- What a walk reads. -/
theorem read0 {W : World} (h : Lib.TabIs Tryd.prog W "loop.example/pub-g03026/pub/aes.sbox0" .u8 zs0) (b : BitVec 8) : W.cell? ⟨1, b.toNat, none⟩ = some (.int .u8 (n8 (entry zs0 b.toNat))) := by
  have hb : b.toNat < zs0.length := by rw [len0]; exact b.isLt
  rw [h.cell g0 b.toNat hb, entry_n8 fit0 _ hb]
theorem read1 {W : World} (h : Lib.TabIs Tryd.prog W "loop.example/pub-g03026/pub/aes.sbox1" .u8 zs1) (b : BitVec 8) : W.cell? ⟨2, b.toNat, none⟩ = some (.int .u8 (n8 (entry zs1 b.toNat))) := by
  have hb : b.toNat < zs1.length := by rw [len1]; exact b.isLt
  rw [h.cell g1 b.toNat hb, entry_n8 fit1 _ hb]
theorem readP {W : World} (h : Lib.TabIs Tryd.prog W "loop.example/pub-g03026/pub/aes.powx" .u8 zsP) (i : Nat) (hi : i < 16) : W.cell? ⟨0, i, none⟩ = some (.int .u8 (n8 (entry zsP i))) := by
  have hb : i < zsP.length := by rw [lenP]; exact hi
  rw [h.cell gP i hb, entry_n8 fitP _ hb]

set_option maxHeartbeats 1000000 in
theorem zsbox_any (b : BitVec 8) (w : World) (h : Lib.TabIs Tryd.prog w "loop.example/pub-g03026/pub/aes.sbox0" .u8 zs0) : Calls Tryd.prog 12 #[.int .u8 (n8 b)] w fun e w' => e = .returned (.int .u8 (n8 (entry zs0 b.toNat))) ∧ w' = w := by
  have hc := read0 h b
  have hlo := n8_lo b
  have hhi := n8_hi b
  have hn : (n8 b).toNat = b.toNat := by unfold n8; simp
  clear h
  go_enter Tryd.func12, Tryd.ntmps12
  go_wp2
  go_ret
  exact ⟨rfl, rfl⟩
set_option maxHeartbeats 1000000 in
theorem zinv_any (b : BitVec 8) (w : World) (h : Lib.TabIs Tryd.prog w "loop.example/pub-g03026/pub/aes.sbox1" .u8 zs1) : Calls Tryd.prog 15 #[.int .u8 (n8 b)] w fun e w' => e = .returned (.int .u8 (n8 (entry zs1 b.toNat))) ∧ w' = w := by
  have hc := read1 h b
  have hlo := n8_lo b
  have hhi := n8_hi b
  have hn : (n8 b).toNat = b.toNat := by unfold n8; simp
  clear h
  go_enter Tryd.func15, Tryd.ntmps15
  go_wp2
  go_ret
  exact ⟨rfl, rfl⟩
set_option maxHeartbeats 1000000 in
theorem zpow_any (i : Nat) (hi : i < 16) (w : World) (h : Lib.TabIs Tryd.prog w "loop.example/pub-g03026/pub/aes.powx" .u8 zsP) : Calls Tryd.prog 11 #[.int .i64 (i : Int)] w fun e w' => e = .returned (.int .u8 (n8 (entry zsP i))) ∧ w' = w := by
  have hc := readP h i hi
  have hhi : (i : Int) < 16 := by omega
  clear h
  go_enter Tryd.func11, Tryd.ntmps11
  go_wp2
  go_ret
  exact ⟨rfl, rfl⟩
set_option maxHeartbeats 1000000 in
theorem sbox_any (b : BitVec 8) (w : World) (h : Lib.TabIs Tryd.prog w "loop.example/pub-g03026/pub/aes.sbox0" .u8 zs0) : Calls Tryd.prog 8 #[.int .u8 (n8 b)] w fun e w' => e = .returned (.int .u8 (n8 (entry zs0 b.toNat))) ∧ w' = w := by
  have g := zsbox_any b w h
  clear h
  go_enter Tryd.func8, Tryd.ntmps8
  go_wp2_with (go_at_call 12; (with_reducible refine g.mono ?_); rintro e w1 ⟨rfl, hw1⟩; replace hw1 := hw1.symm; subst hw1)
  go_ret
  exact ⟨rfl, rfl⟩
set_option maxHeartbeats 1000000 in
theorem invbox_any (b : BitVec 8) (w : World) (h : Lib.TabIs Tryd.prog w "loop.example/pub-g03026/pub/aes.sbox1" .u8 zs1) : Calls Tryd.prog 10 #[.int .u8 (n8 b)] w fun e w' => e = .returned (.int .u8 (n8 (entry zs1 b.toNat))) ∧ w' = w := by
  have g := zinv_any b w h
  clear h
  go_enter Tryd.func10, Tryd.ntmps10
  go_wp2_with (go_at_call 15; (with_reducible refine g.mono ?_); rintro e w1 ⟨rfl, hw1⟩; replace hw1 := hw1.symm; subst hw1)
  go_ret
  exact ⟨rfl, rfl⟩
set_option maxHeartbeats 1000000 in
theorem ipow_any (i : Nat) (hi : i < 16) (w : World) (h : Lib.TabIs Tryd.prog w "loop.example/pub-g03026/pub/aes.powx" .u8 zsP) : Calls Tryd.prog 7 #[.int .i64 (i : Int)] w fun e w' => e = .returned (.int .u8 (n8 (entry zsP i))) ∧ w' = w := by
  have g := zpow_any i hi w h
  clear h hi
  go_enter Tryd.func7, Tryd.ntmps7
  go_wp2_with (go_at_call 11; (with_reducible refine g.mono ?_); rintro e w1 ⟨rfl, hw1⟩; replace hw1 := hw1.symm; subst hw1)
  go_ret
  exact ⟨rfl, rfl⟩

/-! The plain laws, over every byte -/
theorem all_bytes {p : BitVec 8 → Bool} (h : (List.range 256).all (fun i => p (BitVec.ofNat 8 i)) = true) (b : BitVec 8) : p b = true := by
  have := List.all_eq_true.1 h b.toNat (List.mem_range.2 b.isLt)
  rwa [BitVec.ofNat_toNat, BitVec.setWidth_eq] at this
theorem sub_law (b : BitVec 8) : entry zs0 b.toNat = subB b := by
  have := all_bytes (p := fun b => entry zs0 b.toNat == subB b) (by decide +kernel) b
  simpa using this
theorem back_law (b : BitVec 8) : entry zs1 (entry zs0 b.toNat).toNat = b := by
  have := all_bytes (p := fun b => entry zs1 (entry zs0 b.toNat).toNat == b) (by decide +kernel) b
  simpa using this
theorem forth_law (b : BitVec 8) : entry zs0 (entry zs1 b.toNat).toNat = b := by
  have := all_bytes (p := fun b => entry zs0 (entry zs1 b.toNat).toNat == b) (by decide +kernel) b
  simpa using this
theorem zero_law : entry zs0 0 = 99#8 := by decide +kernel
theorem pow_law (i : Nat) (hi : i < 16) : entry zsP i = powB i := by
  have h : (List.range 16).all (fun i => entry zsP i == powB i) = true := by decide +kernel
  have := List.all_eq_true.1 h i (List.mem_range.2 hi)
  simpa using this
end Go.Proofs.YtaalpefdialjpaaDoor
