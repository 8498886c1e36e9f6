/-
  DERIVED. GIVEN WITH THE SEED: THE PROGRAM's TIES (one call each: nine closed facts by the kernel) AND EACH ROW's TIE, after the 31st guide's Derived/Test/Toyas{Tie, Card}.lean. No idea stands in it: it is a product of the set-up. Laid BY PROGRAM, IN A SANDBOX (cutbox-door.mjs). By AI agents, Wed Nov 11 2026. No macro, syntax, notation, axiom, sorry.
-/
import Derived.Test.YtaalpefdialjpaaDoorRows
import Derived.LaidByTextLater
import Derived.SevenTiedAt
import Derived.LaidSub
import Derived.LaidOnce
namespace Go.Proofs.YtaalpefdialjpaaDoor
open Go
set_option maxRecDepth 100000
theorem seatTie1 : Tryd.prog.laidByTextLater [("loop.example/pub-g03026/pub/aes.powx", Rows.laid_loop_example_pub_g03026_pub_aes_powx), ("loop.example/pub-g03026/pub/aes.sbox0", Rows.laid_loop_example_pub_g03026_pub_aes_sbox0)] [.data, .data] true :=
  Program.laidByTextLater_by_one 24 8 257 (by kernel_rfl) (by kernel_rfl) (by kernel_rfl) (by kernel_rfl) (by kernel_rfl) (by kernel_rfl) (fun _ _ => by kernel_rfl)
theorem seatTie2 : Tryd.prog.laidByTextLater [("loop.example/pub-g03026/pub/aes.sbox0", Rows.laid_loop_example_pub_g03026_pub_aes_sbox0), ("loop.example/pub-g03026/pub/aes.sbox1", Rows.laid_loop_example_pub_g03026_pub_aes_sbox1)] [.data, .data] true :=
  Program.laidByTextLater_by_one 24 8 257 (by kernel_rfl) (by kernel_rfl) (by kernel_rfl) (by kernel_rfl) (by kernel_rfl) (by kernel_rfl) (fun _ _ => by kernel_rfl)
theorem noOwnUnsafe : Tryd.pinned.checked.prog.headLifts.contains "ownunsafe" = false := by kernel_rfl
theorem tie : Tryd.prog.laidByTextLater [("loop.example/pub-g03026/pub/aes.powx", Rows.laid_loop_example_pub_g03026_pub_aes_powx)] [.data] true :=
  Program.laidByTextLater.sub seatTie1 ["loop.example/pub-g03026/pub/aes.powx"] (by kernel_rfl) (by kernel_rfl)
theorem fnPowerIs_row_tie : Rows.fnPowerIsRow.laidByTextAt .later Tryd.pinned [.data] true :=
  OpenClaim.laidByTextAt_later rfl rfl tie noOwnUnsafe
theorem tie2 : Tryd.prog.laidByTextLater [("loop.example/pub-g03026/pub/aes.sbox0", Rows.laid_loop_example_pub_g03026_pub_aes_sbox0)] [.data] true :=
  Program.laidByTextLater.sub seatTie1 ["loop.example/pub-g03026/pub/aes.sbox0"] (by kernel_rfl) (by kernel_rfl)
theorem fnSBoxIs_row_tie : Rows.fnSBoxIsRow.laidByTextAt .later Tryd.pinned [.data] true :=
  OpenClaim.laidByTextAt_later rfl rfl tie2 noOwnUnsafe
theorem tie3 : Tryd.prog.laidByTextLater [("loop.example/pub-g03026/pub/aes.sbox0", Rows.laid_loop_example_pub_g03026_pub_aes_sbox0), ("loop.example/pub-g03026/pub/aes.sbox1", Rows.laid_loop_example_pub_g03026_pub_aes_sbox1)] [.data, .data] true :=
  Program.laidByTextLater.sub seatTie2 ["loop.example/pub-g03026/pub/aes.sbox0", "loop.example/pub-g03026/pub/aes.sbox1"] (by kernel_rfl) (by kernel_rfl)
theorem fnSBoxBack_row_tie : Rows.fnSBoxBackRow.laidByTextAt .later Tryd.pinned [.data, .data] true :=
  OpenClaim.laidByTextAt_later rfl rfl tie3 noOwnUnsafe
theorem fnPowerIsUpto_row_tie : Rows.fnPowerIsUptoRow.laidByTextAt .later Tryd.pinned [.data] true :=
  OpenClaim.laidByTextAt_later rfl rfl tie noOwnUnsafe
theorem fnSBoxIsUpto_row_tie : Rows.fnSBoxIsUptoRow.laidByTextAt .later Tryd.pinned [.data] true :=
  OpenClaim.laidByTextAt_later rfl rfl tie2 noOwnUnsafe
theorem fnSBoxBackUpto_row_tie : Rows.fnSBoxBackUptoRow.laidByTextAt .later Tryd.pinned [.data, .data] true :=
  OpenClaim.laidByTextAt_later rfl rfl tie3 noOwnUnsafe
end Go.Proofs.YtaalpefdialjpaaDoor
