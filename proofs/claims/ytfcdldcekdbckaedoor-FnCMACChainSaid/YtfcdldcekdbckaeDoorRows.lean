/-
  No cell of these rows narrows 'for every input' (looked for: loops, veiled, ifaces, maps, wideKeys, modest, calm, conditions, laid).
  DERIVED. THE GIVEN ROWS OF THIS SEAT. 2 by the template 'for every input the law returns true; each argument reads behind the call as it read before'; 0 by the template 'total and deterministic' (their statements: YtfcdldcekdbckaeDoorTotals.lean).
  GIVEN WITH THE SEED: the statements are not yours to turn. If you find one false, say at which input.
  Laid BY PROGRAM, IN A SANDBOX (cutbox-rows.mjs): the forced cells as the released guide's own fill.sh prints them over the translation bd10b227527e95b2… (all of the seat's roots in one cut). By AI agents, Wed Nov 11 2026. No macro, syntax, notation, axiom, sorry.
-/
import Derived.Test.YtfcdldcekdbckaeDoorChecked
import GoSem.Claim
import GoSem.ClaimJoined
import GoSem.ClaimMapViews
import Derived.JoinedTies
import Derived.KernelRfl
namespace Go.Proofs.YtfcdldcekdbckaeDoor
/- THE CELL 'sum', in the pinned program and in every row, IS THE sha256 OF THE DUMP (.gsa) THAT YtfcdldcekdbckaeDoorProg.lean LOADS. Nothing in Lean hashes anything: it is a label: what it is worth is what the hold of that sum in a sandbox is worth. -/
noncomputable def Tryd.pinned : Pinned := { name := "ytfcdldcekdbckaedoor", sum := "bd10b227527e95b211b1141ad47e7320e4e8d6dadfba5ab0fcf59755bde0f675", checked := Tryd.checked }
namespace Rows
def none {H : Type} : Left H := { results := [], args := [] }

/-- 'laws.FnCMACChain': WHATEVER THE INPUT: true; the input reads as it did. -/
def fnCMACChainSpec : ChangeSpec := { name := "fnCMACChain", vars := ["loop.example/pub-g03026/pub/aes.powx", "loop.example/pub-g03026/pub/aes.sbox0", "loop.example/pub-g03026/pub/aes.td0", "loop.example/pub-g03026/pub/aes.td1", "loop.example/pub-g03026/pub/aes.td2", "loop.example/pub-g03026/pub/aes.td3", "loop.example/pub-g03026/pub/aes.te0", "loop.example/pub-g03026/pub/aes.te1", "loop.example/pub-g03026/pub/aes.te2", "loop.example/pub-g03026/pub/aes.te3"], fn := fun _ => fun
  | [d1, d2, d3, g1, g2, g3, g4, g5, g6, g7, g8, g9, g10] => { results := [.lit (.bool true)], args := [d1, d2, d3], vars := [g1, g2, g3, g4, g5, g6, g7, g8, g9, g10] }
  | _ => none }
def fnCMACChainRow : OpenClaim := { program := "ytfcdldcekdbckaedoor", sum := "bd10b227527e95b211b1141ad47e7320e4e8d6dadfba5ab0fcf59755bde0f675", func := "loop.example/pub-g03026/laws.FnCMACChain", spec := "fnCMACChain", named := ["loop.example/pub-g03026/pub/aes.powx", "loop.example/pub-g03026/pub/aes.sbox0", "loop.example/pub-g03026/pub/aes.td0", "loop.example/pub-g03026/pub/aes.td1", "loop.example/pub-g03026/pub/aes.td2", "loop.example/pub-g03026/pub/aes.td3", "loop.example/pub-g03026/pub/aes.te0", "loop.example/pub-g03026/pub/aes.te1", "loop.example/pub-g03026/pub/aes.te2", "loop.example/pub-g03026/pub/aes.te3"], apart := false }
def FnCMACChainSaid : Prop := fnCMACChainRow.holds Tryd.pinned (OpenSpec.ofChange fnCMACChainSpec)

/-- ITS FALSE NEIGHBOUR: 'it returns false'. Refute it at one input. -/
def fnCMACChainWrong : ChangeSpec := { name := "fnCMACChain", vars := ["loop.example/pub-g03026/pub/aes.powx", "loop.example/pub-g03026/pub/aes.sbox0", "loop.example/pub-g03026/pub/aes.td0", "loop.example/pub-g03026/pub/aes.td1", "loop.example/pub-g03026/pub/aes.td2", "loop.example/pub-g03026/pub/aes.td3", "loop.example/pub-g03026/pub/aes.te0", "loop.example/pub-g03026/pub/aes.te1", "loop.example/pub-g03026/pub/aes.te2", "loop.example/pub-g03026/pub/aes.te3"], fn := fun _ => fun
  | [d1, d2, d3, g1, g2, g3, g4, g5, g6, g7, g8, g9, g10] => { results := [.lit (.bool false)], args := [d1, d2, d3], vars := [g1, g2, g3, g4, g5, g6, g7, g8, g9, g10] }
  | _ => none }
def FnCMACChainWrongFalsely : Prop := fnCMACChainRow.holds Tryd.pinned (OpenSpec.ofChange fnCMACChainWrong)

/-- 'laws.FnCTRAtIs': WHATEVER THE INPUT: true; the input reads as it did. -/
def fnCTRAtIsSpec : ChangeSpec := { name := "fnCTRAtIs", vars := ["loop.example/pub-g03026/pub/aes.powx", "loop.example/pub-g03026/pub/aes.sbox0", "loop.example/pub-g03026/pub/aes.td0", "loop.example/pub-g03026/pub/aes.td1", "loop.example/pub-g03026/pub/aes.td2", "loop.example/pub-g03026/pub/aes.td3", "loop.example/pub-g03026/pub/aes.te0", "loop.example/pub-g03026/pub/aes.te1", "loop.example/pub-g03026/pub/aes.te2", "loop.example/pub-g03026/pub/aes.te3"], fn := fun _ => fun
  | [d1, d2, d3, d4, g1, g2, g3, g4, g5, g6, g7, g8, g9, g10] => { results := [.lit (.bool true)], args := [d1, d2, d3, d4], vars := [g1, g2, g3, g4, g5, g6, g7, g8, g9, g10] }
  | _ => none }
def fnCTRAtIsRow : OpenClaim := { program := "ytfcdldcekdbckaedoor", sum := "bd10b227527e95b211b1141ad47e7320e4e8d6dadfba5ab0fcf59755bde0f675", func := "loop.example/pub-g03026/laws.FnCTRAtIs", spec := "fnCTRAtIs", inPlace := ["math/bits.Add64"], named := ["loop.example/pub-g03026/pub/aes.powx", "loop.example/pub-g03026/pub/aes.sbox0", "loop.example/pub-g03026/pub/aes.td0", "loop.example/pub-g03026/pub/aes.td1", "loop.example/pub-g03026/pub/aes.td2", "loop.example/pub-g03026/pub/aes.td3", "loop.example/pub-g03026/pub/aes.te0", "loop.example/pub-g03026/pub/aes.te1", "loop.example/pub-g03026/pub/aes.te2", "loop.example/pub-g03026/pub/aes.te3"], apart := false }
def FnCTRAtIsSaid : Prop := fnCTRAtIsRow.holds Tryd.pinned (OpenSpec.ofChange fnCTRAtIsSpec)

/-- ITS FALSE NEIGHBOUR: 'it returns false'. Refute it at one input. -/
def fnCTRAtIsWrong : ChangeSpec := { name := "fnCTRAtIs", vars := ["loop.example/pub-g03026/pub/aes.powx", "loop.example/pub-g03026/pub/aes.sbox0", "loop.example/pub-g03026/pub/aes.td0", "loop.example/pub-g03026/pub/aes.td1", "loop.example/pub-g03026/pub/aes.td2", "loop.example/pub-g03026/pub/aes.td3", "loop.example/pub-g03026/pub/aes.te0", "loop.example/pub-g03026/pub/aes.te1", "loop.example/pub-g03026/pub/aes.te2", "loop.example/pub-g03026/pub/aes.te3"], fn := fun _ => fun
  | [d1, d2, d3, d4, g1, g2, g3, g4, g5, g6, g7, g8, g9, g10] => { results := [.lit (.bool false)], args := [d1, d2, d3, d4], vars := [g1, g2, g3, g4, g5, g6, g7, g8, g9, g10] }
  | _ => none }
def FnCTRAtIsWrongFalsely : Prop := fnCTRAtIsRow.holds Tryd.pinned (OpenSpec.ofChange fnCTRAtIsWrong)

/- THE SECOND FORM. 'bulk': how many values and letters a reading holds, each counted each time it is reached (what is shared counts as often as it is met; a slice's spare places count too). A statement '..UptoSaid' is the law's where the arguments, and the package variables that the reading takes, are together of bulk at most 1048576: NARROWER than '..Said'. Prove '..Said' where nothing that the law and all that it calls make is longer than what came in: it says more and counts as full. Else prove '..UptoSaid'. A law counts once. -/
mutual
def uptoBulk {H : Type} : DataW H → Nat
  | .lit (.string bytes) => bytes.length + 1
  | .lit _ => 1
  | .nil => 1
  | .ptr d => uptoBulk d + 1
  | .slice elems spare => uptoBulkAll elems + uptoBulkAll spare + 1
  | .agg parts => uptoBulkAll parts + 1
  | .iface _ d => uptoBulk d + 1
  | .map entries => uptoBulkEntries entries + 1
  | .held _ => 1
def uptoBulkAll {H : Type} : List (DataW H) → Nat
  | [] => 0
  | d :: r => uptoBulk d + uptoBulkAll r
def uptoBulkEntries {H : Type} : List (Lit × DataW H) → Nat
  | [] => 0
  | x :: r => uptoBulkEntry x + uptoBulkEntries r
def uptoBulkEntry {H : Type} : Lit × DataW H → Nat
  | (.string bytes, d) => bytes.length + uptoBulk d + 1
  | (_, d) => uptoBulk d + 1
 end
def uptoSmall : (H : Type) → List (DataW H) → Bool := fun _ ds => decide (uptoBulkAll ds ≤ 1048576)
def OpenSpec.upto (s : _root_.Go.ChangeSpec) : _root_.Go.OpenSpec := { _root_.Go.OpenSpec.ofChange s with cond := some uptoSmall }

/-- 'laws.FnCMACChain', WHERE WHAT IT READS IS OF BULK AT MOST 1048576: true; the input reads as it did. -/
def fnCMACChainUptoRow : OpenClaim := { program := "ytfcdldcekdbckaedoor", sum := "bd10b227527e95b211b1141ad47e7320e4e8d6dadfba5ab0fcf59755bde0f675", func := "loop.example/pub-g03026/laws.FnCMACChain", spec := "fnCMACChain", named := ["loop.example/pub-g03026/pub/aes.powx", "loop.example/pub-g03026/pub/aes.sbox0", "loop.example/pub-g03026/pub/aes.td0", "loop.example/pub-g03026/pub/aes.td1", "loop.example/pub-g03026/pub/aes.td2", "loop.example/pub-g03026/pub/aes.td3", "loop.example/pub-g03026/pub/aes.te0", "loop.example/pub-g03026/pub/aes.te1", "loop.example/pub-g03026/pub/aes.te2", "loop.example/pub-g03026/pub/aes.te3"], apart := false, narrowed := true }
def FnCMACChainUptoSaid : Prop := fnCMACChainUptoRow.holds Tryd.pinned (OpenSpec.upto fnCMACChainSpec)

/-- 'laws.FnCTRAtIs', WHERE WHAT IT READS IS OF BULK AT MOST 1048576: true; the input reads as it did. -/
def fnCTRAtIsUptoRow : OpenClaim := { program := "ytfcdldcekdbckaedoor", sum := "bd10b227527e95b211b1141ad47e7320e4e8d6dadfba5ab0fcf59755bde0f675", func := "loop.example/pub-g03026/laws.FnCTRAtIs", spec := "fnCTRAtIs", inPlace := ["math/bits.Add64"], named := ["loop.example/pub-g03026/pub/aes.powx", "loop.example/pub-g03026/pub/aes.sbox0", "loop.example/pub-g03026/pub/aes.td0", "loop.example/pub-g03026/pub/aes.td1", "loop.example/pub-g03026/pub/aes.td2", "loop.example/pub-g03026/pub/aes.td3", "loop.example/pub-g03026/pub/aes.te0", "loop.example/pub-g03026/pub/aes.te1", "loop.example/pub-g03026/pub/aes.te2", "loop.example/pub-g03026/pub/aes.te3"], apart := false, narrowed := true }
def FnCTRAtIsUptoSaid : Prop := fnCTRAtIsUptoRow.holds Tryd.pinned (OpenSpec.upto fnCTRAtIsSpec)

end Rows
end Go.Proofs.YtfcdldcekdbckaeDoor
