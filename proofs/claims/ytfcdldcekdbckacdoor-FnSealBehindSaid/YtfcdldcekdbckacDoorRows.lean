/-
  NARROWER THAN 'FOR EVERY INPUT', by the rows' own cells (each row's printed sentence says how): FnSealBehind: ifaces.
  DERIVED. THE GIVEN ROWS OF THIS SEAT. 1 by the template 'for every input the law returns true; each argument reads behind the call as it read before'; 0 by the template 'total and deterministic' (their statements: YtfcdldcekdbckacDoorTotals.lean).
  GIVEN WITH THE SEED: the statements are not yours to turn. If you find one false, say at which input.
  Laid BY PROGRAM, IN A SANDBOX (cutbox-rows.mjs): the forced cells as the released guide's own fill.sh prints them over the translation 07b7ec93582cc487… (all of the seat's roots in one cut). By AI agents, Wed Nov 11 2026. No macro, syntax, notation, axiom, sorry.
-/
import Derived.Test.YtfcdldcekdbckacDoorChecked
import GoSem.Claim
import GoSem.ClaimJoined
import GoSem.ClaimMapViews
import Derived.JoinedTies
import Derived.KernelRfl
namespace Go.Proofs.YtfcdldcekdbckacDoor
/- THE CELL 'sum', in the pinned program and in every row, IS THE sha256 OF THE DUMP (.gsa) THAT YtfcdldcekdbckacDoorProg.lean LOADS. Nothing in Lean hashes anything: it is a label: what it is worth is what the hold of that sum in a sandbox is worth. -/
noncomputable def Tryd.pinned : Pinned := { name := "ytfcdldcekdbckacdoor", sum := "07b7ec93582cc4872fa282a46f19b380dcb5d622c18dfbab1c072122213e601e", checked := Tryd.checked }
namespace Rows
def none {H : Type} : Left H := { results := [], args := [] }

/-- 'laws.FnSealBehind': WHATEVER THE INPUT: true; the input reads as it did. -/
def fnSealBehindSpec : ChangeSpec := { name := "fnSealBehind", vars := ["loop.example/pub-g03026/pub/aes.powx", "loop.example/pub-g03026/pub/aes.sbox0", "loop.example/pub-g03026/pub/aes.td0", "loop.example/pub-g03026/pub/aes.td1", "loop.example/pub-g03026/pub/aes.td2", "loop.example/pub-g03026/pub/aes.td3", "loop.example/pub-g03026/pub/aes.te0", "loop.example/pub-g03026/pub/aes.te1", "loop.example/pub-g03026/pub/aes.te2", "loop.example/pub-g03026/pub/aes.te3", "loop.example/pub-g03026/pub/aesgcm.errOpen"], fn := fun _ => fun
  | [d1, d2, d3, d4, d5, d6, g1, g2, g3, g4, g5, g6, g7, g8, g9, g10, g11] => { results := [.lit (.bool true)], args := [d1, d2, d3, d4, d5, d6], vars := [g1, g2, g3, g4, g5, g6, g7, g8, g9, g10, g11] }
  | _ => none }
def fnSealBehindRow : OpenClaim := { program := "ytfcdldcekdbckacdoor", sum := "07b7ec93582cc4872fa282a46f19b380dcb5d622c18dfbab1c072122213e601e", func := "loop.example/pub-g03026/laws.FnSealBehind", spec := "fnSealBehind", unfollowed := true, recurses := true, named := ["loop.example/pub-g03026/pub/aes.powx", "loop.example/pub-g03026/pub/aes.sbox0", "loop.example/pub-g03026/pub/aes.td0", "loop.example/pub-g03026/pub/aes.td1", "loop.example/pub-g03026/pub/aes.td2", "loop.example/pub-g03026/pub/aes.td3", "loop.example/pub-g03026/pub/aes.te0", "loop.example/pub-g03026/pub/aes.te1", "loop.example/pub-g03026/pub/aes.te2", "loop.example/pub-g03026/pub/aes.te3", "loop.example/pub-g03026/pub/aesgcm.errOpen"], ifaces := true, apart := false }
def FnSealBehindSaid : Prop := fnSealBehindRow.holds Tryd.pinned (OpenSpec.ofChange fnSealBehindSpec)

/-- ITS FALSE NEIGHBOUR: 'it returns false'. Refute it at one input. -/
def fnSealBehindWrong : ChangeSpec := { name := "fnSealBehind", vars := ["loop.example/pub-g03026/pub/aes.powx", "loop.example/pub-g03026/pub/aes.sbox0", "loop.example/pub-g03026/pub/aes.td0", "loop.example/pub-g03026/pub/aes.td1", "loop.example/pub-g03026/pub/aes.td2", "loop.example/pub-g03026/pub/aes.td3", "loop.example/pub-g03026/pub/aes.te0", "loop.example/pub-g03026/pub/aes.te1", "loop.example/pub-g03026/pub/aes.te2", "loop.example/pub-g03026/pub/aes.te3", "loop.example/pub-g03026/pub/aesgcm.errOpen"], fn := fun _ => fun
  | [d1, d2, d3, d4, d5, d6, g1, g2, g3, g4, g5, g6, g7, g8, g9, g10, g11] => { results := [.lit (.bool false)], args := [d1, d2, d3, d4, d5, d6], vars := [g1, g2, g3, g4, g5, g6, g7, g8, g9, g10, g11] }
  | _ => none }
def FnSealBehindWrongFalsely : Prop := fnSealBehindRow.holds Tryd.pinned (OpenSpec.ofChange fnSealBehindWrong)

/- THE SECOND FORM. 'bulk': how many values and letters a reading holds, each counted each time it is reached (what is shared counts as often as it is met; a slice's spare places count too). A statement '..UptoSaid' is the law's where the arguments, and the package variables that the reading takes, are together of bulk at most 1048576: NARROWER than '..Said'. Prove '..Said' where nothing that the law and all that it calls make is longer than what came in: it says more and counts as full. Else prove '..UptoSaid'. A law counts once. -/
mutual
def uptoBulk {H : Type} : DataW H → Nat
  | .lit (.string bytes) => bytes.length + 1
  | .lit _ => 1
  | .nil => 1
  | .ptr d => uptoBulk d + 1
  | .slice elems spare => uptoBulkAll elems + uptoBulkAll spare + 1
  | .agg parts => uptoBulkAll parts + 1
  | .iface _ d => uptoBulk d + 1
  | .map entries => uptoBulkEntries entries + 1
  | .held _ => 1
def uptoBulkAll {H : Type} : List (DataW H) → Nat
  | [] => 0
  | d :: r => uptoBulk d + uptoBulkAll r
def uptoBulkEntries {H : Type} : List (Lit × DataW H) → Nat
  | [] => 0
  | x :: r => uptoBulkEntry x + uptoBulkEntries r
def uptoBulkEntry {H : Type} : Lit × DataW H → Nat
  | (.string bytes, d) => bytes.length + uptoBulk d + 1
  | (_, d) => uptoBulk d + 1
 end
def uptoSmall : (H : Type) → List (DataW H) → Bool := fun _ ds => decide (uptoBulkAll ds ≤ 1048576)
def OpenSpec.upto (s : _root_.Go.ChangeSpec) : _root_.Go.OpenSpec := { _root_.Go.OpenSpec.ofChange s with cond := some uptoSmall }

/-- 'laws.FnSealBehind', WHERE WHAT IT READS IS OF BULK AT MOST 1048576: true; the input reads as it did. -/
def fnSealBehindUptoRow : OpenClaim := { program := "ytfcdldcekdbckacdoor", sum := "07b7ec93582cc4872fa282a46f19b380dcb5d622c18dfbab1c072122213e601e", func := "loop.example/pub-g03026/laws.FnSealBehind", spec := "fnSealBehind", unfollowed := true, recurses := true, named := ["loop.example/pub-g03026/pub/aes.powx", "loop.example/pub-g03026/pub/aes.sbox0", "loop.example/pub-g03026/pub/aes.td0", "loop.example/pub-g03026/pub/aes.td1", "loop.example/pub-g03026/pub/aes.td2", "loop.example/pub-g03026/pub/aes.td3", "loop.example/pub-g03026/pub/aes.te0", "loop.example/pub-g03026/pub/aes.te1", "loop.example/pub-g03026/pub/aes.te2", "loop.example/pub-g03026/pub/aes.te3", "loop.example/pub-g03026/pub/aesgcm.errOpen"], ifaces := true, apart := false, narrowed := true }
def FnSealBehindUptoSaid : Prop := fnSealBehindUptoRow.holds Tryd.pinned (OpenSpec.upto fnSealBehindSpec)

end Rows
end Go.Proofs.YtfcdldcekdbckacDoor
