/-
  NARROWER THAN 'FOR EVERY INPUT', by the rows' own cells (each row's printed sentence says how): FnOpenIs: ifaces.
  DERIVED. THE GIVEN ROWS OF THIS SEAT. 3 by the template 'for every input the law returns true; each argument reads behind the call as it read before'; 0 by the template 'total and deterministic' (their statements: YtfcdldcekdbckafDoorTotals.lean).
  GIVEN WITH THE SEED: the statements are not yours to turn. If you find one false, say at which input.
  Laid BY PROGRAM, IN A SANDBOX (cutbox-rows.mjs): the forced cells as the released guide's own fill.sh prints them over the translation e9e3429d443cf7e9… (all of the seat's roots in one cut). By AI agents, Wed Nov 11 2026. No macro, syntax, notation, axiom, sorry.
-/
import Derived.Test.YtfcdldcekdbckafDoorChecked
import GoSem.Claim
import GoSem.ClaimJoined
import GoSem.ClaimMapViews
import Derived.JoinedTies
import Derived.KernelRfl
namespace Go.Proofs.YtfcdldcekdbckafDoor
/- THE CELL 'sum', in the pinned program and in every row, IS THE sha256 OF THE DUMP (.gsa) THAT YtfcdldcekdbckafDoorProg.lean LOADS. Nothing in Lean hashes anything: it is a label: what it is worth is what the hold of that sum in a sandbox is worth. -/
noncomputable def Tryd.pinned : Pinned := { name := "ytfcdldcekdbckafdoor", sum := "e9e3429d443cf7e93832c6b3f8af46eb6d4b0c207e38bc770a63ecbd52da2566", checked := Tryd.checked }
namespace Rows
def none {H : Type} : Left H := { results := [], args := [] }

/-- 'laws.FnSealIs': WHATEVER THE INPUT: true; the input reads as it did. -/
def fnSealIsSpec : ChangeSpec := { name := "fnSealIs", vars := ["loop.example/pub-g03026/pub/aes.powx", "loop.example/pub-g03026/pub/aes.sbox0", "loop.example/pub-g03026/pub/aes.td0", "loop.example/pub-g03026/pub/aes.td1", "loop.example/pub-g03026/pub/aes.td2", "loop.example/pub-g03026/pub/aes.td3", "loop.example/pub-g03026/pub/aes.te0", "loop.example/pub-g03026/pub/aes.te1", "loop.example/pub-g03026/pub/aes.te2", "loop.example/pub-g03026/pub/aes.te3"], fn := fun _ => fun
  | [d1, d2, d3, d4, d5, g1, g2, g3, g4, g5, g6, g7, g8, g9, g10] => { results := [.lit (.bool true)], args := [d1, d2, d3, d4, d5], vars := [g1, g2, g3, g4, g5, g6, g7, g8, g9, g10] }
  | _ => none }
def fnSealIsRow : OpenClaim := { program := "ytfcdldcekdbckafdoor", sum := "e9e3429d443cf7e93832c6b3f8af46eb6d4b0c207e38bc770a63ecbd52da2566", func := "loop.example/pub-g03026/laws.FnSealIs", spec := "fnSealIs", unfollowed := true, recurses := true, named := ["loop.example/pub-g03026/pub/aes.powx", "loop.example/pub-g03026/pub/aes.sbox0", "loop.example/pub-g03026/pub/aes.td0", "loop.example/pub-g03026/pub/aes.td1", "loop.example/pub-g03026/pub/aes.td2", "loop.example/pub-g03026/pub/aes.td3", "loop.example/pub-g03026/pub/aes.te0", "loop.example/pub-g03026/pub/aes.te1", "loop.example/pub-g03026/pub/aes.te2", "loop.example/pub-g03026/pub/aes.te3"], apart := false }
def FnSealIsSaid : Prop := fnSealIsRow.holds Tryd.pinned (OpenSpec.ofChange fnSealIsSpec)

/-- ITS FALSE NEIGHBOUR: 'it returns false'. Refute it at one input. -/
def fnSealIsWrong : ChangeSpec := { name := "fnSealIs", vars := ["loop.example/pub-g03026/pub/aes.powx", "loop.example/pub-g03026/pub/aes.sbox0", "loop.example/pub-g03026/pub/aes.td0", "loop.example/pub-g03026/pub/aes.td1", "loop.example/pub-g03026/pub/aes.td2", "loop.example/pub-g03026/pub/aes.td3", "loop.example/pub-g03026/pub/aes.te0", "loop.example/pub-g03026/pub/aes.te1", "loop.example/pub-g03026/pub/aes.te2", "loop.example/pub-g03026/pub/aes.te3"], fn := fun _ => fun
  | [d1, d2, d3, d4, d5, g1, g2, g3, g4, g5, g6, g7, g8, g9, g10] => { results := [.lit (.bool false)], args := [d1, d2, d3, d4, d5], vars := [g1, g2, g3, g4, g5, g6, g7, g8, g9, g10] }
  | _ => none }
def FnSealIsWrongFalsely : Prop := fnSealIsRow.holds Tryd.pinned (OpenSpec.ofChange fnSealIsWrong)

/-- 'laws.FnShorterTag': WHATEVER THE INPUT: true; the input reads as it did. -/
def fnShorterTagSpec : ChangeSpec := { name := "fnShorterTag", vars := ["loop.example/pub-g03026/pub/aes.powx", "loop.example/pub-g03026/pub/aes.sbox0", "loop.example/pub-g03026/pub/aes.td0", "loop.example/pub-g03026/pub/aes.td1", "loop.example/pub-g03026/pub/aes.td2", "loop.example/pub-g03026/pub/aes.td3", "loop.example/pub-g03026/pub/aes.te0", "loop.example/pub-g03026/pub/aes.te1", "loop.example/pub-g03026/pub/aes.te2", "loop.example/pub-g03026/pub/aes.te3"], fn := fun _ => fun
  | [d1, d2, d3, d4, d5, g1, g2, g3, g4, g5, g6, g7, g8, g9, g10] => { results := [.lit (.bool true)], args := [d1, d2, d3, d4, d5], vars := [g1, g2, g3, g4, g5, g6, g7, g8, g9, g10] }
  | _ => none }
def fnShorterTagRow : OpenClaim := { program := "ytfcdldcekdbckafdoor", sum := "e9e3429d443cf7e93832c6b3f8af46eb6d4b0c207e38bc770a63ecbd52da2566", func := "loop.example/pub-g03026/laws.FnShorterTag", spec := "fnShorterTag", unfollowed := true, recurses := true, named := ["loop.example/pub-g03026/pub/aes.powx", "loop.example/pub-g03026/pub/aes.sbox0", "loop.example/pub-g03026/pub/aes.td0", "loop.example/pub-g03026/pub/aes.td1", "loop.example/pub-g03026/pub/aes.td2", "loop.example/pub-g03026/pub/aes.td3", "loop.example/pub-g03026/pub/aes.te0", "loop.example/pub-g03026/pub/aes.te1", "loop.example/pub-g03026/pub/aes.te2", "loop.example/pub-g03026/pub/aes.te3"], apart := false }
def FnShorterTagSaid : Prop := fnShorterTagRow.holds Tryd.pinned (OpenSpec.ofChange fnShorterTagSpec)

/-- ITS FALSE NEIGHBOUR: 'it returns false'. Refute it at one input. -/
def fnShorterTagWrong : ChangeSpec := { name := "fnShorterTag", vars := ["loop.example/pub-g03026/pub/aes.powx", "loop.example/pub-g03026/pub/aes.sbox0", "loop.example/pub-g03026/pub/aes.td0", "loop.example/pub-g03026/pub/aes.td1", "loop.example/pub-g03026/pub/aes.td2", "loop.example/pub-g03026/pub/aes.td3", "loop.example/pub-g03026/pub/aes.te0", "loop.example/pub-g03026/pub/aes.te1", "loop.example/pub-g03026/pub/aes.te2", "loop.example/pub-g03026/pub/aes.te3"], fn := fun _ => fun
  | [d1, d2, d3, d4, d5, g1, g2, g3, g4, g5, g6, g7, g8, g9, g10] => { results := [.lit (.bool false)], args := [d1, d2, d3, d4, d5], vars := [g1, g2, g3, g4, g5, g6, g7, g8, g9, g10] }
  | _ => none }
def FnShorterTagWrongFalsely : Prop := fnShorterTagRow.holds Tryd.pinned (OpenSpec.ofChange fnShorterTagWrong)

/-- 'laws.FnOpenIs': WHATEVER THE INPUT: true; the input reads as it did. -/
def fnOpenIsSpec : ChangeSpec := { name := "fnOpenIs", vars := ["loop.example/pub-g03026/pub/aes.powx", "loop.example/pub-g03026/pub/aes.sbox0", "loop.example/pub-g03026/pub/aes.td0", "loop.example/pub-g03026/pub/aes.td1", "loop.example/pub-g03026/pub/aes.td2", "loop.example/pub-g03026/pub/aes.td3", "loop.example/pub-g03026/pub/aesgcm.errOpen", "loop.example/pub-g03026/pub/aes.te0", "loop.example/pub-g03026/pub/aes.te1", "loop.example/pub-g03026/pub/aes.te2", "loop.example/pub-g03026/pub/aes.te3"], fn := fun _ => fun
  | [d1, d2, d3, d4, d5, g1, g2, g3, g4, g5, g6, g7, g8, g9, g10, g11] => { results := [.lit (.bool true)], args := [d1, d2, d3, d4, d5], vars := [g1, g2, g3, g4, g5, g6, g7, g8, g9, g10, g11] }
  | _ => none }
def fnOpenIsRow : OpenClaim := { program := "ytfcdldcekdbckafdoor", sum := "e9e3429d443cf7e93832c6b3f8af46eb6d4b0c207e38bc770a63ecbd52da2566", func := "loop.example/pub-g03026/laws.FnOpenIs", spec := "fnOpenIs", unfollowed := true, recurses := true, named := ["loop.example/pub-g03026/pub/aes.powx", "loop.example/pub-g03026/pub/aes.sbox0", "loop.example/pub-g03026/pub/aes.td0", "loop.example/pub-g03026/pub/aes.td1", "loop.example/pub-g03026/pub/aes.td2", "loop.example/pub-g03026/pub/aes.td3", "loop.example/pub-g03026/pub/aesgcm.errOpen", "loop.example/pub-g03026/pub/aes.te0", "loop.example/pub-g03026/pub/aes.te1", "loop.example/pub-g03026/pub/aes.te2", "loop.example/pub-g03026/pub/aes.te3"], ifaces := true, apart := false }
def FnOpenIsSaid : Prop := fnOpenIsRow.holds Tryd.pinned (OpenSpec.ofChange fnOpenIsSpec)

/-- ITS FALSE NEIGHBOUR: 'it returns false'. Refute it at one input. -/
def fnOpenIsWrong : ChangeSpec := { name := "fnOpenIs", vars := ["loop.example/pub-g03026/pub/aes.powx", "loop.example/pub-g03026/pub/aes.sbox0", "loop.example/pub-g03026/pub/aes.td0", "loop.example/pub-g03026/pub/aes.td1", "loop.example/pub-g03026/pub/aes.td2", "loop.example/pub-g03026/pub/aes.td3", "loop.example/pub-g03026/pub/aesgcm.errOpen", "loop.example/pub-g03026/pub/aes.te0", "loop.example/pub-g03026/pub/aes.te1", "loop.example/pub-g03026/pub/aes.te2", "loop.example/pub-g03026/pub/aes.te3"], fn := fun _ => fun
  | [d1, d2, d3, d4, d5, g1, g2, g3, g4, g5, g6, g7, g8, g9, g10, g11] => { results := [.lit (.bool false)], args := [d1, d2, d3, d4, d5], vars := [g1, g2, g3, g4, g5, g6, g7, g8, g9, g10, g11] }
  | _ => none }
def FnOpenIsWrongFalsely : Prop := fnOpenIsRow.holds Tryd.pinned (OpenSpec.ofChange fnOpenIsWrong)

/- THE SECOND FORM. 'bulk': how many values and letters a reading holds, each counted each time it is reached (what is shared counts as often as it is met; a slice's spare places count too). A statement '..UptoSaid' is the law's where the arguments, and the package variables that the reading takes, are together of bulk at most 1048576: NARROWER than '..Said'. Prove '..Said' where nothing that the law and all that it calls make is longer than what came in: it says more and counts as full. Else prove '..UptoSaid'. A law counts once. -/
mutual
def uptoBulk {H : Type} : DataW H → Nat
  | .lit (.string bytes) => bytes.length + 1
  | .lit _ => 1
  | .nil => 1
  | .ptr d => uptoBulk d + 1
  | .slice elems spare => uptoBulkAll elems + uptoBulkAll spare + 1
  | .agg parts => uptoBulkAll parts + 1
  | .iface _ d => uptoBulk d + 1
  | .map entries => uptoBulkEntries entries + 1
  | .held _ => 1
def uptoBulkAll {H : Type} : List (DataW H) → Nat
  | [] => 0
  | d :: r => uptoBulk d + uptoBulkAll r
def uptoBulkEntries {H : Type} : List (Lit × DataW H) → Nat
  | [] => 0
  | x :: r => uptoBulkEntry x + uptoBulkEntries r
def uptoBulkEntry {H : Type} : Lit × DataW H → Nat
  | (.string bytes, d) => bytes.length + uptoBulk d + 1
  | (_, d) => uptoBulk d + 1
 end
def uptoSmall : (H : Type) → List (DataW H) → Bool := fun _ ds => decide (uptoBulkAll ds ≤ 1048576)
def OpenSpec.upto (s : _root_.Go.ChangeSpec) : _root_.Go.OpenSpec := { _root_.Go.OpenSpec.ofChange s with cond := some uptoSmall }

/-- 'laws.FnSealIs', WHERE WHAT IT READS IS OF BULK AT MOST 1048576: true; the input reads as it did. -/
def fnSealIsUptoRow : OpenClaim := { program := "ytfcdldcekdbckafdoor", sum := "e9e3429d443cf7e93832c6b3f8af46eb6d4b0c207e38bc770a63ecbd52da2566", func := "loop.example/pub-g03026/laws.FnSealIs", spec := "fnSealIs", unfollowed := true, recurses := true, named := ["loop.example/pub-g03026/pub/aes.powx", "loop.example/pub-g03026/pub/aes.sbox0", "loop.example/pub-g03026/pub/aes.td0", "loop.example/pub-g03026/pub/aes.td1", "loop.example/pub-g03026/pub/aes.td2", "loop.example/pub-g03026/pub/aes.td3", "loop.example/pub-g03026/pub/aes.te0", "loop.example/pub-g03026/pub/aes.te1", "loop.example/pub-g03026/pub/aes.te2", "loop.example/pub-g03026/pub/aes.te3"], apart := false, narrowed := true }
def FnSealIsUptoSaid : Prop := fnSealIsUptoRow.holds Tryd.pinned (OpenSpec.upto fnSealIsSpec)

/-- 'laws.FnShorterTag', WHERE WHAT IT READS IS OF BULK AT MOST 1048576: true; the input reads as it did. -/
def fnShorterTagUptoRow : OpenClaim := { program := "ytfcdldcekdbckafdoor", sum := "e9e3429d443cf7e93832c6b3f8af46eb6d4b0c207e38bc770a63ecbd52da2566", func := "loop.example/pub-g03026/laws.FnShorterTag", spec := "fnShorterTag", unfollowed := true, recurses := true, named := ["loop.example/pub-g03026/pub/aes.powx", "loop.example/pub-g03026/pub/aes.sbox0", "loop.example/pub-g03026/pub/aes.td0", "loop.example/pub-g03026/pub/aes.td1", "loop.example/pub-g03026/pub/aes.td2", "loop.example/pub-g03026/pub/aes.td3", "loop.example/pub-g03026/pub/aes.te0", "loop.example/pub-g03026/pub/aes.te1", "loop.example/pub-g03026/pub/aes.te2", "loop.example/pub-g03026/pub/aes.te3"], apart := false, narrowed := true }
def FnShorterTagUptoSaid : Prop := fnShorterTagUptoRow.holds Tryd.pinned (OpenSpec.upto fnShorterTagSpec)

/-- 'laws.FnOpenIs', WHERE WHAT IT READS IS OF BULK AT MOST 1048576: true; the input reads as it did. -/
def fnOpenIsUptoRow : OpenClaim := { program := "ytfcdldcekdbckafdoor", sum := "e9e3429d443cf7e93832c6b3f8af46eb6d4b0c207e38bc770a63ecbd52da2566", func := "loop.example/pub-g03026/laws.FnOpenIs", spec := "fnOpenIs", unfollowed := true, recurses := true, named := ["loop.example/pub-g03026/pub/aes.powx", "loop.example/pub-g03026/pub/aes.sbox0", "loop.example/pub-g03026/pub/aes.td0", "loop.example/pub-g03026/pub/aes.td1", "loop.example/pub-g03026/pub/aes.td2", "loop.example/pub-g03026/pub/aes.td3", "loop.example/pub-g03026/pub/aesgcm.errOpen", "loop.example/pub-g03026/pub/aes.te0", "loop.example/pub-g03026/pub/aes.te1", "loop.example/pub-g03026/pub/aes.te2", "loop.example/pub-g03026/pub/aes.te3"], ifaces := true, apart := false, narrowed := true }
def FnOpenIsUptoSaid : Prop := fnOpenIsUptoRow.holds Tryd.pinned (OpenSpec.upto fnOpenIsSpec)

end Rows
end Go.Proofs.YtfcdldcekdbckafDoor
