/-
  No cell of these rows narrows 'for every input' (looked for: loops, veiled, ifaces, maps, wideKeys, modest, calm, conditions, laid).
  DERIVED. THE GIVEN ROWS OF THIS SEAT. 3 by the template 'for every input the law returns true; each argument reads behind the call as it read before'; 0 by the template 'total and deterministic' (their statements: YtbiflpbajgafaaaTotals.lean).
  GIVEN WITH THE SEED: the statements are not yours to turn. If you find one false, say at which input.
  Laid BY PROGRAM, IN A SANDBOX (cutbox-rows.mjs): the forced cells as the released guide's own fill.sh prints them over the translation eb6d774e9080e420… (all of the seat's roots in one cut). By AI agents, Wed Nov 11 2026. No macro, syntax, notation, axiom, sorry.
-/
import Derived.Test.YtbiflpbajgafaaaChecked
import GoSem.Claim
import GoSem.ClaimJoined
import GoSem.ClaimMapViews
import Derived.JoinedTies
import Derived.KernelRfl
namespace Go.Proofs.Ytbiflpbajgafaaa
/- THE CELL 'sum', in the pinned program and in every row, IS THE sha256 OF THE DUMP (.gsa) THAT YtbiflpbajgafaaaProg.lean LOADS. Nothing in Lean hashes anything: it is a label: what it is worth is what the hold of that sum in a sandbox is worth. -/
noncomputable def Try.pinned : Pinned := { name := "ytbiflpbajgafaaa", sum := "eb6d774e9080e42066047123541cc8bdf5a6725a7feacef1471ab99ac42cdc5c", checked := Try.checked }
namespace Rows
def none {H : Type} : Left H := { results := [], args := [] }

/-- 'laws.FnIgnoreBetween': WHATEVER THE INPUT: true; the input reads as it did. -/
def fnIgnoreBetweenSpec : ChangeSpec := { name := "fnIgnoreBetween", fn := fun _ => fun
  | [d1, d2, d3, d4] => { results := [.lit (.bool true)], args := [d1, d2, d3, d4] }
  | _ => none }
def fnIgnoreBetweenRow : OpenClaim := { program := "ytbiflpbajgafaaa", sum := "eb6d774e9080e42066047123541cc8bdf5a6725a7feacef1471ab99ac42cdc5c", func := "loop.example/pub-g01474/laws.FnIgnoreBetween", spec := "fnIgnoreBetween", unfollowed := true, recurses := true, apart := false }
def FnIgnoreBetweenSaid : Prop := fnIgnoreBetweenRow.holds Try.pinned (OpenSpec.ofChange fnIgnoreBetweenSpec)

/-- ITS FALSE NEIGHBOUR: 'it returns false'. Refute it at one input. -/
def fnIgnoreBetweenWrong : ChangeSpec := { name := "fnIgnoreBetween", fn := fun _ => fun
  | [d1, d2, d3, d4] => { results := [.lit (.bool false)], args := [d1, d2, d3, d4] }
  | _ => none }
def FnIgnoreBetweenWrongFalsely : Prop := fnIgnoreBetweenRow.holds Try.pinned (OpenSpec.ofChange fnIgnoreBetweenWrong)

/-- 'laws.FnIgnoreElsewhere': WHATEVER THE INPUT: true; the input reads as it did. -/
def fnIgnoreElsewhereSpec : ChangeSpec := { name := "fnIgnoreElsewhere", fn := fun _ => fun
  | [d1, d2, d3, d4, d5] => { results := [.lit (.bool true)], args := [d1, d2, d3, d4, d5] }
  | _ => none }
def fnIgnoreElsewhereRow : OpenClaim := { program := "ytbiflpbajgafaaa", sum := "eb6d774e9080e42066047123541cc8bdf5a6725a7feacef1471ab99ac42cdc5c", func := "loop.example/pub-g01474/laws.FnIgnoreElsewhere", spec := "fnIgnoreElsewhere", unfollowed := true, recurses := true, apart := false }
def FnIgnoreElsewhereSaid : Prop := fnIgnoreElsewhereRow.holds Try.pinned (OpenSpec.ofChange fnIgnoreElsewhereSpec)

/-- ITS FALSE NEIGHBOUR: 'it returns false'. Refute it at one input. -/
def fnIgnoreElsewhereWrong : ChangeSpec := { name := "fnIgnoreElsewhere", fn := fun _ => fun
  | [d1, d2, d3, d4, d5] => { results := [.lit (.bool false)], args := [d1, d2, d3, d4, d5] }
  | _ => none }
def FnIgnoreElsewhereWrongFalsely : Prop := fnIgnoreElsewhereRow.holds Try.pinned (OpenSpec.ofChange fnIgnoreElsewhereWrong)

/-- 'laws.FnIgnoreRoot': WHATEVER THE INPUT: true; the input reads as it did. -/
def fnIgnoreRootSpec : ChangeSpec := { name := "fnIgnoreRoot", fn := fun _ => fun
  | [d1, d2, d3, d4] => { results := [.lit (.bool true)], args := [d1, d2, d3, d4] }
  | _ => none }
def fnIgnoreRootRow : OpenClaim := { program := "ytbiflpbajgafaaa", sum := "eb6d774e9080e42066047123541cc8bdf5a6725a7feacef1471ab99ac42cdc5c", func := "loop.example/pub-g01474/laws.FnIgnoreRoot", spec := "fnIgnoreRoot", unfollowed := true, recurses := true, apart := false }
def FnIgnoreRootSaid : Prop := fnIgnoreRootRow.holds Try.pinned (OpenSpec.ofChange fnIgnoreRootSpec)

/-- ITS FALSE NEIGHBOUR: 'it returns false'. Refute it at one input. -/
def fnIgnoreRootWrong : ChangeSpec := { name := "fnIgnoreRoot", fn := fun _ => fun
  | [d1, d2, d3, d4] => { results := [.lit (.bool false)], args := [d1, d2, d3, d4] }
  | _ => none }
def FnIgnoreRootWrongFalsely : Prop := fnIgnoreRootRow.holds Try.pinned (OpenSpec.ofChange fnIgnoreRootWrong)

/- THE SECOND FORM. 'bulk': how many values and letters a reading holds, each counted each time it is reached (what is shared counts as often as it is met; a slice's spare places count too). A statement '..UptoSaid' is the law's where the arguments, and the package variables that the reading takes, are together of bulk at most 1048576: NARROWER than '..Said'. Prove '..Said' where nothing that the law and all that it calls make is longer than what came in: it says more and counts as full. Else prove '..UptoSaid'. A law counts once. -/
mutual
def uptoBulk {H : Type} : DataW H → Nat
  | .lit (.string bytes) => bytes.length + 1
  | .lit _ => 1
  | .nil => 1
  | .ptr d => uptoBulk d + 1
  | .slice elems spare => uptoBulkAll elems + uptoBulkAll spare + 1
  | .agg parts => uptoBulkAll parts + 1
  | .iface _ d => uptoBulk d + 1
  | .map entries => uptoBulkEntries entries + 1
  | .held _ => 1
def uptoBulkAll {H : Type} : List (DataW H) → Nat
  | [] => 0
  | d :: r => uptoBulk d + uptoBulkAll r
def uptoBulkEntries {H : Type} : List (Lit × DataW H) → Nat
  | [] => 0
  | x :: r => uptoBulkEntry x + uptoBulkEntries r
def uptoBulkEntry {H : Type} : Lit × DataW H → Nat
  | (.string bytes, d) => bytes.length + uptoBulk d + 1
  | (_, d) => uptoBulk d + 1
 end
def uptoSmall : (H : Type) → List (DataW H) → Bool := fun _ ds => decide (uptoBulkAll ds ≤ 1048576)
def OpenSpec.upto (s : _root_.Go.ChangeSpec) : _root_.Go.OpenSpec := { _root_.Go.OpenSpec.ofChange s with cond := some uptoSmall }

/-- 'laws.FnIgnoreBetween', WHERE WHAT IT READS IS OF BULK AT MOST 1048576: true; the input reads as it did. -/
def fnIgnoreBetweenUptoRow : OpenClaim := { program := "ytbiflpbajgafaaa", sum := "eb6d774e9080e42066047123541cc8bdf5a6725a7feacef1471ab99ac42cdc5c", func := "loop.example/pub-g01474/laws.FnIgnoreBetween", spec := "fnIgnoreBetween", unfollowed := true, recurses := true, apart := false, narrowed := true }
def FnIgnoreBetweenUptoSaid : Prop := fnIgnoreBetweenUptoRow.holds Try.pinned (OpenSpec.upto fnIgnoreBetweenSpec)

/-- 'laws.FnIgnoreElsewhere', WHERE WHAT IT READS IS OF BULK AT MOST 1048576: true; the input reads as it did. -/
def fnIgnoreElsewhereUptoRow : OpenClaim := { program := "ytbiflpbajgafaaa", sum := "eb6d774e9080e42066047123541cc8bdf5a6725a7feacef1471ab99ac42cdc5c", func := "loop.example/pub-g01474/laws.FnIgnoreElsewhere", spec := "fnIgnoreElsewhere", unfollowed := true, recurses := true, apart := false, narrowed := true }
def FnIgnoreElsewhereUptoSaid : Prop := fnIgnoreElsewhereUptoRow.holds Try.pinned (OpenSpec.upto fnIgnoreElsewhereSpec)

/-- 'laws.FnIgnoreRoot', WHERE WHAT IT READS IS OF BULK AT MOST 1048576: true; the input reads as it did. -/
def fnIgnoreRootUptoRow : OpenClaim := { program := "ytbiflpbajgafaaa", sum := "eb6d774e9080e42066047123541cc8bdf5a6725a7feacef1471ab99ac42cdc5c", func := "loop.example/pub-g01474/laws.FnIgnoreRoot", spec := "fnIgnoreRoot", unfollowed := true, recurses := true, apart := false, narrowed := true }
def FnIgnoreRootUptoSaid : Prop := fnIgnoreRootUptoRow.holds Try.pinned (OpenSpec.upto fnIgnoreRootSpec)

end Rows
end Go.Proofs.Ytbiflpbajgafaaa
