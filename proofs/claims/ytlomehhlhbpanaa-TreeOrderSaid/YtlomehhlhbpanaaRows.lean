/-
  No cell of these rows narrows 'for every input' (looked for: loops, veiled, ifaces, maps, wideKeys, modest, calm, conditions, laid).
  DERIVED. THE GIVEN ROWS OF THIS SEAT. 5 by the template 'for every input the law returns true; each argument reads behind the call as it read before'; 0 by the template 'total and deterministic' (their statements: YtlomehhlhbpanaaTotals.lean).
  GIVEN WITH THE SEED: the statements are not yours to turn. If you find one false, say at which input.
  Laid BY PROGRAM, IN A SANDBOX (cutbox-rows.mjs): the forced cells as the released guide's own fill.sh prints them over the translation 83192a3a0b150dbb… (all of the seat's roots in one cut). By AI agents, Wed Nov 11 2026. No macro, syntax, notation, axiom, sorry.
-/
import Derived.Test.YtlomehhlhbpanaaChecked
import GoSem.Claim
import GoSem.ClaimJoined
import GoSem.ClaimMapViews
import Derived.JoinedTies
import Derived.KernelRfl
namespace Go.Proofs.Ytlomehhlhbpanaa
/- THE CELL 'sum', in the pinned program and in every row, IS THE sha256 OF THE DUMP (.gsa) THAT YtlomehhlhbpanaaProg.lean LOADS. Nothing in Lean hashes anything: it is a label: what it is worth is what the hold of that sum in a sandbox is worth. -/
noncomputable def Try.pinned : Pinned := { name := "ytlomehhlhbpanaa", sum := "83192a3a0b150dbb1f0a694a3a1fa38a2ada4de6a7c8871de7848b64bd042f74", checked := Try.checked }
namespace Rows
def none {H : Type} : Left H := { results := [], args := [] }

/-- 'gessolaw14.TreeChecks': WHATEVER THE INPUT: true; the input reads as it did. -/
def treeChecksSpec : ChangeSpec := { name := "treeChecks", fn := fun _ => fun
  | [d1, d2, d3] => { results := [.lit (.bool true)], args := [d1, d2, d3] }
  | _ => none }
def treeChecksRow : OpenClaim := { program := "ytlomehhlhbpanaa", sum := "83192a3a0b150dbb1f0a694a3a1fa38a2ada4de6a7c8871de7848b64bd042f74", func := "gesso/gessolaw14.TreeChecks", spec := "treeChecks", inPlace := ["internal/bytealg.IndexByteString"], unfollowed := true, recurses := true, plainKeys := false, apart := false }
def TreeChecksSaid : Prop := treeChecksRow.holds Try.pinned (OpenSpec.ofChange treeChecksSpec)

/-- ITS FALSE NEIGHBOUR: 'it returns false'. Refute it at one input. -/
def treeChecksWrong : ChangeSpec := { name := "treeChecks", fn := fun _ => fun
  | [d1, d2, d3] => { results := [.lit (.bool false)], args := [d1, d2, d3] }
  | _ => none }
def TreeChecksWrongFalsely : Prop := treeChecksRow.holds Try.pinned (OpenSpec.ofChange treeChecksWrong)

/-- 'gessolaw14.TreeSorts': WHATEVER THE INPUT: true; the input reads as it did. -/
def treeSortsSpec : ChangeSpec := { name := "treeSorts", fn := fun _ => fun
  | [d] => { results := [.lit (.bool true)], args := [d] }
  | _ => none }
def treeSortsRow : OpenClaim := { program := "ytlomehhlhbpanaa", sum := "83192a3a0b150dbb1f0a694a3a1fa38a2ada4de6a7c8871de7848b64bd042f74", func := "gesso/gessolaw14.TreeSorts", spec := "treeSorts", inPlace := ["internal/bytealg.IndexByteString"], unfollowed := true, recurses := true, plainKeys := false, apart := false }
def TreeSortsSaid : Prop := treeSortsRow.holds Try.pinned (OpenSpec.ofChange treeSortsSpec)

/-- ITS FALSE NEIGHBOUR: 'it returns false'. Refute it at one input. -/
def treeSortsWrong : ChangeSpec := { name := "treeSorts", fn := fun _ => fun
  | [d] => { results := [.lit (.bool false)], args := [d] }
  | _ => none }
def TreeSortsWrongFalsely : Prop := treeSortsRow.holds Try.pinned (OpenSpec.ofChange treeSortsWrong)

/-- 'gessolaw14.TreeSames': WHATEVER THE INPUT: true; the input reads as it did. -/
def treeSamesSpec : ChangeSpec := { name := "treeSames", fn := fun _ => fun
  | [d1, d2] => { results := [.lit (.bool true)], args := [d1, d2] }
  | _ => none }
def treeSamesRow : OpenClaim := { program := "ytlomehhlhbpanaa", sum := "83192a3a0b150dbb1f0a694a3a1fa38a2ada4de6a7c8871de7848b64bd042f74", func := "gesso/gessolaw14.TreeSames", spec := "treeSames", inPlace := ["internal/bytealg.IndexByteString"], unfollowed := true, recurses := true, plainKeys := false, apart := false }
def TreeSamesSaid : Prop := treeSamesRow.holds Try.pinned (OpenSpec.ofChange treeSamesSpec)

/-- ITS FALSE NEIGHBOUR: 'it returns false'. Refute it at one input. -/
def treeSamesWrong : ChangeSpec := { name := "treeSames", fn := fun _ => fun
  | [d1, d2] => { results := [.lit (.bool false)], args := [d1, d2] }
  | _ => none }
def TreeSamesWrongFalsely : Prop := treeSamesRow.holds Try.pinned (OpenSpec.ofChange treeSamesWrong)

/-- 'gessolaw14.TreeOrder': WHATEVER THE INPUT: true; the input reads as it did. -/
def treeOrderSpec : ChangeSpec := { name := "treeOrder", fn := fun _ => fun
  | [d] => { results := [.lit (.bool true)], args := [d] }
  | _ => none }
def treeOrderRow : OpenClaim := { program := "ytlomehhlhbpanaa", sum := "83192a3a0b150dbb1f0a694a3a1fa38a2ada4de6a7c8871de7848b64bd042f74", func := "gesso/gessolaw14.TreeOrder", spec := "treeOrder", inPlace := ["internal/bytealg.IndexByteString"], unfollowed := true, recurses := true, plainKeys := false, apart := false }
def TreeOrderSaid : Prop := treeOrderRow.holds Try.pinned (OpenSpec.ofChange treeOrderSpec)

/-- ITS FALSE NEIGHBOUR: 'it returns false'. Refute it at one input. -/
def treeOrderWrong : ChangeSpec := { name := "treeOrder", fn := fun _ => fun
  | [d] => { results := [.lit (.bool false)], args := [d] }
  | _ => none }
def TreeOrderWrongFalsely : Prop := treeOrderRow.holds Try.pinned (OpenSpec.ofChange treeOrderWrong)

/-- 'gessolaw14.TreePaths': WHATEVER THE INPUT: true; the input reads as it did. -/
def treePathsSpec : ChangeSpec := { name := "treePaths", fn := fun _ => fun
  | [d] => { results := [.lit (.bool true)], args := [d] }
  | _ => none }
def treePathsRow : OpenClaim := { program := "ytlomehhlhbpanaa", sum := "83192a3a0b150dbb1f0a694a3a1fa38a2ada4de6a7c8871de7848b64bd042f74", func := "gesso/gessolaw14.TreePaths", spec := "treePaths", inPlace := ["internal/bytealg.IndexByteString"], unfollowed := true, recurses := true, plainKeys := false, apart := false }
def TreePathsSaid : Prop := treePathsRow.holds Try.pinned (OpenSpec.ofChange treePathsSpec)

/-- ITS FALSE NEIGHBOUR: 'it returns false'. Refute it at one input. -/
def treePathsWrong : ChangeSpec := { name := "treePaths", fn := fun _ => fun
  | [d] => { results := [.lit (.bool false)], args := [d] }
  | _ => none }
def TreePathsWrongFalsely : Prop := treePathsRow.holds Try.pinned (OpenSpec.ofChange treePathsWrong)

/- THE SECOND FORM. 'bulk': how many values and letters a reading holds, each counted each time it is reached (what is shared counts as often as it is met; a slice's spare places count too). A statement '..UptoSaid' is the law's where the arguments, and the package variables that the reading takes, are together of bulk at most 1048576: NARROWER than '..Said'. Prove '..Said' where nothing that the law and all that it calls make is longer than what came in: it says more and counts as full. Else prove '..UptoSaid'. A law counts once. -/
mutual
def uptoBulk {H : Type} : DataW H → Nat
  | .lit (.string bytes) => bytes.length + 1
  | .lit _ => 1
  | .nil => 1
  | .ptr d => uptoBulk d + 1
  | .slice elems spare => uptoBulkAll elems + uptoBulkAll spare + 1
  | .agg parts => uptoBulkAll parts + 1
  | .iface _ d => uptoBulk d + 1
  | .map entries => uptoBulkEntries entries + 1
  | .held _ => 1
def uptoBulkAll {H : Type} : List (DataW H) → Nat
  | [] => 0
  | d :: r => uptoBulk d + uptoBulkAll r
def uptoBulkEntries {H : Type} : List (Lit × DataW H) → Nat
  | [] => 0
  | x :: r => uptoBulkEntry x + uptoBulkEntries r
def uptoBulkEntry {H : Type} : Lit × DataW H → Nat
  | (.string bytes, d) => bytes.length + uptoBulk d + 1
  | (_, d) => uptoBulk d + 1
 end
def uptoSmall : (H : Type) → List (DataW H) → Bool := fun _ ds => decide (uptoBulkAll ds ≤ 1048576)
def OpenSpec.upto (s : _root_.Go.ChangeSpec) : _root_.Go.OpenSpec := { _root_.Go.OpenSpec.ofChange s with cond := some uptoSmall }

/-- 'gessolaw14.TreeChecks', WHERE WHAT IT READS IS OF BULK AT MOST 1048576: true; the input reads as it did. -/
def treeChecksUptoRow : OpenClaim := { program := "ytlomehhlhbpanaa", sum := "83192a3a0b150dbb1f0a694a3a1fa38a2ada4de6a7c8871de7848b64bd042f74", func := "gesso/gessolaw14.TreeChecks", spec := "treeChecks", inPlace := ["internal/bytealg.IndexByteString"], unfollowed := true, recurses := true, plainKeys := false, apart := false, narrowed := true }
def TreeChecksUptoSaid : Prop := treeChecksUptoRow.holds Try.pinned (OpenSpec.upto treeChecksSpec)

/-- 'gessolaw14.TreeSorts', WHERE WHAT IT READS IS OF BULK AT MOST 1048576: true; the input reads as it did. -/
def treeSortsUptoRow : OpenClaim := { program := "ytlomehhlhbpanaa", sum := "83192a3a0b150dbb1f0a694a3a1fa38a2ada4de6a7c8871de7848b64bd042f74", func := "gesso/gessolaw14.TreeSorts", spec := "treeSorts", inPlace := ["internal/bytealg.IndexByteString"], unfollowed := true, recurses := true, plainKeys := false, apart := false, narrowed := true }
def TreeSortsUptoSaid : Prop := treeSortsUptoRow.holds Try.pinned (OpenSpec.upto treeSortsSpec)

/-- 'gessolaw14.TreeSames', WHERE WHAT IT READS IS OF BULK AT MOST 1048576: true; the input reads as it did. -/
def treeSamesUptoRow : OpenClaim := { program := "ytlomehhlhbpanaa", sum := "83192a3a0b150dbb1f0a694a3a1fa38a2ada4de6a7c8871de7848b64bd042f74", func := "gesso/gessolaw14.TreeSames", spec := "treeSames", inPlace := ["internal/bytealg.IndexByteString"], unfollowed := true, recurses := true, plainKeys := false, apart := false, narrowed := true }
def TreeSamesUptoSaid : Prop := treeSamesUptoRow.holds Try.pinned (OpenSpec.upto treeSamesSpec)

/-- 'gessolaw14.TreeOrder', WHERE WHAT IT READS IS OF BULK AT MOST 1048576: true; the input reads as it did. -/
def treeOrderUptoRow : OpenClaim := { program := "ytlomehhlhbpanaa", sum := "83192a3a0b150dbb1f0a694a3a1fa38a2ada4de6a7c8871de7848b64bd042f74", func := "gesso/gessolaw14.TreeOrder", spec := "treeOrder", inPlace := ["internal/bytealg.IndexByteString"], unfollowed := true, recurses := true, plainKeys := false, apart := false, narrowed := true }
def TreeOrderUptoSaid : Prop := treeOrderUptoRow.holds Try.pinned (OpenSpec.upto treeOrderSpec)

/-- 'gessolaw14.TreePaths', WHERE WHAT IT READS IS OF BULK AT MOST 1048576: true; the input reads as it did. -/
def treePathsUptoRow : OpenClaim := { program := "ytlomehhlhbpanaa", sum := "83192a3a0b150dbb1f0a694a3a1fa38a2ada4de6a7c8871de7848b64bd042f74", func := "gesso/gessolaw14.TreePaths", spec := "treePaths", inPlace := ["internal/bytealg.IndexByteString"], unfollowed := true, recurses := true, plainKeys := false, apart := false, narrowed := true }
def TreePathsUptoSaid : Prop := treePathsUptoRow.holds Try.pinned (OpenSpec.upto treePathsSpec)

end Rows
end Go.Proofs.Ytlomehhlhbpanaa
