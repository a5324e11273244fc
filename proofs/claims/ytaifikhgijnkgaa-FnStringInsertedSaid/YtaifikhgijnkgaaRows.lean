/-
  No cell of these rows narrows 'for every input' (looked for: loops, veiled, ifaces, maps, wideKeys, modest, calm, conditions, laid).
  DERIVED. THE GIVEN ROWS OF THIS SEAT. 36 by the template 'for every input the law returns true; each argument reads behind the call as it read before'; 0 by the template 'total and deterministic' (their statements: YtaifikhgijnkgaaTotals.lean).
  GIVEN WITH THE SEED: the statements are not yours to turn. If you find one false, say at which input.
  Laid BY PROGRAM, IN A SANDBOX (cutbox-rows.mjs): the forced cells as the released guide's own fill.sh prints them over the translation fb6f6d8473247ffa… (all of the seat's roots in one cut). By AI agents, Wed Nov 11 2026. No macro, syntax, notation, axiom, sorry.
-/
import Derived.Test.YtaifikhgijnkgaaChecked
import GoSem.Claim
import GoSem.ClaimJoined
import GoSem.ClaimMapViews
import Derived.JoinedTies
import Derived.KernelRfl
namespace Go.Proofs.Ytaifikhgijnkgaa
/- THE CELL 'sum', in the pinned program and in every row, IS THE sha256 OF THE DUMP (.gsa) THAT YtaifikhgijnkgaaProg.lean LOADS. Nothing in Lean hashes anything: it is a label: what it is worth is what the hold of that sum in a sandbox is worth. -/
noncomputable def Try.pinned : Pinned := { name := "ytaifikhgijnkgaa", sum := "fb6f6d8473247ffa131a66747324f3ffc8faf5ee2a4256cd3d4d808d9db7b4d0", checked := Try.checked }
namespace Rows
def none {H : Type} : Left H := { results := [], args := [] }

/-- 'laws.FnIntLen': WHATEVER THE INPUT: true; the input reads as it did. -/
def fnIntLenSpec : ChangeSpec := { name := "fnIntLen", fn := fun _ => fun
  | [d] => { results := [.lit (.bool true)], args := [d] }
  | _ => none }
def fnIntLenRow : OpenClaim := { program := "ytaifikhgijnkgaa", sum := "fb6f6d8473247ffa131a66747324f3ffc8faf5ee2a4256cd3d4d808d9db7b4d0", func := "lib-sievewright/laws.FnIntLen", spec := "fnIntLen", apart := false }
def FnIntLenSaid : Prop := fnIntLenRow.holds Try.pinned (OpenSpec.ofChange fnIntLenSpec)

/-- ITS FALSE NEIGHBOUR: 'it returns false'. Refute it at one input. -/
def fnIntLenWrong : ChangeSpec := { name := "fnIntLen", fn := fun _ => fun
  | [d] => { results := [.lit (.bool false)], args := [d] }
  | _ => none }
def FnIntLenWrongFalsely : Prop := fnIntLenRow.holds Try.pinned (OpenSpec.ofChange fnIntLenWrong)

/-- 'laws.FnIntLess': WHATEVER THE INPUT: true; the input reads as it did. -/
def fnIntLessSpec : ChangeSpec := { name := "fnIntLess", fn := fun _ => fun
  | [d1, d2, d3] => { results := [.lit (.bool true)], args := [d1, d2, d3] }
  | _ => none }
def fnIntLessRow : OpenClaim := { program := "ytaifikhgijnkgaa", sum := "fb6f6d8473247ffa131a66747324f3ffc8faf5ee2a4256cd3d4d808d9db7b4d0", func := "lib-sievewright/laws.FnIntLess", spec := "fnIntLess", apart := false }
def FnIntLessSaid : Prop := fnIntLessRow.holds Try.pinned (OpenSpec.ofChange fnIntLessSpec)

/-- ITS FALSE NEIGHBOUR: 'it returns false'. Refute it at one input. -/
def fnIntLessWrong : ChangeSpec := { name := "fnIntLess", fn := fun _ => fun
  | [d1, d2, d3] => { results := [.lit (.bool false)], args := [d1, d2, d3] }
  | _ => none }
def FnIntLessWrongFalsely : Prop := fnIntLessRow.holds Try.pinned (OpenSpec.ofChange fnIntLessWrong)

/-- 'laws.FnStringLess': WHATEVER THE INPUT: true; the input reads as it did. -/
def fnStringLessSpec : ChangeSpec := { name := "fnStringLess", fn := fun _ => fun
  | [d1, d2, d3] => { results := [.lit (.bool true)], args := [d1, d2, d3] }
  | _ => none }
def fnStringLessRow : OpenClaim := { program := "ytaifikhgijnkgaa", sum := "fb6f6d8473247ffa131a66747324f3ffc8faf5ee2a4256cd3d4d808d9db7b4d0", func := "lib-sievewright/laws.FnStringLess", spec := "fnStringLess", apart := false }
def FnStringLessSaid : Prop := fnStringLessRow.holds Try.pinned (OpenSpec.ofChange fnStringLessSpec)

/-- ITS FALSE NEIGHBOUR: 'it returns false'. Refute it at one input. -/
def fnStringLessWrong : ChangeSpec := { name := "fnStringLess", fn := fun _ => fun
  | [d1, d2, d3] => { results := [.lit (.bool false)], args := [d1, d2, d3] }
  | _ => none }
def FnStringLessWrongFalsely : Prop := fnStringLessRow.holds Try.pinned (OpenSpec.ofChange fnStringLessWrong)

/-- 'laws.FnStringLessTotal': WHATEVER THE INPUT: true; the input reads as it did. -/
def fnStringLessTotalSpec : ChangeSpec := { name := "fnStringLessTotal", fn := fun _ => fun
  | [d1, d2, d3] => { results := [.lit (.bool true)], args := [d1, d2, d3] }
  | _ => none }
def fnStringLessTotalRow : OpenClaim := { program := "ytaifikhgijnkgaa", sum := "fb6f6d8473247ffa131a66747324f3ffc8faf5ee2a4256cd3d4d808d9db7b4d0", func := "lib-sievewright/laws.FnStringLessTotal", spec := "fnStringLessTotal", apart := false }
def FnStringLessTotalSaid : Prop := fnStringLessTotalRow.holds Try.pinned (OpenSpec.ofChange fnStringLessTotalSpec)

/-- ITS FALSE NEIGHBOUR: 'it returns false'. Refute it at one input. -/
def fnStringLessTotalWrong : ChangeSpec := { name := "fnStringLessTotal", fn := fun _ => fun
  | [d1, d2, d3] => { results := [.lit (.bool false)], args := [d1, d2, d3] }
  | _ => none }
def FnStringLessTotalWrongFalsely : Prop := fnStringLessTotalRow.holds Try.pinned (OpenSpec.ofChange fnStringLessTotalWrong)

/-- 'laws.FnSliceThenSorted': WHATEVER THE INPUT: true; the input reads as it did. -/
def fnSliceThenSortedSpec : ChangeSpec := { name := "fnSliceThenSorted", fn := fun _ => fun
  | [d1, d2] => { results := [.lit (.bool true)], args := [d1, d2] }
  | _ => none }
def fnSliceThenSortedRow : OpenClaim := { program := "ytaifikhgijnkgaa", sum := "fb6f6d8473247ffa131a66747324f3ffc8faf5ee2a4256cd3d4d808d9db7b4d0", func := "lib-sievewright/laws.FnSliceThenSorted", spec := "fnSliceThenSorted", inPlace := ["internal/reflectlite.ValueOf", "internal/reflectlite.Swapper", "(internal/reflectlite.Value).Len"], unfollowed := true, recurses := true, apart := false }
def FnSliceThenSortedSaid : Prop := fnSliceThenSortedRow.holds Try.pinned (OpenSpec.ofChange fnSliceThenSortedSpec)

/-- ITS FALSE NEIGHBOUR: 'it returns false'. Refute it at one input. -/
def fnSliceThenSortedWrong : ChangeSpec := { name := "fnSliceThenSorted", fn := fun _ => fun
  | [d1, d2] => { results := [.lit (.bool false)], args := [d1, d2] }
  | _ => none }
def FnSliceThenSortedWrongFalsely : Prop := fnSliceThenSortedRow.holds Try.pinned (OpenSpec.ofChange fnSliceThenSortedWrong)

/-- 'laws.FnIntSwap': WHATEVER THE INPUT: true; the input reads as it did. -/
def fnIntSwapSpec : ChangeSpec := { name := "fnIntSwap", fn := fun _ => fun
  | [d1, d2, d3] => { results := [.lit (.bool true)], args := [d1, d2, d3] }
  | _ => none }
def fnIntSwapRow : OpenClaim := { program := "ytaifikhgijnkgaa", sum := "fb6f6d8473247ffa131a66747324f3ffc8faf5ee2a4256cd3d4d808d9db7b4d0", func := "lib-sievewright/laws.FnIntSwap", spec := "fnIntSwap", apart := false }
def FnIntSwapSaid : Prop := fnIntSwapRow.holds Try.pinned (OpenSpec.ofChange fnIntSwapSpec)

/-- ITS FALSE NEIGHBOUR: 'it returns false'. Refute it at one input. -/
def fnIntSwapWrong : ChangeSpec := { name := "fnIntSwap", fn := fun _ => fun
  | [d1, d2, d3] => { results := [.lit (.bool false)], args := [d1, d2, d3] }
  | _ => none }
def FnIntSwapWrongFalsely : Prop := fnIntSwapRow.holds Try.pinned (OpenSpec.ofChange fnIntSwapWrong)

/-- 'laws.FnIntSwapTwice': WHATEVER THE INPUT: true; the input reads as it did. -/
def fnIntSwapTwiceSpec : ChangeSpec := { name := "fnIntSwapTwice", fn := fun _ => fun
  | [d1, d2, d3] => { results := [.lit (.bool true)], args := [d1, d2, d3] }
  | _ => none }
def fnIntSwapTwiceRow : OpenClaim := { program := "ytaifikhgijnkgaa", sum := "fb6f6d8473247ffa131a66747324f3ffc8faf5ee2a4256cd3d4d808d9db7b4d0", func := "lib-sievewright/laws.FnIntSwapTwice", spec := "fnIntSwapTwice", apart := false }
def FnIntSwapTwiceSaid : Prop := fnIntSwapTwiceRow.holds Try.pinned (OpenSpec.ofChange fnIntSwapTwiceSpec)

/-- ITS FALSE NEIGHBOUR: 'it returns false'. Refute it at one input. -/
def fnIntSwapTwiceWrong : ChangeSpec := { name := "fnIntSwapTwice", fn := fun _ => fun
  | [d1, d2, d3] => { results := [.lit (.bool false)], args := [d1, d2, d3] }
  | _ => none }
def FnIntSwapTwiceWrongFalsely : Prop := fnIntSwapTwiceRow.holds Try.pinned (OpenSpec.ofChange fnIntSwapTwiceWrong)

/-- 'laws.FnIntLessTotal': WHATEVER THE INPUT: true; the input reads as it did. -/
def fnIntLessTotalSpec : ChangeSpec := { name := "fnIntLessTotal", fn := fun _ => fun
  | [d1, d2, d3] => { results := [.lit (.bool true)], args := [d1, d2, d3] }
  | _ => none }
def fnIntLessTotalRow : OpenClaim := { program := "ytaifikhgijnkgaa", sum := "fb6f6d8473247ffa131a66747324f3ffc8faf5ee2a4256cd3d4d808d9db7b4d0", func := "lib-sievewright/laws.FnIntLessTotal", spec := "fnIntLessTotal", apart := false }
def FnIntLessTotalSaid : Prop := fnIntLessTotalRow.holds Try.pinned (OpenSpec.ofChange fnIntLessTotalSpec)

/-- ITS FALSE NEIGHBOUR: 'it returns false'. Refute it at one input. -/
def fnIntLessTotalWrong : ChangeSpec := { name := "fnIntLessTotal", fn := fun _ => fun
  | [d1, d2, d3] => { results := [.lit (.bool false)], args := [d1, d2, d3] }
  | _ => none }
def FnIntLessTotalWrongFalsely : Prop := fnIntLessTotalRow.holds Try.pinned (OpenSpec.ofChange fnIntLessTotalWrong)

/-- 'laws.FnFloatSortsAgree': WHATEVER THE INPUT: true; the input reads as it did. -/
def fnFloatSortsAgreeSpec : ChangeSpec := { name := "fnFloatSortsAgree", fn := fun _ => fun
  | [d] => { results := [.lit (.bool true)], args := [d] }
  | _ => none }
def fnFloatSortsAgreeRow : OpenClaim := { program := "ytaifikhgijnkgaa", sum := "fb6f6d8473247ffa131a66747324f3ffc8faf5ee2a4256cd3d4d808d9db7b4d0", func := "lib-sievewright/laws.FnFloatSortsAgree", spec := "fnFloatSortsAgree", inPlace := ["math.Float64frombits", "math.Float64bits"], unfollowed := true, recurses := true, apart := false }
def FnFloatSortsAgreeSaid : Prop := fnFloatSortsAgreeRow.holds Try.pinned (OpenSpec.ofChange fnFloatSortsAgreeSpec)

/-- ITS FALSE NEIGHBOUR: 'it returns false'. Refute it at one input. -/
def fnFloatSortsAgreeWrong : ChangeSpec := { name := "fnFloatSortsAgree", fn := fun _ => fun
  | [d] => { results := [.lit (.bool false)], args := [d] }
  | _ => none }
def FnFloatSortsAgreeWrongFalsely : Prop := fnFloatSortsAgreeRow.holds Try.pinned (OpenSpec.ofChange fnFloatSortsAgreeWrong)

/-- 'laws.FnFloat64Less': WHATEVER THE INPUT: true; the input reads as it did. -/
def fnFloat64LessSpec : ChangeSpec := { name := "fnFloat64Less", fn := fun _ => fun
  | [d1, d2, d3] => { results := [.lit (.bool true)], args := [d1, d2, d3] }
  | _ => none }
def fnFloat64LessRow : OpenClaim := { program := "ytaifikhgijnkgaa", sum := "fb6f6d8473247ffa131a66747324f3ffc8faf5ee2a4256cd3d4d808d9db7b4d0", func := "lib-sievewright/laws.FnFloat64Less", spec := "fnFloat64Less", inPlace := ["math.Float64frombits"], apart := false }
def FnFloat64LessSaid : Prop := fnFloat64LessRow.holds Try.pinned (OpenSpec.ofChange fnFloat64LessSpec)

/-- ITS FALSE NEIGHBOUR: 'it returns false'. Refute it at one input. -/
def fnFloat64LessWrong : ChangeSpec := { name := "fnFloat64Less", fn := fun _ => fun
  | [d1, d2, d3] => { results := [.lit (.bool false)], args := [d1, d2, d3] }
  | _ => none }
def FnFloat64LessWrongFalsely : Prop := fnFloat64LessRow.holds Try.pinned (OpenSpec.ofChange fnFloat64LessWrong)

/-- 'laws.FnReverseSwap': WHATEVER THE INPUT: true; the input reads as it did. -/
def fnReverseSwapSpec : ChangeSpec := { name := "fnReverseSwap", fn := fun _ => fun
  | [d1, d2, d3, d4] => { results := [.lit (.bool true)], args := [d1, d2, d3, d4] }
  | _ => none }
def fnReverseSwapRow : OpenClaim := { program := "ytaifikhgijnkgaa", sum := "fb6f6d8473247ffa131a66747324f3ffc8faf5ee2a4256cd3d4d808d9db7b4d0", func := "lib-sievewright/laws.FnReverseSwap", spec := "fnReverseSwap", unfollowed := true, recurses := true, apart := false }
def FnReverseSwapSaid : Prop := fnReverseSwapRow.holds Try.pinned (OpenSpec.ofChange fnReverseSwapSpec)

/-- ITS FALSE NEIGHBOUR: 'it returns false'. Refute it at one input. -/
def fnReverseSwapWrong : ChangeSpec := { name := "fnReverseSwap", fn := fun _ => fun
  | [d1, d2, d3, d4] => { results := [.lit (.bool false)], args := [d1, d2, d3, d4] }
  | _ => none }
def FnReverseSwapWrongFalsely : Prop := fnReverseSwapRow.holds Try.pinned (OpenSpec.ofChange fnReverseSwapWrong)

/-- 'laws.FnReverseLess': WHATEVER THE INPUT: true; the input reads as it did. -/
def fnReverseLessSpec : ChangeSpec := { name := "fnReverseLess", fn := fun _ => fun
  | [d1, d2, d3, d4] => { results := [.lit (.bool true)], args := [d1, d2, d3, d4] }
  | _ => none }
def fnReverseLessRow : OpenClaim := { program := "ytaifikhgijnkgaa", sum := "fb6f6d8473247ffa131a66747324f3ffc8faf5ee2a4256cd3d4d808d9db7b4d0", func := "lib-sievewright/laws.FnReverseLess", spec := "fnReverseLess", unfollowed := true, recurses := true, apart := false }
def FnReverseLessSaid : Prop := fnReverseLessRow.holds Try.pinned (OpenSpec.ofChange fnReverseLessSpec)

/-- ITS FALSE NEIGHBOUR: 'it returns false'. Refute it at one input. -/
def fnReverseLessWrong : ChangeSpec := { name := "fnReverseLess", fn := fun _ => fun
  | [d1, d2, d3, d4] => { results := [.lit (.bool false)], args := [d1, d2, d3, d4] }
  | _ => none }
def FnReverseLessWrongFalsely : Prop := fnReverseLessRow.holds Try.pinned (OpenSpec.ofChange fnReverseLessWrong)

/-- 'laws.FnIntSearch': WHATEVER THE INPUT: true; the input reads as it did. -/
def fnIntSearchSpec : ChangeSpec := { name := "fnIntSearch", fn := fun _ => fun
  | [d1, d2] => { results := [.lit (.bool true)], args := [d1, d2] }
  | _ => none }
def fnIntSearchRow : OpenClaim := { program := "ytaifikhgijnkgaa", sum := "fb6f6d8473247ffa131a66747324f3ffc8faf5ee2a4256cd3d4d808d9db7b4d0", func := "lib-sievewright/laws.FnIntSearch", spec := "fnIntSearch", unfollowed := true, recurses := true, apart := false }
def FnIntSearchSaid : Prop := fnIntSearchRow.holds Try.pinned (OpenSpec.ofChange fnIntSearchSpec)

/-- ITS FALSE NEIGHBOUR: 'it returns false'. Refute it at one input. -/
def fnIntSearchWrong : ChangeSpec := { name := "fnIntSearch", fn := fun _ => fun
  | [d1, d2] => { results := [.lit (.bool false)], args := [d1, d2] }
  | _ => none }
def FnIntSearchWrongFalsely : Prop := fnIntSearchRow.holds Try.pinned (OpenSpec.ofChange fnIntSearchWrong)

/-- 'laws.FnSliceReversed': WHATEVER THE INPUT: true; the input reads as it did. -/
def fnSliceReversedSpec : ChangeSpec := { name := "fnSliceReversed", fn := fun _ => fun
  | [d1, d2] => { results := [.lit (.bool true)], args := [d1, d2] }
  | _ => none }
def fnSliceReversedRow : OpenClaim := { program := "ytaifikhgijnkgaa", sum := "fb6f6d8473247ffa131a66747324f3ffc8faf5ee2a4256cd3d4d808d9db7b4d0", func := "lib-sievewright/laws.FnSliceReversed", spec := "fnSliceReversed", inPlace := ["internal/reflectlite.ValueOf", "internal/reflectlite.Swapper", "(internal/reflectlite.Value).Len"], unfollowed := true, recurses := true, apart := false }
def FnSliceReversedSaid : Prop := fnSliceReversedRow.holds Try.pinned (OpenSpec.ofChange fnSliceReversedSpec)

/-- ITS FALSE NEIGHBOUR: 'it returns false'. Refute it at one input. -/
def fnSliceReversedWrong : ChangeSpec := { name := "fnSliceReversed", fn := fun _ => fun
  | [d1, d2] => { results := [.lit (.bool false)], args := [d1, d2] }
  | _ => none }
def FnSliceReversedWrongFalsely : Prop := fnSliceReversedRow.holds Try.pinned (OpenSpec.ofChange fnSliceReversedWrong)

/-- 'laws.FnStringSearch': WHATEVER THE INPUT: true; the input reads as it did. -/
def fnStringSearchSpec : ChangeSpec := { name := "fnStringSearch", fn := fun _ => fun
  | [d1, d2] => { results := [.lit (.bool true)], args := [d1, d2] }
  | _ => none }
def fnStringSearchRow : OpenClaim := { program := "ytaifikhgijnkgaa", sum := "fb6f6d8473247ffa131a66747324f3ffc8faf5ee2a4256cd3d4d808d9db7b4d0", func := "lib-sievewright/laws.FnStringSearch", spec := "fnStringSearch", unfollowed := true, recurses := true, apart := false }
def FnStringSearchSaid : Prop := fnStringSearchRow.holds Try.pinned (OpenSpec.ofChange fnStringSearchSpec)

/-- ITS FALSE NEIGHBOUR: 'it returns false'. Refute it at one input. -/
def fnStringSearchWrong : ChangeSpec := { name := "fnStringSearch", fn := fun _ => fun
  | [d1, d2] => { results := [.lit (.bool false)], args := [d1, d2] }
  | _ => none }
def FnStringSearchWrongFalsely : Prop := fnStringSearchRow.holds Try.pinned (OpenSpec.ofChange fnStringSearchWrong)

/-- 'laws.FnReverseIsSorted': WHATEVER THE INPUT: true; the input reads as it did. -/
def fnReverseIsSortedSpec : ChangeSpec := { name := "fnReverseIsSorted", fn := fun _ => fun
  | [d1, d2] => { results := [.lit (.bool true)], args := [d1, d2] }
  | _ => none }
def fnReverseIsSortedRow : OpenClaim := { program := "ytaifikhgijnkgaa", sum := "fb6f6d8473247ffa131a66747324f3ffc8faf5ee2a4256cd3d4d808d9db7b4d0", func := "lib-sievewright/laws.FnReverseIsSorted", spec := "fnReverseIsSorted", unfollowed := true, recurses := true, apart := false }
def FnReverseIsSortedSaid : Prop := fnReverseIsSortedRow.holds Try.pinned (OpenSpec.ofChange fnReverseIsSortedSpec)

/-- ITS FALSE NEIGHBOUR: 'it returns false'. Refute it at one input. -/
def fnReverseIsSortedWrong : ChangeSpec := { name := "fnReverseIsSorted", fn := fun _ => fun
  | [d1, d2] => { results := [.lit (.bool false)], args := [d1, d2] }
  | _ => none }
def FnReverseIsSortedWrongFalsely : Prop := fnReverseIsSortedRow.holds Try.pinned (OpenSpec.ofChange fnReverseIsSortedWrong)

/-- 'laws.FnFloat64sAreSorted': WHATEVER THE INPUT: true; the input reads as it did. -/
def fnFloat64sAreSortedSpec : ChangeSpec := { name := "fnFloat64sAreSorted", fn := fun _ => fun
  | [d] => { results := [.lit (.bool true)], args := [d] }
  | _ => none }
def fnFloat64sAreSortedRow : OpenClaim := { program := "ytaifikhgijnkgaa", sum := "fb6f6d8473247ffa131a66747324f3ffc8faf5ee2a4256cd3d4d808d9db7b4d0", func := "lib-sievewright/laws.FnFloat64sAreSorted", spec := "fnFloat64sAreSorted", inPlace := ["math.Float64frombits"], apart := false }
def FnFloat64sAreSortedSaid : Prop := fnFloat64sAreSortedRow.holds Try.pinned (OpenSpec.ofChange fnFloat64sAreSortedSpec)

/-- ITS FALSE NEIGHBOUR: 'it returns false'. Refute it at one input. -/
def fnFloat64sAreSortedWrong : ChangeSpec := { name := "fnFloat64sAreSorted", fn := fun _ => fun
  | [d] => { results := [.lit (.bool false)], args := [d] }
  | _ => none }
def FnFloat64sAreSortedWrongFalsely : Prop := fnFloat64sAreSortedRow.holds Try.pinned (OpenSpec.ofChange fnFloat64sAreSortedWrong)

/-- 'laws.FnFloatSortedByLess': WHATEVER THE INPUT: true; the input reads as it did. -/
def fnFloatSortedByLessSpec : ChangeSpec := { name := "fnFloatSortedByLess", fn := fun _ => fun
  | [d] => { results := [.lit (.bool true)], args := [d] }
  | _ => none }
def fnFloatSortedByLessRow : OpenClaim := { program := "ytaifikhgijnkgaa", sum := "fb6f6d8473247ffa131a66747324f3ffc8faf5ee2a4256cd3d4d808d9db7b4d0", func := "lib-sievewright/laws.FnFloatSortedByLess", spec := "fnFloatSortedByLess", inPlace := ["math.Float64frombits"], apart := false }
def FnFloatSortedByLessSaid : Prop := fnFloatSortedByLessRow.holds Try.pinned (OpenSpec.ofChange fnFloatSortedByLessSpec)

/-- ITS FALSE NEIGHBOUR: 'it returns false'. Refute it at one input. -/
def fnFloatSortedByLessWrong : ChangeSpec := { name := "fnFloatSortedByLess", fn := fun _ => fun
  | [d] => { results := [.lit (.bool false)], args := [d] }
  | _ => none }
def FnFloatSortedByLessWrongFalsely : Prop := fnFloatSortedByLessRow.holds Try.pinned (OpenSpec.ofChange fnFloatSortedByLessWrong)

/-- 'laws.FnSliceIsSorted': WHATEVER THE INPUT: true; the input reads as it did. -/
def fnSliceIsSortedSpec : ChangeSpec := { name := "fnSliceIsSorted", fn := fun _ => fun
  | [d1, d2] => { results := [.lit (.bool true)], args := [d1, d2] }
  | _ => none }
def fnSliceIsSortedRow : OpenClaim := { program := "ytaifikhgijnkgaa", sum := "fb6f6d8473247ffa131a66747324f3ffc8faf5ee2a4256cd3d4d808d9db7b4d0", func := "lib-sievewright/laws.FnSliceIsSorted", spec := "fnSliceIsSorted", inPlace := ["internal/reflectlite.ValueOf", "(internal/reflectlite.Value).Len"], unfollowed := true, recurses := true, apart := false }
def FnSliceIsSortedSaid : Prop := fnSliceIsSortedRow.holds Try.pinned (OpenSpec.ofChange fnSliceIsSortedSpec)

/-- ITS FALSE NEIGHBOUR: 'it returns false'. Refute it at one input. -/
def fnSliceIsSortedWrong : ChangeSpec := { name := "fnSliceIsSorted", fn := fun _ => fun
  | [d1, d2] => { results := [.lit (.bool false)], args := [d1, d2] }
  | _ => none }
def FnSliceIsSortedWrongFalsely : Prop := fnSliceIsSortedRow.holds Try.pinned (OpenSpec.ofChange fnSliceIsSortedWrong)

/-- 'laws.FnReverseStable': WHATEVER THE INPUT: true; the input reads as it did. -/
def fnReverseStableSpec : ChangeSpec := { name := "fnReverseStable", fn := fun _ => fun
  | [d1, d2] => { results := [.lit (.bool true)], args := [d1, d2] }
  | _ => none }
def fnReverseStableRow : OpenClaim := { program := "ytaifikhgijnkgaa", sum := "fb6f6d8473247ffa131a66747324f3ffc8faf5ee2a4256cd3d4d808d9db7b4d0", func := "lib-sievewright/laws.FnReverseStable", spec := "fnReverseStable", unfollowed := true, recurses := true, apart := false }
def FnReverseStableSaid : Prop := fnReverseStableRow.holds Try.pinned (OpenSpec.ofChange fnReverseStableSpec)

/-- ITS FALSE NEIGHBOUR: 'it returns false'. Refute it at one input. -/
def fnReverseStableWrong : ChangeSpec := { name := "fnReverseStable", fn := fun _ => fun
  | [d1, d2] => { results := [.lit (.bool false)], args := [d1, d2] }
  | _ => none }
def FnReverseStableWrongFalsely : Prop := fnReverseStableRow.holds Try.pinned (OpenSpec.ofChange fnReverseStableWrong)

/-- 'laws.FnReverseStableOfReversed': WHATEVER THE INPUT: true; the input reads as it did. -/
def fnReverseStableOfReversedSpec : ChangeSpec := { name := "fnReverseStableOfReversed", fn := fun _ => fun
  | [d1, d2] => { results := [.lit (.bool true)], args := [d1, d2] }
  | _ => none }
def fnReverseStableOfReversedRow : OpenClaim := { program := "ytaifikhgijnkgaa", sum := "fb6f6d8473247ffa131a66747324f3ffc8faf5ee2a4256cd3d4d808d9db7b4d0", func := "lib-sievewright/laws.FnReverseStableOfReversed", spec := "fnReverseStableOfReversed", unfollowed := true, recurses := true, apart := false }
def FnReverseStableOfReversedSaid : Prop := fnReverseStableOfReversedRow.holds Try.pinned (OpenSpec.ofChange fnReverseStableOfReversedSpec)

/-- ITS FALSE NEIGHBOUR: 'it returns false'. Refute it at one input. -/
def fnReverseStableOfReversedWrong : ChangeSpec := { name := "fnReverseStableOfReversed", fn := fun _ => fun
  | [d1, d2] => { results := [.lit (.bool false)], args := [d1, d2] }
  | _ => none }
def FnReverseStableOfReversedWrongFalsely : Prop := fnReverseStableOfReversedRow.holds Try.pinned (OpenSpec.ofChange fnReverseStableOfReversedWrong)

/-- 'laws.FnIntSort': WHATEVER THE INPUT: true; the input reads as it did. -/
def fnIntSortSpec : ChangeSpec := { name := "fnIntSort", fn := fun _ => fun
  | [d] => { results := [.lit (.bool true)], args := [d] }
  | _ => none }
def fnIntSortRow : OpenClaim := { program := "ytaifikhgijnkgaa", sum := "fb6f6d8473247ffa131a66747324f3ffc8faf5ee2a4256cd3d4d808d9db7b4d0", func := "lib-sievewright/laws.FnIntSort", spec := "fnIntSort", unfollowed := true, recurses := true, apart := false }
def FnIntSortSaid : Prop := fnIntSortRow.holds Try.pinned (OpenSpec.ofChange fnIntSortSpec)

/-- ITS FALSE NEIGHBOUR: 'it returns false'. Refute it at one input. -/
def fnIntSortWrong : ChangeSpec := { name := "fnIntSort", fn := fun _ => fun
  | [d] => { results := [.lit (.bool false)], args := [d] }
  | _ => none }
def FnIntSortWrongFalsely : Prop := fnIntSortRow.holds Try.pinned (OpenSpec.ofChange fnIntSortWrong)

/-- 'laws.FnStringSort': WHATEVER THE INPUT: true; the input reads as it did. -/
def fnStringSortSpec : ChangeSpec := { name := "fnStringSort", fn := fun _ => fun
  | [d] => { results := [.lit (.bool true)], args := [d] }
  | _ => none }
def fnStringSortRow : OpenClaim := { program := "ytaifikhgijnkgaa", sum := "fb6f6d8473247ffa131a66747324f3ffc8faf5ee2a4256cd3d4d808d9db7b4d0", func := "lib-sievewright/laws.FnStringSort", spec := "fnStringSort", unfollowed := true, recurses := true, apart := false }
def FnStringSortSaid : Prop := fnStringSortRow.holds Try.pinned (OpenSpec.ofChange fnStringSortSpec)

/-- ITS FALSE NEIGHBOUR: 'it returns false'. Refute it at one input. -/
def fnStringSortWrong : ChangeSpec := { name := "fnStringSort", fn := fun _ => fun
  | [d] => { results := [.lit (.bool false)], args := [d] }
  | _ => none }
def FnStringSortWrongFalsely : Prop := fnStringSortRow.holds Try.pinned (OpenSpec.ofChange fnStringSortWrong)

/-- 'laws.FnReverseSort': WHATEVER THE INPUT: true; the input reads as it did. -/
def fnReverseSortSpec : ChangeSpec := { name := "fnReverseSort", fn := fun _ => fun
  | [d1, d2] => { results := [.lit (.bool true)], args := [d1, d2] }
  | _ => none }
def fnReverseSortRow : OpenClaim := { program := "ytaifikhgijnkgaa", sum := "fb6f6d8473247ffa131a66747324f3ffc8faf5ee2a4256cd3d4d808d9db7b4d0", func := "lib-sievewright/laws.FnReverseSort", spec := "fnReverseSort", unfollowed := true, recurses := true, apart := false }
def FnReverseSortSaid : Prop := fnReverseSortRow.holds Try.pinned (OpenSpec.ofChange fnReverseSortSpec)

/-- ITS FALSE NEIGHBOUR: 'it returns false'. Refute it at one input. -/
def fnReverseSortWrong : ChangeSpec := { name := "fnReverseSort", fn := fun _ => fun
  | [d1, d2] => { results := [.lit (.bool false)], args := [d1, d2] }
  | _ => none }
def FnReverseSortWrongFalsely : Prop := fnReverseSortRow.holds Try.pinned (OpenSpec.ofChange fnReverseSortWrong)

/-- 'laws.FnFloat64s': WHATEVER THE INPUT: true; the input reads as it did. -/
def fnFloat64sSpec : ChangeSpec := { name := "fnFloat64s", fn := fun _ => fun
  | [d] => { results := [.lit (.bool true)], args := [d] }
  | _ => none }
def fnFloat64sRow : OpenClaim := { program := "ytaifikhgijnkgaa", sum := "fb6f6d8473247ffa131a66747324f3ffc8faf5ee2a4256cd3d4d808d9db7b4d0", func := "lib-sievewright/laws.FnFloat64s", spec := "fnFloat64s", inPlace := ["math.Float64frombits", "math.Float64bits"], recurses := true, apart := false }
def FnFloat64sSaid : Prop := fnFloat64sRow.holds Try.pinned (OpenSpec.ofChange fnFloat64sSpec)

/-- ITS FALSE NEIGHBOUR: 'it returns false'. Refute it at one input. -/
def fnFloat64sWrong : ChangeSpec := { name := "fnFloat64s", fn := fun _ => fun
  | [d] => { results := [.lit (.bool false)], args := [d] }
  | _ => none }
def FnFloat64sWrongFalsely : Prop := fnFloat64sRow.holds Try.pinned (OpenSpec.ofChange fnFloat64sWrong)

/-- 'laws.FnFloat64sBits': WHATEVER THE INPUT: true; the input reads as it did. -/
def fnFloat64sBitsSpec : ChangeSpec := { name := "fnFloat64sBits", fn := fun _ => fun
  | [d] => { results := [.lit (.bool true)], args := [d] }
  | _ => none }
def fnFloat64sBitsRow : OpenClaim := { program := "ytaifikhgijnkgaa", sum := "fb6f6d8473247ffa131a66747324f3ffc8faf5ee2a4256cd3d4d808d9db7b4d0", func := "lib-sievewright/laws.FnFloat64sBits", spec := "fnFloat64sBits", inPlace := ["math.Float64frombits", "math.Float64bits"], recurses := true, apart := false }
def FnFloat64sBitsSaid : Prop := fnFloat64sBitsRow.holds Try.pinned (OpenSpec.ofChange fnFloat64sBitsSpec)

/-- ITS FALSE NEIGHBOUR: 'it returns false'. Refute it at one input. -/
def fnFloat64sBitsWrong : ChangeSpec := { name := "fnFloat64sBits", fn := fun _ => fun
  | [d] => { results := [.lit (.bool false)], args := [d] }
  | _ => none }
def FnFloat64sBitsWrongFalsely : Prop := fnFloat64sBitsRow.holds Try.pinned (OpenSpec.ofChange fnFloat64sBitsWrong)

/-- 'laws.FnFloat64Sort': WHATEVER THE INPUT: true; the input reads as it did. -/
def fnFloat64SortSpec : ChangeSpec := { name := "fnFloat64Sort", fn := fun _ => fun
  | [d] => { results := [.lit (.bool true)], args := [d] }
  | _ => none }
def fnFloat64SortRow : OpenClaim := { program := "ytaifikhgijnkgaa", sum := "fb6f6d8473247ffa131a66747324f3ffc8faf5ee2a4256cd3d4d808d9db7b4d0", func := "lib-sievewright/laws.FnFloat64Sort", spec := "fnFloat64Sort", inPlace := ["math.Float64frombits", "math.Float64bits"], unfollowed := true, recurses := true, apart := false }
def FnFloat64SortSaid : Prop := fnFloat64SortRow.holds Try.pinned (OpenSpec.ofChange fnFloat64SortSpec)

/-- ITS FALSE NEIGHBOUR: 'it returns false'. Refute it at one input. -/
def fnFloat64SortWrong : ChangeSpec := { name := "fnFloat64Sort", fn := fun _ => fun
  | [d] => { results := [.lit (.bool false)], args := [d] }
  | _ => none }
def FnFloat64SortWrongFalsely : Prop := fnFloat64SortRow.holds Try.pinned (OpenSpec.ofChange fnFloat64SortWrong)

/-- 'laws.FnFloat64SortBits': WHATEVER THE INPUT: true; the input reads as it did. -/
def fnFloat64SortBitsSpec : ChangeSpec := { name := "fnFloat64SortBits", fn := fun _ => fun
  | [d] => { results := [.lit (.bool true)], args := [d] }
  | _ => none }
def fnFloat64SortBitsRow : OpenClaim := { program := "ytaifikhgijnkgaa", sum := "fb6f6d8473247ffa131a66747324f3ffc8faf5ee2a4256cd3d4d808d9db7b4d0", func := "lib-sievewright/laws.FnFloat64SortBits", spec := "fnFloat64SortBits", inPlace := ["math.Float64frombits", "math.Float64bits"], unfollowed := true, recurses := true, apart := false }
def FnFloat64SortBitsSaid : Prop := fnFloat64SortBitsRow.holds Try.pinned (OpenSpec.ofChange fnFloat64SortBitsSpec)

/-- ITS FALSE NEIGHBOUR: 'it returns false'. Refute it at one input. -/
def fnFloat64SortBitsWrong : ChangeSpec := { name := "fnFloat64SortBits", fn := fun _ => fun
  | [d] => { results := [.lit (.bool false)], args := [d] }
  | _ => none }
def FnFloat64SortBitsWrongFalsely : Prop := fnFloat64SortBitsRow.holds Try.pinned (OpenSpec.ofChange fnFloat64SortBitsWrong)

/-- 'laws.FnIntInserted': WHATEVER THE INPUT: true; the input reads as it did. -/
def fnIntInsertedSpec : ChangeSpec := { name := "fnIntInserted", fn := fun _ => fun
  | [d1, d2] => { results := [.lit (.bool true)], args := [d1, d2] }
  | _ => none }
def fnIntInsertedRow : OpenClaim := { program := "ytaifikhgijnkgaa", sum := "fb6f6d8473247ffa131a66747324f3ffc8faf5ee2a4256cd3d4d808d9db7b4d0", func := "lib-sievewright/laws.FnIntInserted", spec := "fnIntInserted", unfollowed := true, recurses := true, apart := false }
def FnIntInsertedSaid : Prop := fnIntInsertedRow.holds Try.pinned (OpenSpec.ofChange fnIntInsertedSpec)

/-- ITS FALSE NEIGHBOUR: 'it returns false'. Refute it at one input. -/
def fnIntInsertedWrong : ChangeSpec := { name := "fnIntInserted", fn := fun _ => fun
  | [d1, d2] => { results := [.lit (.bool false)], args := [d1, d2] }
  | _ => none }
def FnIntInsertedWrongFalsely : Prop := fnIntInsertedRow.holds Try.pinned (OpenSpec.ofChange fnIntInsertedWrong)

/-- 'laws.FnStringInserted': WHATEVER THE INPUT: true; the input reads as it did. -/
def fnStringInsertedSpec : ChangeSpec := { name := "fnStringInserted", fn := fun _ => fun
  | [d1, d2] => { results := [.lit (.bool true)], args := [d1, d2] }
  | _ => none }
def fnStringInsertedRow : OpenClaim := { program := "ytaifikhgijnkgaa", sum := "fb6f6d8473247ffa131a66747324f3ffc8faf5ee2a4256cd3d4d808d9db7b4d0", func := "lib-sievewright/laws.FnStringInserted", spec := "fnStringInserted", unfollowed := true, recurses := true, apart := false }
def FnStringInsertedSaid : Prop := fnStringInsertedRow.holds Try.pinned (OpenSpec.ofChange fnStringInsertedSpec)

/-- ITS FALSE NEIGHBOUR: 'it returns false'. Refute it at one input. -/
def fnStringInsertedWrong : ChangeSpec := { name := "fnStringInserted", fn := fun _ => fun
  | [d1, d2] => { results := [.lit (.bool false)], args := [d1, d2] }
  | _ => none }
def FnStringInsertedWrongFalsely : Prop := fnStringInsertedRow.holds Try.pinned (OpenSpec.ofChange fnStringInsertedWrong)

/-- 'laws.FnFloatFound': WHATEVER THE INPUT: true; the input reads as it did. -/
def fnFloatFoundSpec : ChangeSpec := { name := "fnFloatFound", fn := fun _ => fun
  | [d] => { results := [.lit (.bool true)], args := [d] }
  | _ => none }
def fnFloatFoundRow : OpenClaim := { program := "ytaifikhgijnkgaa", sum := "fb6f6d8473247ffa131a66747324f3ffc8faf5ee2a4256cd3d4d808d9db7b4d0", func := "lib-sievewright/laws.FnFloatFound", spec := "fnFloatFound", inPlace := ["math.Float64frombits", "math.Float64bits"], unfollowed := true, recurses := true, apart := false }
def FnFloatFoundSaid : Prop := fnFloatFoundRow.holds Try.pinned (OpenSpec.ofChange fnFloatFoundSpec)

/-- ITS FALSE NEIGHBOUR: 'it returns false'. Refute it at one input. -/
def fnFloatFoundWrong : ChangeSpec := { name := "fnFloatFound", fn := fun _ => fun
  | [d] => { results := [.lit (.bool false)], args := [d] }
  | _ => none }
def FnFloatFoundWrongFalsely : Prop := fnFloatFoundRow.holds Try.pinned (OpenSpec.ofChange fnFloatFoundWrong)

/-- 'laws.FnSearchFloat64s': WHATEVER THE INPUT: true; the input reads as it did. -/
def fnSearchFloat64sSpec : ChangeSpec := { name := "fnSearchFloat64s", fn := fun _ => fun
  | [d1, d2] => { results := [.lit (.bool true)], args := [d1, d2] }
  | _ => none }
def fnSearchFloat64sRow : OpenClaim := { program := "ytaifikhgijnkgaa", sum := "fb6f6d8473247ffa131a66747324f3ffc8faf5ee2a4256cd3d4d808d9db7b4d0", func := "lib-sievewright/laws.FnSearchFloat64s", spec := "fnSearchFloat64s", inPlace := ["math.Float64frombits", "math.Float64bits"], unfollowed := true, recurses := true, apart := false }
def FnSearchFloat64sSaid : Prop := fnSearchFloat64sRow.holds Try.pinned (OpenSpec.ofChange fnSearchFloat64sSpec)

/-- ITS FALSE NEIGHBOUR: 'it returns false'. Refute it at one input. -/
def fnSearchFloat64sWrong : ChangeSpec := { name := "fnSearchFloat64s", fn := fun _ => fun
  | [d1, d2] => { results := [.lit (.bool false)], args := [d1, d2] }
  | _ => none }
def FnSearchFloat64sWrongFalsely : Prop := fnSearchFloat64sRow.holds Try.pinned (OpenSpec.ofChange fnSearchFloat64sWrong)

/-- 'laws.FnFloat64Search': WHATEVER THE INPUT: true; the input reads as it did. -/
def fnFloat64SearchSpec : ChangeSpec := { name := "fnFloat64Search", fn := fun _ => fun
  | [d1, d2] => { results := [.lit (.bool true)], args := [d1, d2] }
  | _ => none }
def fnFloat64SearchRow : OpenClaim := { program := "ytaifikhgijnkgaa", sum := "fb6f6d8473247ffa131a66747324f3ffc8faf5ee2a4256cd3d4d808d9db7b4d0", func := "lib-sievewright/laws.FnFloat64Search", spec := "fnFloat64Search", inPlace := ["math.Float64frombits", "math.Float64bits"], unfollowed := true, recurses := true, apart := false }
def FnFloat64SearchSaid : Prop := fnFloat64SearchRow.holds Try.pinned (OpenSpec.ofChange fnFloat64SearchSpec)

/-- ITS FALSE NEIGHBOUR: 'it returns false'. Refute it at one input. -/
def fnFloat64SearchWrong : ChangeSpec := { name := "fnFloat64Search", fn := fun _ => fun
  | [d1, d2] => { results := [.lit (.bool false)], args := [d1, d2] }
  | _ => none }
def FnFloat64SearchWrongFalsely : Prop := fnFloat64SearchRow.holds Try.pinned (OpenSpec.ofChange fnFloat64SearchWrong)

/-- 'laws.FnReverseThenSorted': WHATEVER THE INPUT: true; the input reads as it did. -/
def fnReverseThenSortedSpec : ChangeSpec := { name := "fnReverseThenSorted", fn := fun _ => fun
  | [d1, d2] => { results := [.lit (.bool true)], args := [d1, d2] }
  | _ => none }
def fnReverseThenSortedRow : OpenClaim := { program := "ytaifikhgijnkgaa", sum := "fb6f6d8473247ffa131a66747324f3ffc8faf5ee2a4256cd3d4d808d9db7b4d0", func := "lib-sievewright/laws.FnReverseThenSorted", spec := "fnReverseThenSorted", inPlace := ["internal/reflectlite.ValueOf", "(internal/reflectlite.Value).Len"], unfollowed := true, recurses := true, apart := false }
def FnReverseThenSortedSaid : Prop := fnReverseThenSortedRow.holds Try.pinned (OpenSpec.ofChange fnReverseThenSortedSpec)

/-- ITS FALSE NEIGHBOUR: 'it returns false'. Refute it at one input. -/
def fnReverseThenSortedWrong : ChangeSpec := { name := "fnReverseThenSorted", fn := fun _ => fun
  | [d1, d2] => { results := [.lit (.bool false)], args := [d1, d2] }
  | _ => none }
def FnReverseThenSortedWrongFalsely : Prop := fnReverseThenSortedRow.holds Try.pinned (OpenSpec.ofChange fnReverseThenSortedWrong)

/-- 'laws.FnSlice': WHATEVER THE INPUT: true; the input reads as it did. -/
def fnSliceSpec : ChangeSpec := { name := "fnSlice", fn := fun _ => fun
  | [d1, d2] => { results := [.lit (.bool true)], args := [d1, d2] }
  | _ => none }
def fnSliceRow : OpenClaim := { program := "ytaifikhgijnkgaa", sum := "fb6f6d8473247ffa131a66747324f3ffc8faf5ee2a4256cd3d4d808d9db7b4d0", func := "lib-sievewright/laws.FnSlice", spec := "fnSlice", inPlace := ["internal/reflectlite.ValueOf", "internal/reflectlite.Swapper", "(internal/reflectlite.Value).Len"], unfollowed := true, recurses := true, apart := false }
def FnSliceSaid : Prop := fnSliceRow.holds Try.pinned (OpenSpec.ofChange fnSliceSpec)

/-- ITS FALSE NEIGHBOUR: 'it returns false'. Refute it at one input. -/
def fnSliceWrong : ChangeSpec := { name := "fnSlice", fn := fun _ => fun
  | [d1, d2] => { results := [.lit (.bool false)], args := [d1, d2] }
  | _ => none }
def FnSliceWrongFalsely : Prop := fnSliceRow.holds Try.pinned (OpenSpec.ofChange fnSliceWrong)

/-- 'laws.FnSliceAny': WHATEVER THE INPUT: true; the input reads as it did. -/
def fnSliceAnySpec : ChangeSpec := { name := "fnSliceAny", fn := fun _ => fun
  | [d1, d2] => { results := [.lit (.bool true)], args := [d1, d2] }
  | _ => none }
def fnSliceAnyRow : OpenClaim := { program := "ytaifikhgijnkgaa", sum := "fb6f6d8473247ffa131a66747324f3ffc8faf5ee2a4256cd3d4d808d9db7b4d0", func := "lib-sievewright/laws.FnSliceAny", spec := "fnSliceAny", inPlace := ["internal/reflectlite.ValueOf", "internal/reflectlite.Swapper", "(internal/reflectlite.Value).Len"], unfollowed := true, recurses := true, apart := false }
def FnSliceAnySaid : Prop := fnSliceAnyRow.holds Try.pinned (OpenSpec.ofChange fnSliceAnySpec)

/-- ITS FALSE NEIGHBOUR: 'it returns false'. Refute it at one input. -/
def fnSliceAnyWrong : ChangeSpec := { name := "fnSliceAny", fn := fun _ => fun
  | [d1, d2] => { results := [.lit (.bool false)], args := [d1, d2] }
  | _ => none }
def FnSliceAnyWrongFalsely : Prop := fnSliceAnyRow.holds Try.pinned (OpenSpec.ofChange fnSliceAnyWrong)

/- THE SECOND FORM. 'bulk': how many values and letters a reading holds, each counted each time it is reached (what is shared counts as often as it is met; a slice's spare places count too). A statement '..UptoSaid' is the law's where the arguments, and the package variables that the reading takes, are together of bulk at most 1048576: NARROWER than '..Said'. Prove '..Said' where nothing that the law and all that it calls make is longer than what came in: it says more and counts as full. Else prove '..UptoSaid'. A law counts once. -/
mutual
def uptoBulk {H : Type} : DataW H → Nat
  | .lit (.string bytes) => bytes.length + 1
  | .lit _ => 1
  | .nil => 1
  | .ptr d => uptoBulk d + 1
  | .slice elems spare => uptoBulkAll elems + uptoBulkAll spare + 1
  | .agg parts => uptoBulkAll parts + 1
  | .iface _ d => uptoBulk d + 1
  | .map entries => uptoBulkEntries entries + 1
  | .held _ => 1
def uptoBulkAll {H : Type} : List (DataW H) → Nat
  | [] => 0
  | d :: r => uptoBulk d + uptoBulkAll r
def uptoBulkEntries {H : Type} : List (Lit × DataW H) → Nat
  | [] => 0
  | x :: r => uptoBulkEntry x + uptoBulkEntries r
def uptoBulkEntry {H : Type} : Lit × DataW H → Nat
  | (.string bytes, d) => bytes.length + uptoBulk d + 1
  | (_, d) => uptoBulk d + 1
 end
def uptoSmall : (H : Type) → List (DataW H) → Bool := fun _ ds => decide (uptoBulkAll ds ≤ 1048576)
def OpenSpec.upto (s : _root_.Go.ChangeSpec) : _root_.Go.OpenSpec := { _root_.Go.OpenSpec.ofChange s with cond := some uptoSmall }

/-- 'laws.FnIntLen', WHERE WHAT IT READS IS OF BULK AT MOST 1048576: true; the input reads as it did. -/
def fnIntLenUptoRow : OpenClaim := { program := "ytaifikhgijnkgaa", sum := "fb6f6d8473247ffa131a66747324f3ffc8faf5ee2a4256cd3d4d808d9db7b4d0", func := "lib-sievewright/laws.FnIntLen", spec := "fnIntLen", apart := false, narrowed := true }
def FnIntLenUptoSaid : Prop := fnIntLenUptoRow.holds Try.pinned (OpenSpec.upto fnIntLenSpec)

/-- 'laws.FnIntLess', WHERE WHAT IT READS IS OF BULK AT MOST 1048576: true; the input reads as it did. -/
def fnIntLessUptoRow : OpenClaim := { program := "ytaifikhgijnkgaa", sum := "fb6f6d8473247ffa131a66747324f3ffc8faf5ee2a4256cd3d4d808d9db7b4d0", func := "lib-sievewright/laws.FnIntLess", spec := "fnIntLess", apart := false, narrowed := true }
def FnIntLessUptoSaid : Prop := fnIntLessUptoRow.holds Try.pinned (OpenSpec.upto fnIntLessSpec)

/-- 'laws.FnStringLess', WHERE WHAT IT READS IS OF BULK AT MOST 1048576: true; the input reads as it did. -/
def fnStringLessUptoRow : OpenClaim := { program := "ytaifikhgijnkgaa", sum := "fb6f6d8473247ffa131a66747324f3ffc8faf5ee2a4256cd3d4d808d9db7b4d0", func := "lib-sievewright/laws.FnStringLess", spec := "fnStringLess", apart := false, narrowed := true }
def FnStringLessUptoSaid : Prop := fnStringLessUptoRow.holds Try.pinned (OpenSpec.upto fnStringLessSpec)

/-- 'laws.FnStringLessTotal', WHERE WHAT IT READS IS OF BULK AT MOST 1048576: true; the input reads as it did. -/
def fnStringLessTotalUptoRow : OpenClaim := { program := "ytaifikhgijnkgaa", sum := "fb6f6d8473247ffa131a66747324f3ffc8faf5ee2a4256cd3d4d808d9db7b4d0", func := "lib-sievewright/laws.FnStringLessTotal", spec := "fnStringLessTotal", apart := false, narrowed := true }
def FnStringLessTotalUptoSaid : Prop := fnStringLessTotalUptoRow.holds Try.pinned (OpenSpec.upto fnStringLessTotalSpec)

/-- 'laws.FnSliceThenSorted', WHERE WHAT IT READS IS OF BULK AT MOST 1048576: true; the input reads as it did. -/
def fnSliceThenSortedUptoRow : OpenClaim := { program := "ytaifikhgijnkgaa", sum := "fb6f6d8473247ffa131a66747324f3ffc8faf5ee2a4256cd3d4d808d9db7b4d0", func := "lib-sievewright/laws.FnSliceThenSorted", spec := "fnSliceThenSorted", inPlace := ["internal/reflectlite.ValueOf", "internal/reflectlite.Swapper", "(internal/reflectlite.Value).Len"], unfollowed := true, recurses := true, apart := false, narrowed := true }
def FnSliceThenSortedUptoSaid : Prop := fnSliceThenSortedUptoRow.holds Try.pinned (OpenSpec.upto fnSliceThenSortedSpec)

/-- 'laws.FnIntSwap', WHERE WHAT IT READS IS OF BULK AT MOST 1048576: true; the input reads as it did. -/
def fnIntSwapUptoRow : OpenClaim := { program := "ytaifikhgijnkgaa", sum := "fb6f6d8473247ffa131a66747324f3ffc8faf5ee2a4256cd3d4d808d9db7b4d0", func := "lib-sievewright/laws.FnIntSwap", spec := "fnIntSwap", apart := false, narrowed := true }
def FnIntSwapUptoSaid : Prop := fnIntSwapUptoRow.holds Try.pinned (OpenSpec.upto fnIntSwapSpec)

/-- 'laws.FnIntSwapTwice', WHERE WHAT IT READS IS OF BULK AT MOST 1048576: true; the input reads as it did. -/
def fnIntSwapTwiceUptoRow : OpenClaim := { program := "ytaifikhgijnkgaa", sum := "fb6f6d8473247ffa131a66747324f3ffc8faf5ee2a4256cd3d4d808d9db7b4d0", func := "lib-sievewright/laws.FnIntSwapTwice", spec := "fnIntSwapTwice", apart := false, narrowed := true }
def FnIntSwapTwiceUptoSaid : Prop := fnIntSwapTwiceUptoRow.holds Try.pinned (OpenSpec.upto fnIntSwapTwiceSpec)

/-- 'laws.FnIntLessTotal', WHERE WHAT IT READS IS OF BULK AT MOST 1048576: true; the input reads as it did. -/
def fnIntLessTotalUptoRow : OpenClaim := { program := "ytaifikhgijnkgaa", sum := "fb6f6d8473247ffa131a66747324f3ffc8faf5ee2a4256cd3d4d808d9db7b4d0", func := "lib-sievewright/laws.FnIntLessTotal", spec := "fnIntLessTotal", apart := false, narrowed := true }
def FnIntLessTotalUptoSaid : Prop := fnIntLessTotalUptoRow.holds Try.pinned (OpenSpec.upto fnIntLessTotalSpec)

/-- 'laws.FnFloatSortsAgree', WHERE WHAT IT READS IS OF BULK AT MOST 1048576: true; the input reads as it did. -/
def fnFloatSortsAgreeUptoRow : OpenClaim := { program := "ytaifikhgijnkgaa", sum := "fb6f6d8473247ffa131a66747324f3ffc8faf5ee2a4256cd3d4d808d9db7b4d0", func := "lib-sievewright/laws.FnFloatSortsAgree", spec := "fnFloatSortsAgree", inPlace := ["math.Float64frombits", "math.Float64bits"], unfollowed := true, recurses := true, apart := false, narrowed := true }
def FnFloatSortsAgreeUptoSaid : Prop := fnFloatSortsAgreeUptoRow.holds Try.pinned (OpenSpec.upto fnFloatSortsAgreeSpec)

/-- 'laws.FnFloat64Less', WHERE WHAT IT READS IS OF BULK AT MOST 1048576: true; the input reads as it did. -/
def fnFloat64LessUptoRow : OpenClaim := { program := "ytaifikhgijnkgaa", sum := "fb6f6d8473247ffa131a66747324f3ffc8faf5ee2a4256cd3d4d808d9db7b4d0", func := "lib-sievewright/laws.FnFloat64Less", spec := "fnFloat64Less", inPlace := ["math.Float64frombits"], apart := false, narrowed := true }
def FnFloat64LessUptoSaid : Prop := fnFloat64LessUptoRow.holds Try.pinned (OpenSpec.upto fnFloat64LessSpec)

/-- 'laws.FnReverseSwap', WHERE WHAT IT READS IS OF BULK AT MOST 1048576: true; the input reads as it did. -/
def fnReverseSwapUptoRow : OpenClaim := { program := "ytaifikhgijnkgaa", sum := "fb6f6d8473247ffa131a66747324f3ffc8faf5ee2a4256cd3d4d808d9db7b4d0", func := "lib-sievewright/laws.FnReverseSwap", spec := "fnReverseSwap", unfollowed := true, recurses := true, apart := false, narrowed := true }
def FnReverseSwapUptoSaid : Prop := fnReverseSwapUptoRow.holds Try.pinned (OpenSpec.upto fnReverseSwapSpec)

/-- 'laws.FnReverseLess', WHERE WHAT IT READS IS OF BULK AT MOST 1048576: true; the input reads as it did. -/
def fnReverseLessUptoRow : OpenClaim := { program := "ytaifikhgijnkgaa", sum := "fb6f6d8473247ffa131a66747324f3ffc8faf5ee2a4256cd3d4d808d9db7b4d0", func := "lib-sievewright/laws.FnReverseLess", spec := "fnReverseLess", unfollowed := true, recurses := true, apart := false, narrowed := true }
def FnReverseLessUptoSaid : Prop := fnReverseLessUptoRow.holds Try.pinned (OpenSpec.upto fnReverseLessSpec)

/-- 'laws.FnIntSearch', WHERE WHAT IT READS IS OF BULK AT MOST 1048576: true; the input reads as it did. -/
def fnIntSearchUptoRow : OpenClaim := { program := "ytaifikhgijnkgaa", sum := "fb6f6d8473247ffa131a66747324f3ffc8faf5ee2a4256cd3d4d808d9db7b4d0", func := "lib-sievewright/laws.FnIntSearch", spec := "fnIntSearch", unfollowed := true, recurses := true, apart := false, narrowed := true }
def FnIntSearchUptoSaid : Prop := fnIntSearchUptoRow.holds Try.pinned (OpenSpec.upto fnIntSearchSpec)

/-- 'laws.FnSliceReversed', WHERE WHAT IT READS IS OF BULK AT MOST 1048576: true; the input reads as it did. -/
def fnSliceReversedUptoRow : OpenClaim := { program := "ytaifikhgijnkgaa", sum := "fb6f6d8473247ffa131a66747324f3ffc8faf5ee2a4256cd3d4d808d9db7b4d0", func := "lib-sievewright/laws.FnSliceReversed", spec := "fnSliceReversed", inPlace := ["internal/reflectlite.ValueOf", "internal/reflectlite.Swapper", "(internal/reflectlite.Value).Len"], unfollowed := true, recurses := true, apart := false, narrowed := true }
def FnSliceReversedUptoSaid : Prop := fnSliceReversedUptoRow.holds Try.pinned (OpenSpec.upto fnSliceReversedSpec)

/-- 'laws.FnStringSearch', WHERE WHAT IT READS IS OF BULK AT MOST 1048576: true; the input reads as it did. -/
def fnStringSearchUptoRow : OpenClaim := { program := "ytaifikhgijnkgaa", sum := "fb6f6d8473247ffa131a66747324f3ffc8faf5ee2a4256cd3d4d808d9db7b4d0", func := "lib-sievewright/laws.FnStringSearch", spec := "fnStringSearch", unfollowed := true, recurses := true, apart := false, narrowed := true }
def FnStringSearchUptoSaid : Prop := fnStringSearchUptoRow.holds Try.pinned (OpenSpec.upto fnStringSearchSpec)

/-- 'laws.FnReverseIsSorted', WHERE WHAT IT READS IS OF BULK AT MOST 1048576: true; the input reads as it did. -/
def fnReverseIsSortedUptoRow : OpenClaim := { program := "ytaifikhgijnkgaa", sum := "fb6f6d8473247ffa131a66747324f3ffc8faf5ee2a4256cd3d4d808d9db7b4d0", func := "lib-sievewright/laws.FnReverseIsSorted", spec := "fnReverseIsSorted", unfollowed := true, recurses := true, apart := false, narrowed := true }
def FnReverseIsSortedUptoSaid : Prop := fnReverseIsSortedUptoRow.holds Try.pinned (OpenSpec.upto fnReverseIsSortedSpec)

/-- 'laws.FnFloat64sAreSorted', WHERE WHAT IT READS IS OF BULK AT MOST 1048576: true; the input reads as it did. -/
def fnFloat64sAreSortedUptoRow : OpenClaim := { program := "ytaifikhgijnkgaa", sum := "fb6f6d8473247ffa131a66747324f3ffc8faf5ee2a4256cd3d4d808d9db7b4d0", func := "lib-sievewright/laws.FnFloat64sAreSorted", spec := "fnFloat64sAreSorted", inPlace := ["math.Float64frombits"], apart := false, narrowed := true }
def FnFloat64sAreSortedUptoSaid : Prop := fnFloat64sAreSortedUptoRow.holds Try.pinned (OpenSpec.upto fnFloat64sAreSortedSpec)

/-- 'laws.FnFloatSortedByLess', WHERE WHAT IT READS IS OF BULK AT MOST 1048576: true; the input reads as it did. -/
def fnFloatSortedByLessUptoRow : OpenClaim := { program := "ytaifikhgijnkgaa", sum := "fb6f6d8473247ffa131a66747324f3ffc8faf5ee2a4256cd3d4d808d9db7b4d0", func := "lib-sievewright/laws.FnFloatSortedByLess", spec := "fnFloatSortedByLess", inPlace := ["math.Float64frombits"], apart := false, narrowed := true }
def FnFloatSortedByLessUptoSaid : Prop := fnFloatSortedByLessUptoRow.holds Try.pinned (OpenSpec.upto fnFloatSortedByLessSpec)

/-- 'laws.FnSliceIsSorted', WHERE WHAT IT READS IS OF BULK AT MOST 1048576: true; the input reads as it did. -/
def fnSliceIsSortedUptoRow : OpenClaim := { program := "ytaifikhgijnkgaa", sum := "fb6f6d8473247ffa131a66747324f3ffc8faf5ee2a4256cd3d4d808d9db7b4d0", func := "lib-sievewright/laws.FnSliceIsSorted", spec := "fnSliceIsSorted", inPlace := ["internal/reflectlite.ValueOf", "(internal/reflectlite.Value).Len"], unfollowed := true, recurses := true, apart := false, narrowed := true }
def FnSliceIsSortedUptoSaid : Prop := fnSliceIsSortedUptoRow.holds Try.pinned (OpenSpec.upto fnSliceIsSortedSpec)

/-- 'laws.FnReverseStable', WHERE WHAT IT READS IS OF BULK AT MOST 1048576: true; the input reads as it did. -/
def fnReverseStableUptoRow : OpenClaim := { program := "ytaifikhgijnkgaa", sum := "fb6f6d8473247ffa131a66747324f3ffc8faf5ee2a4256cd3d4d808d9db7b4d0", func := "lib-sievewright/laws.FnReverseStable", spec := "fnReverseStable", unfollowed := true, recurses := true, apart := false, narrowed := true }
def FnReverseStableUptoSaid : Prop := fnReverseStableUptoRow.holds Try.pinned (OpenSpec.upto fnReverseStableSpec)

/-- 'laws.FnReverseStableOfReversed', WHERE WHAT IT READS IS OF BULK AT MOST 1048576: true; the input reads as it did. -/
def fnReverseStableOfReversedUptoRow : OpenClaim := { program := "ytaifikhgijnkgaa", sum := "fb6f6d8473247ffa131a66747324f3ffc8faf5ee2a4256cd3d4d808d9db7b4d0", func := "lib-sievewright/laws.FnReverseStableOfReversed", spec := "fnReverseStableOfReversed", unfollowed := true, recurses := true, apart := false, narrowed := true }
def FnReverseStableOfReversedUptoSaid : Prop := fnReverseStableOfReversedUptoRow.holds Try.pinned (OpenSpec.upto fnReverseStableOfReversedSpec)

/-- 'laws.FnIntSort', WHERE WHAT IT READS IS OF BULK AT MOST 1048576: true; the input reads as it did. -/
def fnIntSortUptoRow : OpenClaim := { program := "ytaifikhgijnkgaa", sum := "fb6f6d8473247ffa131a66747324f3ffc8faf5ee2a4256cd3d4d808d9db7b4d0", func := "lib-sievewright/laws.FnIntSort", spec := "fnIntSort", unfollowed := true, recurses := true, apart := false, narrowed := true }
def FnIntSortUptoSaid : Prop := fnIntSortUptoRow.holds Try.pinned (OpenSpec.upto fnIntSortSpec)

/-- 'laws.FnStringSort', WHERE WHAT IT READS IS OF BULK AT MOST 1048576: true; the input reads as it did. -/
def fnStringSortUptoRow : OpenClaim := { program := "ytaifikhgijnkgaa", sum := "fb6f6d8473247ffa131a66747324f3ffc8faf5ee2a4256cd3d4d808d9db7b4d0", func := "lib-sievewright/laws.FnStringSort", spec := "fnStringSort", unfollowed := true, recurses := true, apart := false, narrowed := true }
def FnStringSortUptoSaid : Prop := fnStringSortUptoRow.holds Try.pinned (OpenSpec.upto fnStringSortSpec)

/-- 'laws.FnReverseSort', WHERE WHAT IT READS IS OF BULK AT MOST 1048576: true; the input reads as it did. -/
def fnReverseSortUptoRow : OpenClaim := { program := "ytaifikhgijnkgaa", sum := "fb6f6d8473247ffa131a66747324f3ffc8faf5ee2a4256cd3d4d808d9db7b4d0", func := "lib-sievewright/laws.FnReverseSort", spec := "fnReverseSort", unfollowed := true, recurses := true, apart := false, narrowed := true }
def FnReverseSortUptoSaid : Prop := fnReverseSortUptoRow.holds Try.pinned (OpenSpec.upto fnReverseSortSpec)

/-- 'laws.FnFloat64s', WHERE WHAT IT READS IS OF BULK AT MOST 1048576: true; the input reads as it did. -/
def fnFloat64sUptoRow : OpenClaim := { program := "ytaifikhgijnkgaa", sum := "fb6f6d8473247ffa131a66747324f3ffc8faf5ee2a4256cd3d4d808d9db7b4d0", func := "lib-sievewright/laws.FnFloat64s", spec := "fnFloat64s", inPlace := ["math.Float64frombits", "math.Float64bits"], recurses := true, apart := false, narrowed := true }
def FnFloat64sUptoSaid : Prop := fnFloat64sUptoRow.holds Try.pinned (OpenSpec.upto fnFloat64sSpec)

/-- 'laws.FnFloat64sBits', WHERE WHAT IT READS IS OF BULK AT MOST 1048576: true; the input reads as it did. -/
def fnFloat64sBitsUptoRow : OpenClaim := { program := "ytaifikhgijnkgaa", sum := "fb6f6d8473247ffa131a66747324f3ffc8faf5ee2a4256cd3d4d808d9db7b4d0", func := "lib-sievewright/laws.FnFloat64sBits", spec := "fnFloat64sBits", inPlace := ["math.Float64frombits", "math.Float64bits"], recurses := true, apart := false, narrowed := true }
def FnFloat64sBitsUptoSaid : Prop := fnFloat64sBitsUptoRow.holds Try.pinned (OpenSpec.upto fnFloat64sBitsSpec)

/-- 'laws.FnFloat64Sort', WHERE WHAT IT READS IS OF BULK AT MOST 1048576: true; the input reads as it did. -/
def fnFloat64SortUptoRow : OpenClaim := { program := "ytaifikhgijnkgaa", sum := "fb6f6d8473247ffa131a66747324f3ffc8faf5ee2a4256cd3d4d808d9db7b4d0", func := "lib-sievewright/laws.FnFloat64Sort", spec := "fnFloat64Sort", inPlace := ["math.Float64frombits", "math.Float64bits"], unfollowed := true, recurses := true, apart := false, narrowed := true }
def FnFloat64SortUptoSaid : Prop := fnFloat64SortUptoRow.holds Try.pinned (OpenSpec.upto fnFloat64SortSpec)

/-- 'laws.FnFloat64SortBits', WHERE WHAT IT READS IS OF BULK AT MOST 1048576: true; the input reads as it did. -/
def fnFloat64SortBitsUptoRow : OpenClaim := { program := "ytaifikhgijnkgaa", sum := "fb6f6d8473247ffa131a66747324f3ffc8faf5ee2a4256cd3d4d808d9db7b4d0", func := "lib-sievewright/laws.FnFloat64SortBits", spec := "fnFloat64SortBits", inPlace := ["math.Float64frombits", "math.Float64bits"], unfollowed := true, recurses := true, apart := false, narrowed := true }
def FnFloat64SortBitsUptoSaid : Prop := fnFloat64SortBitsUptoRow.holds Try.pinned (OpenSpec.upto fnFloat64SortBitsSpec)

/-- 'laws.FnIntInserted', WHERE WHAT IT READS IS OF BULK AT MOST 1048576: true; the input reads as it did. -/
def fnIntInsertedUptoRow : OpenClaim := { program := "ytaifikhgijnkgaa", sum := "fb6f6d8473247ffa131a66747324f3ffc8faf5ee2a4256cd3d4d808d9db7b4d0", func := "lib-sievewright/laws.FnIntInserted", spec := "fnIntInserted", unfollowed := true, recurses := true, apart := false, narrowed := true }
def FnIntInsertedUptoSaid : Prop := fnIntInsertedUptoRow.holds Try.pinned (OpenSpec.upto fnIntInsertedSpec)

/-- 'laws.FnStringInserted', WHERE WHAT IT READS IS OF BULK AT MOST 1048576: true; the input reads as it did. -/
def fnStringInsertedUptoRow : OpenClaim := { program := "ytaifikhgijnkgaa", sum := "fb6f6d8473247ffa131a66747324f3ffc8faf5ee2a4256cd3d4d808d9db7b4d0", func := "lib-sievewright/laws.FnStringInserted", spec := "fnStringInserted", unfollowed := true, recurses := true, apart := false, narrowed := true }
def FnStringInsertedUptoSaid : Prop := fnStringInsertedUptoRow.holds Try.pinned (OpenSpec.upto fnStringInsertedSpec)

/-- 'laws.FnFloatFound', WHERE WHAT IT READS IS OF BULK AT MOST 1048576: true; the input reads as it did. -/
def fnFloatFoundUptoRow : OpenClaim := { program := "ytaifikhgijnkgaa", sum := "fb6f6d8473247ffa131a66747324f3ffc8faf5ee2a4256cd3d4d808d9db7b4d0", func := "lib-sievewright/laws.FnFloatFound", spec := "fnFloatFound", inPlace := ["math.Float64frombits", "math.Float64bits"], unfollowed := true, recurses := true, apart := false, narrowed := true }
def FnFloatFoundUptoSaid : Prop := fnFloatFoundUptoRow.holds Try.pinned (OpenSpec.upto fnFloatFoundSpec)

/-- 'laws.FnSearchFloat64s', WHERE WHAT IT READS IS OF BULK AT MOST 1048576: true; the input reads as it did. -/
def fnSearchFloat64sUptoRow : OpenClaim := { program := "ytaifikhgijnkgaa", sum := "fb6f6d8473247ffa131a66747324f3ffc8faf5ee2a4256cd3d4d808d9db7b4d0", func := "lib-sievewright/laws.FnSearchFloat64s", spec := "fnSearchFloat64s", inPlace := ["math.Float64frombits", "math.Float64bits"], unfollowed := true, recurses := true, apart := false, narrowed := true }
def FnSearchFloat64sUptoSaid : Prop := fnSearchFloat64sUptoRow.holds Try.pinned (OpenSpec.upto fnSearchFloat64sSpec)

/-- 'laws.FnFloat64Search', WHERE WHAT IT READS IS OF BULK AT MOST 1048576: true; the input reads as it did. -/
def fnFloat64SearchUptoRow : OpenClaim := { program := "ytaifikhgijnkgaa", sum := "fb6f6d8473247ffa131a66747324f3ffc8faf5ee2a4256cd3d4d808d9db7b4d0", func := "lib-sievewright/laws.FnFloat64Search", spec := "fnFloat64Search", inPlace := ["math.Float64frombits", "math.Float64bits"], unfollowed := true, recurses := true, apart := false, narrowed := true }
def FnFloat64SearchUptoSaid : Prop := fnFloat64SearchUptoRow.holds Try.pinned (OpenSpec.upto fnFloat64SearchSpec)

/-- 'laws.FnReverseThenSorted', WHERE WHAT IT READS IS OF BULK AT MOST 1048576: true; the input reads as it did. -/
def fnReverseThenSortedUptoRow : OpenClaim := { program := "ytaifikhgijnkgaa", sum := "fb6f6d8473247ffa131a66747324f3ffc8faf5ee2a4256cd3d4d808d9db7b4d0", func := "lib-sievewright/laws.FnReverseThenSorted", spec := "fnReverseThenSorted", inPlace := ["internal/reflectlite.ValueOf", "(internal/reflectlite.Value).Len"], unfollowed := true, recurses := true, apart := false, narrowed := true }
def FnReverseThenSortedUptoSaid : Prop := fnReverseThenSortedUptoRow.holds Try.pinned (OpenSpec.upto fnReverseThenSortedSpec)

/-- 'laws.FnSlice', WHERE WHAT IT READS IS OF BULK AT MOST 1048576: true; the input reads as it did. -/
def fnSliceUptoRow : OpenClaim := { program := "ytaifikhgijnkgaa", sum := "fb6f6d8473247ffa131a66747324f3ffc8faf5ee2a4256cd3d4d808d9db7b4d0", func := "lib-sievewright/laws.FnSlice", spec := "fnSlice", inPlace := ["internal/reflectlite.ValueOf", "internal/reflectlite.Swapper", "(internal/reflectlite.Value).Len"], unfollowed := true, recurses := true, apart := false, narrowed := true }
def FnSliceUptoSaid : Prop := fnSliceUptoRow.holds Try.pinned (OpenSpec.upto fnSliceSpec)

/-- 'laws.FnSliceAny', WHERE WHAT IT READS IS OF BULK AT MOST 1048576: true; the input reads as it did. -/
def fnSliceAnyUptoRow : OpenClaim := { program := "ytaifikhgijnkgaa", sum := "fb6f6d8473247ffa131a66747324f3ffc8faf5ee2a4256cd3d4d808d9db7b4d0", func := "lib-sievewright/laws.FnSliceAny", spec := "fnSliceAny", inPlace := ["internal/reflectlite.ValueOf", "internal/reflectlite.Swapper", "(internal/reflectlite.Value).Len"], unfollowed := true, recurses := true, apart := false, narrowed := true }
def FnSliceAnyUptoSaid : Prop := fnSliceAnyUptoRow.holds Try.pinned (OpenSpec.upto fnSliceAnySpec)

end Rows
end Go.Proofs.Ytaifikhgijnkgaa
