/-
  NARROWER THAN 'FOR EVERY INPUT', by the rows' own cells (each row's printed sentence says how): FnBehind: loops, laid · FnMatchAll: loops, laid · FnPlaces: loops, laid · FnRest: loops, laid · FnRewritten: loops, laid · FnWhole: loops, laid · FnMatch: loops, laid · FnOneByOne: loops, laid.
  DERIVED. THE GIVEN ROWS OF THIS SEAT. 8 by the template 'for every input the law returns true; each argument reads behind the call as it read before'; 0 by the template 'total and deterministic' (their statements: YtbcngfgemjdllaaGreatDoorTotals.lean).
  GIVEN WITH THE SEED: the statements are not yours to turn. If you find one false, say at which input.
  Laid BY PROGRAM, IN A SANDBOX (cutbox-rows.mjs): the forced cells as the released guide's own fill.sh prints them over the translation e6eb00a908cf4798… (all of the seat's roots in one cut). By AI agents, Wed Nov 11 2026. No macro, syntax, notation, axiom, sorry.
-/
import Derived.Test.YtbcngfgemjdllaaGreatDoorChecked
import GoSem.Claim
import GoSem.ClaimJoined
import GoSem.ClaimMapViews
import Derived.JoinedTies
import Derived.KernelRfl
namespace Go.Proofs.YtbcngfgemjdllaaGreatDoor
/- THE CELL 'sum', in the pinned program and in every row, IS THE sha256 OF THE DUMP (.gsa) THAT YtbcngfgemjdllaaGreatDoorProg.lean LOADS. Nothing in Lean hashes anything: it is a label: what it is worth is what the hold of that sum in a sandbox is worth. -/
noncomputable def Tryz.pinned : Pinned := { name := "ytbcngfgemjdllaagreatdoor", sum := "e6eb00a908cf479855d0dcd18edf1f7b556bf4c68ef3823f9af4121aca360f9a", checked := Tryz.checked }
namespace Rows
def none {H : Type} : Left H := { results := [], args := [] }

/- WHAT THE LISTED PACKAGE-LEVEL VARIABLES READ AS WHEN THE CALL BEGINS. Each datum BY PROGRAM (the guide's laid-datum.mjs) off the statement by which the dump's own 'gosem.cut.vars' lays the variable. In a bare row this is a premise. The card (YtbcngfgemjdllaaGreatDoorCards.lean) ties it to the program's text. -/
def laid_math_bits_deBruijn32tab {H : Type} : DataW H := .agg [.lit (.int .u8 0), .lit (.int .u8 1), .lit (.int .u8 28), .lit (.int .u8 2), .lit (.int .u8 29), .lit (.int .u8 14), .lit (.int .u8 24), .lit (.int .u8 3), .lit (.int .u8 30), .lit (.int .u8 22), .lit (.int .u8 20), .lit (.int .u8 15), .lit (.int .u8 25), .lit (.int .u8 17), .lit (.int .u8 4), .lit (.int .u8 8), .lit (.int .u8 31), .lit (.int .u8 27), .lit (.int .u8 13), .lit (.int .u8 23), .lit (.int .u8 21), .lit (.int .u8 19), .lit (.int .u8 16), .lit (.int .u8 7), .lit (.int .u8 26), .lit (.int .u8 12), .lit (.int .u8 18), .lit (.int .u8 6), .lit (.int .u8 11), .lit (.int .u8 5), .lit (.int .u8 10), .lit (.int .u8 9)]
def laid_math_bits_deBruijn64tab {H : Type} : DataW H := .agg [.lit (.int .u8 0), .lit (.int .u8 1), .lit (.int .u8 56), .lit (.int .u8 2), .lit (.int .u8 57), .lit (.int .u8 49), .lit (.int .u8 28), .lit (.int .u8 3), .lit (.int .u8 61), .lit (.int .u8 58), .lit (.int .u8 42), .lit (.int .u8 50), .lit (.int .u8 38), .lit (.int .u8 29), .lit (.int .u8 17), .lit (.int .u8 4), .lit (.int .u8 62), .lit (.int .u8 47), .lit (.int .u8 59), .lit (.int .u8 36), .lit (.int .u8 45), .lit (.int .u8 43), .lit (.int .u8 51), .lit (.int .u8 22), .lit (.int .u8 53), .lit (.int .u8 39), .lit (.int .u8 33), .lit (.int .u8 30), .lit (.int .u8 24), .lit (.int .u8 18), .lit (.int .u8 12), .lit (.int .u8 5), .lit (.int .u8 63), .lit (.int .u8 55), .lit (.int .u8 48), .lit (.int .u8 27), .lit (.int .u8 60), .lit (.int .u8 41), .lit (.int .u8 37), .lit (.int .u8 16), .lit (.int .u8 46), .lit (.int .u8 35), .lit (.int .u8 44), .lit (.int .u8 21), .lit (.int .u8 52), .lit (.int .u8 32), .lit (.int .u8 23), .lit (.int .u8 11), .lit (.int .u8 54), .lit (.int .u8 26), .lit (.int .u8 40), .lit (.int .u8 15), .lit (.int .u8 34), .lit (.int .u8 20), .lit (.int .u8 31), .lit (.int .u8 10), .lit (.int .u8 25), .lit (.int .u8 14), .lit (.int .u8 19), .lit (.int .u8 9), .lit (.int .u8 13), .lit (.int .u8 8), .lit (.int .u8 7), .lit (.int .u8 6)]
def laid_internal_strconv_uint64pow10 {H : Type} : DataW H := .agg [.lit (.int .u64 1), .lit (.int .u64 10), .lit (.int .u64 100), .lit (.int .u64 1000), .lit (.int .u64 10000), .lit (.int .u64 100000), .lit (.int .u64 1000000), .lit (.int .u64 10000000), .lit (.int .u64 100000000), .lit (.int .u64 1000000000), .lit (.int .u64 10000000000), .lit (.int .u64 100000000000), .lit (.int .u64 1000000000000), .lit (.int .u64 10000000000000), .lit (.int .u64 100000000000000), .lit (.int .u64 1000000000000000), .lit (.int .u64 10000000000000000), .lit (.int .u64 100000000000000000), .lit (.int .u64 1000000000000000000), .lit (.int .u64 10000000000000000000)]

/-- 'laws.FnBehind': WHATEVER THE INPUT: true; the input reads as it did. -/
def fnBehindSpec : ChangeSpec := { name := "fnBehind", fn := fun _ => fun
  | [d1, d2, d3] => { results := [.lit (.bool true)], args := [d1, d2, d3] }
  | _ => none }
def fnBehindRow : OpenClaim := { program := "ytbcngfgemjdllaagreatdoor", sum := "e6eb00a908cf479855d0dcd18edf1f7b556bf4c68ef3823f9af4121aca360f9a", func := "loop.example/pub-tokensoflexers/laws.FnBehind", spec := "fnBehind", unfollowed := true, recurses := true, named := ["internal/strconv.uint64pow10", "math/bits.deBruijn32tab", "math/bits.deBruijn64tab"], loops := true, plainKeys := false, apart := false, laid := [("math/bits.deBruijn32tab", laid_math_bits_deBruijn32tab), ("math/bits.deBruijn64tab", laid_math_bits_deBruijn64tab), ("internal/strconv.uint64pow10", laid_internal_strconv_uint64pow10)] }
def FnBehindSaid : Prop := fnBehindRow.holds Tryz.pinned (OpenSpec.ofChange fnBehindSpec)

/-- ITS FALSE NEIGHBOUR: 'it returns false'. Refute it at one input. -/
def fnBehindWrong : ChangeSpec := { name := "fnBehind", fn := fun _ => fun
  | [d1, d2, d3] => { results := [.lit (.bool false)], args := [d1, d2, d3] }
  | _ => none }
def FnBehindWrongFalsely : Prop := fnBehindRow.holds Tryz.pinned (OpenSpec.ofChange fnBehindWrong)

/-- 'laws.FnMatchAll': WHATEVER THE INPUT: true; the input reads as it did. -/
def fnMatchAllSpec : ChangeSpec := { name := "fnMatchAll", fn := fun _ => fun
  | [d1, d2] => { results := [.lit (.bool true)], args := [d1, d2] }
  | _ => none }
def fnMatchAllRow : OpenClaim := { program := "ytbcngfgemjdllaagreatdoor", sum := "e6eb00a908cf479855d0dcd18edf1f7b556bf4c68ef3823f9af4121aca360f9a", func := "loop.example/pub-tokensoflexers/laws.FnMatchAll", spec := "fnMatchAll", unfollowed := true, recurses := true, named := ["internal/strconv.uint64pow10", "math/bits.deBruijn32tab", "math/bits.deBruijn64tab"], loops := true, plainKeys := false, apart := false, laid := [("math/bits.deBruijn32tab", laid_math_bits_deBruijn32tab), ("math/bits.deBruijn64tab", laid_math_bits_deBruijn64tab), ("internal/strconv.uint64pow10", laid_internal_strconv_uint64pow10)] }
def FnMatchAllSaid : Prop := fnMatchAllRow.holds Tryz.pinned (OpenSpec.ofChange fnMatchAllSpec)

/-- ITS FALSE NEIGHBOUR: 'it returns false'. Refute it at one input. -/
def fnMatchAllWrong : ChangeSpec := { name := "fnMatchAll", fn := fun _ => fun
  | [d1, d2] => { results := [.lit (.bool false)], args := [d1, d2] }
  | _ => none }
def FnMatchAllWrongFalsely : Prop := fnMatchAllRow.holds Tryz.pinned (OpenSpec.ofChange fnMatchAllWrong)

/-- 'laws.FnPlaces': WHATEVER THE INPUT: true; the input reads as it did. -/
def fnPlacesSpec : ChangeSpec := { name := "fnPlaces", fn := fun _ => fun
  | [d1, d2] => { results := [.lit (.bool true)], args := [d1, d2] }
  | _ => none }
def fnPlacesRow : OpenClaim := { program := "ytbcngfgemjdllaagreatdoor", sum := "e6eb00a908cf479855d0dcd18edf1f7b556bf4c68ef3823f9af4121aca360f9a", func := "loop.example/pub-tokensoflexers/laws.FnPlaces", spec := "fnPlaces", unfollowed := true, recurses := true, named := ["internal/strconv.uint64pow10", "math/bits.deBruijn32tab", "math/bits.deBruijn64tab"], loops := true, plainKeys := false, apart := false, laid := [("math/bits.deBruijn32tab", laid_math_bits_deBruijn32tab), ("math/bits.deBruijn64tab", laid_math_bits_deBruijn64tab), ("internal/strconv.uint64pow10", laid_internal_strconv_uint64pow10)] }
def FnPlacesSaid : Prop := fnPlacesRow.holds Tryz.pinned (OpenSpec.ofChange fnPlacesSpec)

/-- ITS FALSE NEIGHBOUR: 'it returns false'. Refute it at one input. -/
def fnPlacesWrong : ChangeSpec := { name := "fnPlaces", fn := fun _ => fun
  | [d1, d2] => { results := [.lit (.bool false)], args := [d1, d2] }
  | _ => none }
def FnPlacesWrongFalsely : Prop := fnPlacesRow.holds Tryz.pinned (OpenSpec.ofChange fnPlacesWrong)

/-- 'laws.FnRest': WHATEVER THE INPUT: true; the input reads as it did. -/
def fnRestSpec : ChangeSpec := { name := "fnRest", fn := fun _ => fun
  | [d1, d2] => { results := [.lit (.bool true)], args := [d1, d2] }
  | _ => none }
def fnRestRow : OpenClaim := { program := "ytbcngfgemjdllaagreatdoor", sum := "e6eb00a908cf479855d0dcd18edf1f7b556bf4c68ef3823f9af4121aca360f9a", func := "loop.example/pub-tokensoflexers/laws.FnRest", spec := "fnRest", unfollowed := true, recurses := true, named := ["internal/strconv.uint64pow10", "math/bits.deBruijn32tab", "math/bits.deBruijn64tab"], loops := true, plainKeys := false, apart := false, laid := [("math/bits.deBruijn32tab", laid_math_bits_deBruijn32tab), ("math/bits.deBruijn64tab", laid_math_bits_deBruijn64tab), ("internal/strconv.uint64pow10", laid_internal_strconv_uint64pow10)] }
def FnRestSaid : Prop := fnRestRow.holds Tryz.pinned (OpenSpec.ofChange fnRestSpec)

/-- ITS FALSE NEIGHBOUR: 'it returns false'. Refute it at one input. -/
def fnRestWrong : ChangeSpec := { name := "fnRest", fn := fun _ => fun
  | [d1, d2] => { results := [.lit (.bool false)], args := [d1, d2] }
  | _ => none }
def FnRestWrongFalsely : Prop := fnRestRow.holds Tryz.pinned (OpenSpec.ofChange fnRestWrong)

/-- 'laws.FnRewritten': WHATEVER THE INPUT: true; the input reads as it did. -/
def fnRewrittenSpec : ChangeSpec := { name := "fnRewritten", fn := fun _ => fun
  | [d1, d2] => { results := [.lit (.bool true)], args := [d1, d2] }
  | _ => none }
def fnRewrittenRow : OpenClaim := { program := "ytbcngfgemjdllaagreatdoor", sum := "e6eb00a908cf479855d0dcd18edf1f7b556bf4c68ef3823f9af4121aca360f9a", func := "loop.example/pub-tokensoflexers/laws.FnRewritten", spec := "fnRewritten", unfollowed := true, recurses := true, named := ["internal/strconv.uint64pow10", "math/bits.deBruijn32tab", "math/bits.deBruijn64tab"], loops := true, plainKeys := false, apart := false, laid := [("math/bits.deBruijn32tab", laid_math_bits_deBruijn32tab), ("math/bits.deBruijn64tab", laid_math_bits_deBruijn64tab), ("internal/strconv.uint64pow10", laid_internal_strconv_uint64pow10)] }
def FnRewrittenSaid : Prop := fnRewrittenRow.holds Tryz.pinned (OpenSpec.ofChange fnRewrittenSpec)

/-- ITS FALSE NEIGHBOUR: 'it returns false'. Refute it at one input. -/
def fnRewrittenWrong : ChangeSpec := { name := "fnRewritten", fn := fun _ => fun
  | [d1, d2] => { results := [.lit (.bool false)], args := [d1, d2] }
  | _ => none }
def FnRewrittenWrongFalsely : Prop := fnRewrittenRow.holds Tryz.pinned (OpenSpec.ofChange fnRewrittenWrong)

/-- 'laws.FnWhole': WHATEVER THE INPUT: true; the input reads as it did. -/
def fnWholeSpec : ChangeSpec := { name := "fnWhole", fn := fun _ => fun
  | [d1, d2] => { results := [.lit (.bool true)], args := [d1, d2] }
  | _ => none }
def fnWholeRow : OpenClaim := { program := "ytbcngfgemjdllaagreatdoor", sum := "e6eb00a908cf479855d0dcd18edf1f7b556bf4c68ef3823f9af4121aca360f9a", func := "loop.example/pub-tokensoflexers/laws.FnWhole", spec := "fnWhole", unfollowed := true, recurses := true, named := ["internal/strconv.uint64pow10", "math/bits.deBruijn32tab", "math/bits.deBruijn64tab"], loops := true, plainKeys := false, apart := false, laid := [("math/bits.deBruijn32tab", laid_math_bits_deBruijn32tab), ("math/bits.deBruijn64tab", laid_math_bits_deBruijn64tab), ("internal/strconv.uint64pow10", laid_internal_strconv_uint64pow10)] }
def FnWholeSaid : Prop := fnWholeRow.holds Tryz.pinned (OpenSpec.ofChange fnWholeSpec)

/-- ITS FALSE NEIGHBOUR: 'it returns false'. Refute it at one input. -/
def fnWholeWrong : ChangeSpec := { name := "fnWhole", fn := fun _ => fun
  | [d1, d2] => { results := [.lit (.bool false)], args := [d1, d2] }
  | _ => none }
def FnWholeWrongFalsely : Prop := fnWholeRow.holds Tryz.pinned (OpenSpec.ofChange fnWholeWrong)

/-- 'laws.FnMatch': WHATEVER THE INPUT: true; the input reads as it did. -/
def fnMatchSpec : ChangeSpec := { name := "fnMatch", fn := fun _ => fun
  | [d1, d2, d3] => { results := [.lit (.bool true)], args := [d1, d2, d3] }
  | _ => none }
def fnMatchRow : OpenClaim := { program := "ytbcngfgemjdllaagreatdoor", sum := "e6eb00a908cf479855d0dcd18edf1f7b556bf4c68ef3823f9af4121aca360f9a", func := "loop.example/pub-tokensoflexers/laws.FnMatch", spec := "fnMatch", unfollowed := true, recurses := true, named := ["internal/strconv.uint64pow10", "math/bits.deBruijn32tab", "math/bits.deBruijn64tab"], loops := true, plainKeys := false, apart := false, laid := [("math/bits.deBruijn32tab", laid_math_bits_deBruijn32tab), ("math/bits.deBruijn64tab", laid_math_bits_deBruijn64tab), ("internal/strconv.uint64pow10", laid_internal_strconv_uint64pow10)] }
def FnMatchSaid : Prop := fnMatchRow.holds Tryz.pinned (OpenSpec.ofChange fnMatchSpec)

/-- ITS FALSE NEIGHBOUR: 'it returns false'. Refute it at one input. -/
def fnMatchWrong : ChangeSpec := { name := "fnMatch", fn := fun _ => fun
  | [d1, d2, d3] => { results := [.lit (.bool false)], args := [d1, d2, d3] }
  | _ => none }
def FnMatchWrongFalsely : Prop := fnMatchRow.holds Tryz.pinned (OpenSpec.ofChange fnMatchWrong)

/-- 'laws.FnOneByOne': WHATEVER THE INPUT: true; the input reads as it did. -/
def fnOneByOneSpec : ChangeSpec := { name := "fnOneByOne", fn := fun _ => fun
  | [d1, d2] => { results := [.lit (.bool true)], args := [d1, d2] }
  | _ => none }
def fnOneByOneRow : OpenClaim := { program := "ytbcngfgemjdllaagreatdoor", sum := "e6eb00a908cf479855d0dcd18edf1f7b556bf4c68ef3823f9af4121aca360f9a", func := "loop.example/pub-tokensoflexers/laws.FnOneByOne", spec := "fnOneByOne", unfollowed := true, recurses := true, named := ["internal/strconv.uint64pow10", "math/bits.deBruijn32tab", "math/bits.deBruijn64tab"], loops := true, plainKeys := false, apart := false, laid := [("math/bits.deBruijn32tab", laid_math_bits_deBruijn32tab), ("math/bits.deBruijn64tab", laid_math_bits_deBruijn64tab), ("internal/strconv.uint64pow10", laid_internal_strconv_uint64pow10)] }
def FnOneByOneSaid : Prop := fnOneByOneRow.holds Tryz.pinned (OpenSpec.ofChange fnOneByOneSpec)

/-- ITS FALSE NEIGHBOUR: 'it returns false'. Refute it at one input. -/
def fnOneByOneWrong : ChangeSpec := { name := "fnOneByOne", fn := fun _ => fun
  | [d1, d2] => { results := [.lit (.bool false)], args := [d1, d2] }
  | _ => none }
def FnOneByOneWrongFalsely : Prop := fnOneByOneRow.holds Tryz.pinned (OpenSpec.ofChange fnOneByOneWrong)

/- THE SECOND FORM. 'bulk': how many values and letters a reading holds, each counted each time it is reached (what is shared counts as often as it is met; a slice's spare places count too). A statement '..UptoSaid' is the law's where the arguments, and the package variables that the reading takes, are together of bulk at most 1048576: NARROWER than '..Said'. Prove '..Said' where nothing that the law and all that it calls make is longer than what came in: it says more and counts as full. Else prove '..UptoSaid'. A law counts once. -/
mutual
def uptoBulk {H : Type} : DataW H → Nat
  | .lit (.string bytes) => bytes.length + 1
  | .lit _ => 1
  | .nil => 1
  | .ptr d => uptoBulk d + 1
  | .slice elems spare => uptoBulkAll elems + uptoBulkAll spare + 1
  | .agg parts => uptoBulkAll parts + 1
  | .iface _ d => uptoBulk d + 1
  | .map entries => uptoBulkEntries entries + 1
  | .held _ => 1
def uptoBulkAll {H : Type} : List (DataW H) → Nat
  | [] => 0
  | d :: r => uptoBulk d + uptoBulkAll r
def uptoBulkEntries {H : Type} : List (Lit × DataW H) → Nat
  | [] => 0
  | x :: r => uptoBulkEntry x + uptoBulkEntries r
def uptoBulkEntry {H : Type} : Lit × DataW H → Nat
  | (.string bytes, d) => bytes.length + uptoBulk d + 1
  | (_, d) => uptoBulk d + 1
 end
def uptoSmall : (H : Type) → List (DataW H) → Bool := fun _ ds => decide (uptoBulkAll ds ≤ 1048576)
def OpenSpec.upto (s : _root_.Go.ChangeSpec) : _root_.Go.OpenSpec := { _root_.Go.OpenSpec.ofChange s with cond := some uptoSmall }

/-- 'laws.FnBehind', WHERE WHAT IT READS IS OF BULK AT MOST 1048576: true; the input reads as it did. -/
def fnBehindUptoRow : OpenClaim := { program := "ytbcngfgemjdllaagreatdoor", sum := "e6eb00a908cf479855d0dcd18edf1f7b556bf4c68ef3823f9af4121aca360f9a", func := "loop.example/pub-tokensoflexers/laws.FnBehind", spec := "fnBehind", unfollowed := true, recurses := true, named := ["internal/strconv.uint64pow10", "math/bits.deBruijn32tab", "math/bits.deBruijn64tab"], loops := true, plainKeys := false, apart := false, laid := [("math/bits.deBruijn32tab", laid_math_bits_deBruijn32tab), ("math/bits.deBruijn64tab", laid_math_bits_deBruijn64tab), ("internal/strconv.uint64pow10", laid_internal_strconv_uint64pow10)], narrowed := true }
def FnBehindUptoSaid : Prop := fnBehindUptoRow.holds Tryz.pinned (OpenSpec.upto fnBehindSpec)

/-- 'laws.FnMatchAll', WHERE WHAT IT READS IS OF BULK AT MOST 1048576: true; the input reads as it did. -/
def fnMatchAllUptoRow : OpenClaim := { program := "ytbcngfgemjdllaagreatdoor", sum := "e6eb00a908cf479855d0dcd18edf1f7b556bf4c68ef3823f9af4121aca360f9a", func := "loop.example/pub-tokensoflexers/laws.FnMatchAll", spec := "fnMatchAll", unfollowed := true, recurses := true, named := ["internal/strconv.uint64pow10", "math/bits.deBruijn32tab", "math/bits.deBruijn64tab"], loops := true, plainKeys := false, apart := false, laid := [("math/bits.deBruijn32tab", laid_math_bits_deBruijn32tab), ("math/bits.deBruijn64tab", laid_math_bits_deBruijn64tab), ("internal/strconv.uint64pow10", laid_internal_strconv_uint64pow10)], narrowed := true }
def FnMatchAllUptoSaid : Prop := fnMatchAllUptoRow.holds Tryz.pinned (OpenSpec.upto fnMatchAllSpec)

/-- 'laws.FnPlaces', WHERE WHAT IT READS IS OF BULK AT MOST 1048576: true; the input reads as it did. -/
def fnPlacesUptoRow : OpenClaim := { program := "ytbcngfgemjdllaagreatdoor", sum := "e6eb00a908cf479855d0dcd18edf1f7b556bf4c68ef3823f9af4121aca360f9a", func := "loop.example/pub-tokensoflexers/laws.FnPlaces", spec := "fnPlaces", unfollowed := true, recurses := true, named := ["internal/strconv.uint64pow10", "math/bits.deBruijn32tab", "math/bits.deBruijn64tab"], loops := true, plainKeys := false, apart := false, laid := [("math/bits.deBruijn32tab", laid_math_bits_deBruijn32tab), ("math/bits.deBruijn64tab", laid_math_bits_deBruijn64tab), ("internal/strconv.uint64pow10", laid_internal_strconv_uint64pow10)], narrowed := true }
def FnPlacesUptoSaid : Prop := fnPlacesUptoRow.holds Tryz.pinned (OpenSpec.upto fnPlacesSpec)

/-- 'laws.FnRest', WHERE WHAT IT READS IS OF BULK AT MOST 1048576: true; the input reads as it did. -/
def fnRestUptoRow : OpenClaim := { program := "ytbcngfgemjdllaagreatdoor", sum := "e6eb00a908cf479855d0dcd18edf1f7b556bf4c68ef3823f9af4121aca360f9a", func := "loop.example/pub-tokensoflexers/laws.FnRest", spec := "fnRest", unfollowed := true, recurses := true, named := ["internal/strconv.uint64pow10", "math/bits.deBruijn32tab", "math/bits.deBruijn64tab"], loops := true, plainKeys := false, apart := false, laid := [("math/bits.deBruijn32tab", laid_math_bits_deBruijn32tab), ("math/bits.deBruijn64tab", laid_math_bits_deBruijn64tab), ("internal/strconv.uint64pow10", laid_internal_strconv_uint64pow10)], narrowed := true }
def FnRestUptoSaid : Prop := fnRestUptoRow.holds Tryz.pinned (OpenSpec.upto fnRestSpec)

/-- 'laws.FnRewritten', WHERE WHAT IT READS IS OF BULK AT MOST 1048576: true; the input reads as it did. -/
def fnRewrittenUptoRow : OpenClaim := { program := "ytbcngfgemjdllaagreatdoor", sum := "e6eb00a908cf479855d0dcd18edf1f7b556bf4c68ef3823f9af4121aca360f9a", func := "loop.example/pub-tokensoflexers/laws.FnRewritten", spec := "fnRewritten", unfollowed := true, recurses := true, named := ["internal/strconv.uint64pow10", "math/bits.deBruijn32tab", "math/bits.deBruijn64tab"], loops := true, plainKeys := false, apart := false, laid := [("math/bits.deBruijn32tab", laid_math_bits_deBruijn32tab), ("math/bits.deBruijn64tab", laid_math_bits_deBruijn64tab), ("internal/strconv.uint64pow10", laid_internal_strconv_uint64pow10)], narrowed := true }
def FnRewrittenUptoSaid : Prop := fnRewrittenUptoRow.holds Tryz.pinned (OpenSpec.upto fnRewrittenSpec)

/-- 'laws.FnWhole', WHERE WHAT IT READS IS OF BULK AT MOST 1048576: true; the input reads as it did. -/
def fnWholeUptoRow : OpenClaim := { program := "ytbcngfgemjdllaagreatdoor", sum := "e6eb00a908cf479855d0dcd18edf1f7b556bf4c68ef3823f9af4121aca360f9a", func := "loop.example/pub-tokensoflexers/laws.FnWhole", spec := "fnWhole", unfollowed := true, recurses := true, named := ["internal/strconv.uint64pow10", "math/bits.deBruijn32tab", "math/bits.deBruijn64tab"], loops := true, plainKeys := false, apart := false, laid := [("math/bits.deBruijn32tab", laid_math_bits_deBruijn32tab), ("math/bits.deBruijn64tab", laid_math_bits_deBruijn64tab), ("internal/strconv.uint64pow10", laid_internal_strconv_uint64pow10)], narrowed := true }
def FnWholeUptoSaid : Prop := fnWholeUptoRow.holds Tryz.pinned (OpenSpec.upto fnWholeSpec)

/-- 'laws.FnMatch', WHERE WHAT IT READS IS OF BULK AT MOST 1048576: true; the input reads as it did. -/
def fnMatchUptoRow : OpenClaim := { program := "ytbcngfgemjdllaagreatdoor", sum := "e6eb00a908cf479855d0dcd18edf1f7b556bf4c68ef3823f9af4121aca360f9a", func := "loop.example/pub-tokensoflexers/laws.FnMatch", spec := "fnMatch", unfollowed := true, recurses := true, named := ["internal/strconv.uint64pow10", "math/bits.deBruijn32tab", "math/bits.deBruijn64tab"], loops := true, plainKeys := false, apart := false, laid := [("math/bits.deBruijn32tab", laid_math_bits_deBruijn32tab), ("math/bits.deBruijn64tab", laid_math_bits_deBruijn64tab), ("internal/strconv.uint64pow10", laid_internal_strconv_uint64pow10)], narrowed := true }
def FnMatchUptoSaid : Prop := fnMatchUptoRow.holds Tryz.pinned (OpenSpec.upto fnMatchSpec)

/-- 'laws.FnOneByOne', WHERE WHAT IT READS IS OF BULK AT MOST 1048576: true; the input reads as it did. -/
def fnOneByOneUptoRow : OpenClaim := { program := "ytbcngfgemjdllaagreatdoor", sum := "e6eb00a908cf479855d0dcd18edf1f7b556bf4c68ef3823f9af4121aca360f9a", func := "loop.example/pub-tokensoflexers/laws.FnOneByOne", spec := "fnOneByOne", unfollowed := true, recurses := true, named := ["internal/strconv.uint64pow10", "math/bits.deBruijn32tab", "math/bits.deBruijn64tab"], loops := true, plainKeys := false, apart := false, laid := [("math/bits.deBruijn32tab", laid_math_bits_deBruijn32tab), ("math/bits.deBruijn64tab", laid_math_bits_deBruijn64tab), ("internal/strconv.uint64pow10", laid_internal_strconv_uint64pow10)], narrowed := true }
def FnOneByOneUptoSaid : Prop := fnOneByOneUptoRow.holds Tryz.pinned (OpenSpec.upto fnOneByOneSpec)

end Rows
end Go.Proofs.YtbcngfgemjdllaaGreatDoor
