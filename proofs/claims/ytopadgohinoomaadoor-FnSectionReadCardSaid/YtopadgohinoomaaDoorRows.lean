/-
  NARROWER THAN 'FOR EVERY INPUT', by the rows' own cells (each row's printed sentence says how): FnLiteralStates: laid · FnMatchStates: laid · FnOffsetStates: laid · FnFourRead: laid · FnSectionAgain: laid · FnSectionRead: laid.
  DERIVED. THE GIVEN ROWS OF THIS SEAT. 6 by the template 'for every input the law returns true; each argument reads behind the call as it read before'; 0 by the template 'total and deterministic' (their statements: YtopadgohinoomaaDoorTotals.lean).
  GIVEN WITH THE SEED: the statements are not yours to turn. If you find one false, say at which input.
  Laid BY PROGRAM, IN A SANDBOX (cutbox-rows.mjs): the forced cells as the released guide's own fill.sh prints them over the translation 6f832b2439575429… (all of the seat's roots in one cut). By AI agents, Wed Nov 11 2026. No macro, syntax, notation, axiom, sorry.
-/
import Derived.Test.YtopadgohinoomaaDoorChecked
import GoSem.Claim
import GoSem.ClaimJoined
import GoSem.ClaimMapViews
import Derived.JoinedTies
import Derived.KernelRfl
namespace Go.Proofs.YtopadgohinoomaaDoor
/- THE CELL 'sum', in the pinned program and in every row, IS THE sha256 OF THE DUMP (.gsa) THAT YtopadgohinoomaaDoorProg.lean LOADS. Nothing in Lean hashes anything: it is a label: what it is worth is what the hold of that sum in a sandbox is worth. -/
noncomputable def Tryd.pinned : Pinned := { name := "ytopadgohinoomaadoor", sum := "6f832b243957542965224abe3851e503c53bea7cd8231e774bc810dfc4642eeb", checked := Tryd.checked }
namespace Rows
def none {H : Type} : Left H := { results := [], args := [] }

/- WHAT THE LISTED PACKAGE-LEVEL VARIABLES READ AS WHEN THE CALL BEGINS. Each datum BY PROGRAM (the guide's laid-datum.mjs) off the statement by which the dump's own 'gosem.cut.vars' lays the variable. In a bare row this is a premise. The card (YtopadgohinoomaaDoorCards.lean) ties it to the program's text. -/
def laid_io_EOF {H : Type} : DataW H := .iface "*errors.errorString" (.ptr (.agg [.lit (.string [69, 79, 70])]))
def laid_loop_example_pub_g01462_pub_zstd_literalLengthBase {H : Type} : DataW H := .slice [.lit (.int .u32 16777232), .lit (.int .u32 16777234), .lit (.int .u32 16777236), .lit (.int .u32 16777238), .lit (.int .u32 33554456), .lit (.int .u32 33554460), .lit (.int .u32 50331680), .lit (.int .u32 50331688), .lit (.int .u32 67108912), .lit (.int .u32 100663360), .lit (.int .u32 117440640), .lit (.int .u32 134217984), .lit (.int .u32 150995456), .lit (.int .u32 167773184), .lit (.int .u32 184551424), .lit (.int .u32 201330688), .lit (.int .u32 218112000), .lit (.int .u32 234897408), .lit (.int .u32 251691008), .lit (.int .u32 268500992)] []
def laid_loop_example_pub_g01462_pub_zstd_matchLengthBase {H : Type} : DataW H := .slice [.lit (.int .u32 16777251), .lit (.int .u32 16777253), .lit (.int .u32 16777255), .lit (.int .u32 16777257), .lit (.int .u32 33554475), .lit (.int .u32 33554479), .lit (.int .u32 50331699), .lit (.int .u32 50331707), .lit (.int .u32 67108931), .lit (.int .u32 67108947), .lit (.int .u32 83886179), .lit (.int .u32 117440643), .lit (.int .u32 134217987), .lit (.int .u32 150995459), .lit (.int .u32 167773187), .lit (.int .u32 184551427), .lit (.int .u32 201330691), .lit (.int .u32 218112003), .lit (.int .u32 234897411), .lit (.int .u32 251691011), .lit (.int .u32 268500995)] []
def laid_io_ErrUnexpectedEOF {H : Type} : DataW H := .iface "*errors.errorString" (.ptr (.agg [.lit (.string [117, 110, 101, 120, 112, 101, 99, 116, 101, 100, 32, 69, 79, 70])]))

/-- 'laws.FnLiteralStates': WHATEVER THE INPUT: true; the input reads as it did. -/
def fnLiteralStatesSpec : ChangeSpec := { name := "fnLiteralStates", vars := ["loop.example/pub-g01462/pub/zstd.literalLengthBase"], fn := fun _ => fun
  | [d, g1] => { results := [.lit (.bool true)], args := [d], vars := [g1] }
  | _ => none }
def fnLiteralStatesRow : OpenClaim := { program := "ytopadgohinoomaadoor", sum := "6f832b243957542965224abe3851e503c53bea7cd8231e774bc810dfc4642eeb", func := "loop.example/pub-g01462/laws.FnLiteralStates", spec := "fnLiteralStates", named := ["loop.example/pub-g01462/pub/zstd.literalLengthBase", "io.EOF"], apart := false, laid := [("io.EOF", laid_io_EOF), ("loop.example/pub-g01462/pub/zstd.literalLengthBase", laid_loop_example_pub_g01462_pub_zstd_literalLengthBase)] }
def FnLiteralStatesSaid : Prop := fnLiteralStatesRow.holds Tryd.pinned (OpenSpec.ofChange fnLiteralStatesSpec)

/-- ITS FALSE NEIGHBOUR: 'it returns false'. Refute it at one input. -/
def fnLiteralStatesWrong : ChangeSpec := { name := "fnLiteralStates", vars := ["loop.example/pub-g01462/pub/zstd.literalLengthBase"], fn := fun _ => fun
  | [d, g1] => { results := [.lit (.bool false)], args := [d], vars := [g1] }
  | _ => none }
def FnLiteralStatesWrongFalsely : Prop := fnLiteralStatesRow.holds Tryd.pinned (OpenSpec.ofChange fnLiteralStatesWrong)

/-- 'laws.FnMatchStates': WHATEVER THE INPUT: true; the input reads as it did. -/
def fnMatchStatesSpec : ChangeSpec := { name := "fnMatchStates", vars := ["loop.example/pub-g01462/pub/zstd.matchLengthBase"], fn := fun _ => fun
  | [d, g1] => { results := [.lit (.bool true)], args := [d], vars := [g1] }
  | _ => none }
def fnMatchStatesRow : OpenClaim := { program := "ytopadgohinoomaadoor", sum := "6f832b243957542965224abe3851e503c53bea7cd8231e774bc810dfc4642eeb", func := "loop.example/pub-g01462/laws.FnMatchStates", spec := "fnMatchStates", named := ["loop.example/pub-g01462/pub/zstd.matchLengthBase", "io.EOF"], apart := false, laid := [("io.EOF", laid_io_EOF), ("loop.example/pub-g01462/pub/zstd.matchLengthBase", laid_loop_example_pub_g01462_pub_zstd_matchLengthBase)] }
def FnMatchStatesSaid : Prop := fnMatchStatesRow.holds Tryd.pinned (OpenSpec.ofChange fnMatchStatesSpec)

/-- ITS FALSE NEIGHBOUR: 'it returns false'. Refute it at one input. -/
def fnMatchStatesWrong : ChangeSpec := { name := "fnMatchStates", vars := ["loop.example/pub-g01462/pub/zstd.matchLengthBase"], fn := fun _ => fun
  | [d, g1] => { results := [.lit (.bool false)], args := [d], vars := [g1] }
  | _ => none }
def FnMatchStatesWrongFalsely : Prop := fnMatchStatesRow.holds Tryd.pinned (OpenSpec.ofChange fnMatchStatesWrong)

/-- 'laws.FnOffsetStates': WHATEVER THE INPUT: true; the input reads as it did. -/
def fnOffsetStatesSpec : ChangeSpec := { name := "fnOffsetStates", fn := fun _ => fun
  | [d] => { results := [.lit (.bool true)], args := [d] }
  | _ => none }
def fnOffsetStatesRow : OpenClaim := { program := "ytopadgohinoomaadoor", sum := "6f832b243957542965224abe3851e503c53bea7cd8231e774bc810dfc4642eeb", func := "loop.example/pub-g01462/laws.FnOffsetStates", spec := "fnOffsetStates", named := ["io.EOF"], apart := false, laid := [("io.EOF", laid_io_EOF)] }
def FnOffsetStatesSaid : Prop := fnOffsetStatesRow.holds Tryd.pinned (OpenSpec.ofChange fnOffsetStatesSpec)

/-- ITS FALSE NEIGHBOUR: 'it returns false'. Refute it at one input. -/
def fnOffsetStatesWrong : ChangeSpec := { name := "fnOffsetStates", fn := fun _ => fun
  | [d] => { results := [.lit (.bool false)], args := [d] }
  | _ => none }
def FnOffsetStatesWrongFalsely : Prop := fnOffsetStatesRow.holds Tryd.pinned (OpenSpec.ofChange fnOffsetStatesWrong)

/-- 'laws.FnFourRead': WHATEVER THE INPUT: true; the input reads as it did. -/
def fnFourReadSpec : ChangeSpec := { name := "fnFourRead", fn := fun _ => fun
  | [d1, d2, d3, d4] => { results := [.lit (.bool true)], args := [d1, d2, d3, d4] }
  | _ => none }
def fnFourReadRow : OpenClaim := { program := "ytopadgohinoomaadoor", sum := "6f832b243957542965224abe3851e503c53bea7cd8231e774bc810dfc4642eeb", func := "loop.example/pub-g01462/laws.FnFourRead", spec := "fnFourRead", unfollowed := true, recurses := true, named := ["io.ErrUnexpectedEOF", "io.EOF"], apart := false, laid := [("io.EOF", laid_io_EOF), ("io.ErrUnexpectedEOF", laid_io_ErrUnexpectedEOF)] }
def FnFourReadSaid : Prop := fnFourReadRow.holds Tryd.pinned (OpenSpec.ofChange fnFourReadSpec)

/-- ITS FALSE NEIGHBOUR: 'it returns false'. Refute it at one input. -/
def fnFourReadWrong : ChangeSpec := { name := "fnFourRead", fn := fun _ => fun
  | [d1, d2, d3, d4] => { results := [.lit (.bool false)], args := [d1, d2, d3, d4] }
  | _ => none }
def FnFourReadWrongFalsely : Prop := fnFourReadRow.holds Tryd.pinned (OpenSpec.ofChange fnFourReadWrong)

/-- 'laws.FnSectionAgain': WHATEVER THE INPUT: true; the input reads as it did. -/
def fnSectionAgainSpec : ChangeSpec := { name := "fnSectionAgain", fn := fun _ => fun
  | [d1, d2, d3, d4, d5] => { results := [.lit (.bool true)], args := [d1, d2, d3, d4, d5] }
  | _ => none }
def fnSectionAgainRow : OpenClaim := { program := "ytopadgohinoomaadoor", sum := "6f832b243957542965224abe3851e503c53bea7cd8231e774bc810dfc4642eeb", func := "loop.example/pub-g01462/laws.FnSectionAgain", spec := "fnSectionAgain", unfollowed := true, recurses := true, named := ["io.ErrUnexpectedEOF", "io.EOF"], apart := false, laid := [("io.EOF", laid_io_EOF), ("io.ErrUnexpectedEOF", laid_io_ErrUnexpectedEOF)] }
def FnSectionAgainSaid : Prop := fnSectionAgainRow.holds Tryd.pinned (OpenSpec.ofChange fnSectionAgainSpec)

/-- ITS FALSE NEIGHBOUR: 'it returns false'. Refute it at one input. -/
def fnSectionAgainWrong : ChangeSpec := { name := "fnSectionAgain", fn := fun _ => fun
  | [d1, d2, d3, d4, d5] => { results := [.lit (.bool false)], args := [d1, d2, d3, d4, d5] }
  | _ => none }
def FnSectionAgainWrongFalsely : Prop := fnSectionAgainRow.holds Tryd.pinned (OpenSpec.ofChange fnSectionAgainWrong)

/-- 'laws.FnSectionRead': WHATEVER THE INPUT: true; the input reads as it did. -/
def fnSectionReadSpec : ChangeSpec := { name := "fnSectionRead", fn := fun _ => fun
  | [d1, d2, d3, d4, d5, d6] => { results := [.lit (.bool true)], args := [d1, d2, d3, d4, d5, d6] }
  | _ => none }
def fnSectionReadRow : OpenClaim := { program := "ytopadgohinoomaadoor", sum := "6f832b243957542965224abe3851e503c53bea7cd8231e774bc810dfc4642eeb", func := "loop.example/pub-g01462/laws.FnSectionRead", spec := "fnSectionRead", unfollowed := true, recurses := true, named := ["io.ErrUnexpectedEOF", "io.EOF"], apart := false, laid := [("io.EOF", laid_io_EOF), ("io.ErrUnexpectedEOF", laid_io_ErrUnexpectedEOF)] }
def FnSectionReadSaid : Prop := fnSectionReadRow.holds Tryd.pinned (OpenSpec.ofChange fnSectionReadSpec)

/-- ITS FALSE NEIGHBOUR: 'it returns false'. Refute it at one input. -/
def fnSectionReadWrong : ChangeSpec := { name := "fnSectionRead", fn := fun _ => fun
  | [d1, d2, d3, d4, d5, d6] => { results := [.lit (.bool false)], args := [d1, d2, d3, d4, d5, d6] }
  | _ => none }
def FnSectionReadWrongFalsely : Prop := fnSectionReadRow.holds Tryd.pinned (OpenSpec.ofChange fnSectionReadWrong)

/- THE SECOND FORM. 'bulk': how many values and letters a reading holds, each counted each time it is reached (what is shared counts as often as it is met; a slice's spare places count too). A statement '..UptoSaid' is the law's where the arguments, and the package variables that the reading takes, are together of bulk at most 1048576: NARROWER than '..Said'. Prove '..Said' where nothing that the law and all that it calls make is longer than what came in: it says more and counts as full. Else prove '..UptoSaid'. A law counts once. -/
mutual
def uptoBulk {H : Type} : DataW H → Nat
  | .lit (.string bytes) => bytes.length + 1
  | .lit _ => 1
  | .nil => 1
  | .ptr d => uptoBulk d + 1
  | .slice elems spare => uptoBulkAll elems + uptoBulkAll spare + 1
  | .agg parts => uptoBulkAll parts + 1
  | .iface _ d => uptoBulk d + 1
  | .map entries => uptoBulkEntries entries + 1
  | .held _ => 1
def uptoBulkAll {H : Type} : List (DataW H) → Nat
  | [] => 0
  | d :: r => uptoBulk d + uptoBulkAll r
def uptoBulkEntries {H : Type} : List (Lit × DataW H) → Nat
  | [] => 0
  | x :: r => uptoBulkEntry x + uptoBulkEntries r
def uptoBulkEntry {H : Type} : Lit × DataW H → Nat
  | (.string bytes, d) => bytes.length + uptoBulk d + 1
  | (_, d) => uptoBulk d + 1
 end
def uptoSmall : (H : Type) → List (DataW H) → Bool := fun _ ds => decide (uptoBulkAll ds ≤ 1048576)
def OpenSpec.upto (s : _root_.Go.ChangeSpec) : _root_.Go.OpenSpec := { _root_.Go.OpenSpec.ofChange s with cond := some uptoSmall }

/-- 'laws.FnLiteralStates', WHERE WHAT IT READS IS OF BULK AT MOST 1048576: true; the input reads as it did. -/
def fnLiteralStatesUptoRow : OpenClaim := { program := "ytopadgohinoomaadoor", sum := "6f832b243957542965224abe3851e503c53bea7cd8231e774bc810dfc4642eeb", func := "loop.example/pub-g01462/laws.FnLiteralStates", spec := "fnLiteralStates", named := ["loop.example/pub-g01462/pub/zstd.literalLengthBase", "io.EOF"], apart := false, laid := [("io.EOF", laid_io_EOF), ("loop.example/pub-g01462/pub/zstd.literalLengthBase", laid_loop_example_pub_g01462_pub_zstd_literalLengthBase)], narrowed := true }
def FnLiteralStatesUptoSaid : Prop := fnLiteralStatesUptoRow.holds Tryd.pinned (OpenSpec.upto fnLiteralStatesSpec)

/-- 'laws.FnMatchStates', WHERE WHAT IT READS IS OF BULK AT MOST 1048576: true; the input reads as it did. -/
def fnMatchStatesUptoRow : OpenClaim := { program := "ytopadgohinoomaadoor", sum := "6f832b243957542965224abe3851e503c53bea7cd8231e774bc810dfc4642eeb", func := "loop.example/pub-g01462/laws.FnMatchStates", spec := "fnMatchStates", named := ["loop.example/pub-g01462/pub/zstd.matchLengthBase", "io.EOF"], apart := false, laid := [("io.EOF", laid_io_EOF), ("loop.example/pub-g01462/pub/zstd.matchLengthBase", laid_loop_example_pub_g01462_pub_zstd_matchLengthBase)], narrowed := true }
def FnMatchStatesUptoSaid : Prop := fnMatchStatesUptoRow.holds Tryd.pinned (OpenSpec.upto fnMatchStatesSpec)

/-- 'laws.FnOffsetStates', WHERE WHAT IT READS IS OF BULK AT MOST 1048576: true; the input reads as it did. -/
def fnOffsetStatesUptoRow : OpenClaim := { program := "ytopadgohinoomaadoor", sum := "6f832b243957542965224abe3851e503c53bea7cd8231e774bc810dfc4642eeb", func := "loop.example/pub-g01462/laws.FnOffsetStates", spec := "fnOffsetStates", named := ["io.EOF"], apart := false, laid := [("io.EOF", laid_io_EOF)], narrowed := true }
def FnOffsetStatesUptoSaid : Prop := fnOffsetStatesUptoRow.holds Tryd.pinned (OpenSpec.upto fnOffsetStatesSpec)

/-- 'laws.FnFourRead', WHERE WHAT IT READS IS OF BULK AT MOST 1048576: true; the input reads as it did. -/
def fnFourReadUptoRow : OpenClaim := { program := "ytopadgohinoomaadoor", sum := "6f832b243957542965224abe3851e503c53bea7cd8231e774bc810dfc4642eeb", func := "loop.example/pub-g01462/laws.FnFourRead", spec := "fnFourRead", unfollowed := true, recurses := true, named := ["io.ErrUnexpectedEOF", "io.EOF"], apart := false, laid := [("io.EOF", laid_io_EOF), ("io.ErrUnexpectedEOF", laid_io_ErrUnexpectedEOF)], narrowed := true }
def FnFourReadUptoSaid : Prop := fnFourReadUptoRow.holds Tryd.pinned (OpenSpec.upto fnFourReadSpec)

/-- 'laws.FnSectionAgain', WHERE WHAT IT READS IS OF BULK AT MOST 1048576: true; the input reads as it did. -/
def fnSectionAgainUptoRow : OpenClaim := { program := "ytopadgohinoomaadoor", sum := "6f832b243957542965224abe3851e503c53bea7cd8231e774bc810dfc4642eeb", func := "loop.example/pub-g01462/laws.FnSectionAgain", spec := "fnSectionAgain", unfollowed := true, recurses := true, named := ["io.ErrUnexpectedEOF", "io.EOF"], apart := false, laid := [("io.EOF", laid_io_EOF), ("io.ErrUnexpectedEOF", laid_io_ErrUnexpectedEOF)], narrowed := true }
def FnSectionAgainUptoSaid : Prop := fnSectionAgainUptoRow.holds Tryd.pinned (OpenSpec.upto fnSectionAgainSpec)

/-- 'laws.FnSectionRead', WHERE WHAT IT READS IS OF BULK AT MOST 1048576: true; the input reads as it did. -/
def fnSectionReadUptoRow : OpenClaim := { program := "ytopadgohinoomaadoor", sum := "6f832b243957542965224abe3851e503c53bea7cd8231e774bc810dfc4642eeb", func := "loop.example/pub-g01462/laws.FnSectionRead", spec := "fnSectionRead", unfollowed := true, recurses := true, named := ["io.ErrUnexpectedEOF", "io.EOF"], apart := false, laid := [("io.EOF", laid_io_EOF), ("io.ErrUnexpectedEOF", laid_io_ErrUnexpectedEOF)], narrowed := true }
def FnSectionReadUptoSaid : Prop := fnSectionReadUptoRow.holds Tryd.pinned (OpenSpec.upto fnSectionReadSpec)

end Rows
end Go.Proofs.YtopadgohinoomaaDoor
