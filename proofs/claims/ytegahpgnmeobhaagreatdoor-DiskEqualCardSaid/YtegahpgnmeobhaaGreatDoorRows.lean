/-
  NARROWER THAN 'FOR EVERY INPUT', by the rows' own cells (each row's printed sentence says how): DiskBytes: laid · DiskDurable: laid · DiskRename: laid · DiskOperations: laid · DiskRestart: laid · DiskBudget: laid · DiskEqual: laid · DiskNil: laid.
  DERIVED. THE GIVEN ROWS OF THIS SEAT. 8 by the template 'for every input the law returns true; each argument reads behind the call as it read before'; 0 by the template 'total and deterministic' (their statements: YtegahpgnmeobhaaGreatDoorTotals.lean).
  GIVEN WITH THE SEED: the statements are not yours to turn. If you find one false, say at which input.
  Laid BY PROGRAM, IN A SANDBOX (cutbox-rows.mjs): the forced cells as the released guide's own fill.sh prints them over the translation 74f7860a02ddc10e… (all of the seat's roots in one cut). By AI agents, Wed Nov 11 2026. No macro, syntax, notation, axiom, sorry.
-/
import Derived.Test.YtegahpgnmeobhaaGreatDoorChecked
import GoSem.PinnedTables
import GoSem.Claim
import GoSem.ClaimJoined
import GoSem.ClaimMapViews
import Derived.JoinedTies
import Derived.KernelRfl
namespace Go.Proofs.YtegahpgnmeobhaaGreatDoor
/- THE CELL 'sum', in the pinned program and in every row, IS THE sha256 OF THE DUMP (.gsa) THAT YtegahpgnmeobhaaGreatDoorProg.lean LOADS. Nothing in Lean hashes anything: it is a label: what it is worth is what the hold of that sum in a sandbox is worth. -/
noncomputable def Tryz.pinned : Pinned := { name := "ytegahpgnmeobhaagreatdoor", sum := "74f7860a02ddc10e1c005d5711c4412fc1c525e40e4df5c3ede2031009d174e7", checked := Tryz.checked }
namespace Rows
def none {H : Type} : Left H := { results := [], args := [] }

/- WHAT THE LISTED PACKAGE-LEVEL VARIABLES READ AS WHEN THE CALL BEGINS. Each datum BY PROGRAM (the guide's laid-datum.mjs) off the statement by which the dump's own 'gosem.cut.vars' lays the variable. In a bare row this is a premise. The card (YtegahpgnmeobhaaGreatDoorCards.lean) ties it to the program's text. -/
def laid_unicode_utf8_acceptRanges {H : Type} : DataW H := .agg [.agg [.lit (.int .u8 128), .lit (.int .u8 191)], .agg [.lit (.int .u8 160), .lit (.int .u8 191)], .agg [.lit (.int .u8 128), .lit (.int .u8 159)], .agg [.lit (.int .u8 144), .lit (.int .u8 191)], .agg [.lit (.int .u8 128), .lit (.int .u8 143)], .agg [.lit (.int .u8 0), .lit (.int .u8 0)], .agg [.lit (.int .u8 0), .lit (.int .u8 0)], .agg [.lit (.int .u8 0), .lit (.int .u8 0)], .agg [.lit (.int .u8 0), .lit (.int .u8 0)], .agg [.lit (.int .u8 0), .lit (.int .u8 0)], .agg [.lit (.int .u8 0), .lit (.int .u8 0)], .agg [.lit (.int .u8 0), .lit (.int .u8 0)], .agg [.lit (.int .u8 0), .lit (.int .u8 0)], .agg [.lit (.int .u8 0), .lit (.int .u8 0)], .agg [.lit (.int .u8 0), .lit (.int .u8 0)], .agg [.lit (.int .u8 0), .lit (.int .u8 0)]]
/-- One of Go's own tables, pinned by name: the form's constant. -/
def laid_unicode_utf8_first : DataW Unit := Go.Pinned.utf8First

/-- 'girolaw10.DiskBytes': WHATEVER THE INPUT: true; the input reads as it did. -/
def diskBytesSpec : ChangeSpec := { name := "diskBytes", fn := fun _ => fun
  | [d1, d2] => { results := [.lit (.bool true)], args := [d1, d2] }
  | _ => none }
def diskBytesRow : OpenClaim := { program := "ytegahpgnmeobhaagreatdoor", sum := "74f7860a02ddc10e1c005d5711c4412fc1c525e40e4df5c3ede2031009d174e7", func := "giro/girolaw10.DiskBytes", spec := "diskBytes", inPlace := ["internal/bytealg.IndexByteString", "internal/bytealg.IndexString"], unfollowed := true, recurses := true, named := ["unicode/utf8.first", "unicode/utf8.acceptRanges", "internal/bytealg.MaxLen"], apart := false, laid := [("unicode/utf8.acceptRanges", laid_unicode_utf8_acceptRanges), ("unicode/utf8.first", laid_unicode_utf8_first)] }
def DiskBytesSaid : Prop := diskBytesRow.holds Tryz.pinned (OpenSpec.ofChange diskBytesSpec)

/-- ITS FALSE NEIGHBOUR: 'it returns false'. Refute it at one input. -/
def diskBytesWrong : ChangeSpec := { name := "diskBytes", fn := fun _ => fun
  | [d1, d2] => { results := [.lit (.bool false)], args := [d1, d2] }
  | _ => none }
def DiskBytesWrongFalsely : Prop := diskBytesRow.holds Tryz.pinned (OpenSpec.ofChange diskBytesWrong)

/-- 'girolaw10.DiskDurable': WHATEVER THE INPUT: true; the input reads as it did. -/
def diskDurableSpec : ChangeSpec := { name := "diskDurable", fn := fun _ => fun
  | [d1, d2] => { results := [.lit (.bool true)], args := [d1, d2] }
  | _ => none }
def diskDurableRow : OpenClaim := { program := "ytegahpgnmeobhaagreatdoor", sum := "74f7860a02ddc10e1c005d5711c4412fc1c525e40e4df5c3ede2031009d174e7", func := "giro/girolaw10.DiskDurable", spec := "diskDurable", inPlace := ["internal/bytealg.IndexByteString", "internal/bytealg.IndexString"], unfollowed := true, recurses := true, named := ["unicode/utf8.first", "unicode/utf8.acceptRanges", "internal/bytealg.MaxLen"], apart := false, laid := [("unicode/utf8.acceptRanges", laid_unicode_utf8_acceptRanges), ("unicode/utf8.first", laid_unicode_utf8_first)] }
def DiskDurableSaid : Prop := diskDurableRow.holds Tryz.pinned (OpenSpec.ofChange diskDurableSpec)

/-- ITS FALSE NEIGHBOUR: 'it returns false'. Refute it at one input. -/
def diskDurableWrong : ChangeSpec := { name := "diskDurable", fn := fun _ => fun
  | [d1, d2] => { results := [.lit (.bool false)], args := [d1, d2] }
  | _ => none }
def DiskDurableWrongFalsely : Prop := diskDurableRow.holds Tryz.pinned (OpenSpec.ofChange diskDurableWrong)

/-- 'girolaw10.DiskRename': WHATEVER THE INPUT: true; the input reads as it did. -/
def diskRenameSpec : ChangeSpec := { name := "diskRename", fn := fun _ => fun
  | [d1, d2, d3] => { results := [.lit (.bool true)], args := [d1, d2, d3] }
  | _ => none }
def diskRenameRow : OpenClaim := { program := "ytegahpgnmeobhaagreatdoor", sum := "74f7860a02ddc10e1c005d5711c4412fc1c525e40e4df5c3ede2031009d174e7", func := "giro/girolaw10.DiskRename", spec := "diskRename", inPlace := ["internal/bytealg.IndexByteString", "internal/bytealg.IndexString"], unfollowed := true, recurses := true, named := ["unicode/utf8.first", "unicode/utf8.acceptRanges", "internal/bytealg.MaxLen"], apart := false, laid := [("unicode/utf8.acceptRanges", laid_unicode_utf8_acceptRanges), ("unicode/utf8.first", laid_unicode_utf8_first)] }
def DiskRenameSaid : Prop := diskRenameRow.holds Tryz.pinned (OpenSpec.ofChange diskRenameSpec)

/-- ITS FALSE NEIGHBOUR: 'it returns false'. Refute it at one input. -/
def diskRenameWrong : ChangeSpec := { name := "diskRename", fn := fun _ => fun
  | [d1, d2, d3] => { results := [.lit (.bool false)], args := [d1, d2, d3] }
  | _ => none }
def DiskRenameWrongFalsely : Prop := diskRenameRow.holds Tryz.pinned (OpenSpec.ofChange diskRenameWrong)

/-- 'girolaw10.DiskOperations': WHATEVER THE INPUT: true; the input reads as it did. -/
def diskOperationsSpec : ChangeSpec := { name := "diskOperations", fn := fun _ => fun
  | [d] => { results := [.lit (.bool true)], args := [d] }
  | _ => none }
def diskOperationsRow : OpenClaim := { program := "ytegahpgnmeobhaagreatdoor", sum := "74f7860a02ddc10e1c005d5711c4412fc1c525e40e4df5c3ede2031009d174e7", func := "giro/girolaw10.DiskOperations", spec := "diskOperations", inPlace := ["internal/bytealg.IndexByteString", "internal/bytealg.IndexString"], unfollowed := true, recurses := true, named := ["unicode/utf8.first", "unicode/utf8.acceptRanges", "internal/bytealg.MaxLen"], apart := false, laid := [("unicode/utf8.acceptRanges", laid_unicode_utf8_acceptRanges), ("unicode/utf8.first", laid_unicode_utf8_first)] }
def DiskOperationsSaid : Prop := diskOperationsRow.holds Tryz.pinned (OpenSpec.ofChange diskOperationsSpec)

/-- ITS FALSE NEIGHBOUR: 'it returns false'. Refute it at one input. -/
def diskOperationsWrong : ChangeSpec := { name := "diskOperations", fn := fun _ => fun
  | [d] => { results := [.lit (.bool false)], args := [d] }
  | _ => none }
def DiskOperationsWrongFalsely : Prop := diskOperationsRow.holds Tryz.pinned (OpenSpec.ofChange diskOperationsWrong)

/-- 'girolaw10.DiskRestart': WHATEVER THE INPUT: true; the input reads as it did. -/
def diskRestartSpec : ChangeSpec := { name := "diskRestart", fn := fun _ => fun
  | [d1, d2] => { results := [.lit (.bool true)], args := [d1, d2] }
  | _ => none }
def diskRestartRow : OpenClaim := { program := "ytegahpgnmeobhaagreatdoor", sum := "74f7860a02ddc10e1c005d5711c4412fc1c525e40e4df5c3ede2031009d174e7", func := "giro/girolaw10.DiskRestart", spec := "diskRestart", inPlace := ["internal/bytealg.IndexByteString", "internal/bytealg.IndexString"], unfollowed := true, recurses := true, named := ["unicode/utf8.first", "unicode/utf8.acceptRanges", "internal/bytealg.MaxLen"], apart := false, laid := [("unicode/utf8.acceptRanges", laid_unicode_utf8_acceptRanges), ("unicode/utf8.first", laid_unicode_utf8_first)] }
def DiskRestartSaid : Prop := diskRestartRow.holds Tryz.pinned (OpenSpec.ofChange diskRestartSpec)

/-- ITS FALSE NEIGHBOUR: 'it returns false'. Refute it at one input. -/
def diskRestartWrong : ChangeSpec := { name := "diskRestart", fn := fun _ => fun
  | [d1, d2] => { results := [.lit (.bool false)], args := [d1, d2] }
  | _ => none }
def DiskRestartWrongFalsely : Prop := diskRestartRow.holds Tryz.pinned (OpenSpec.ofChange diskRestartWrong)

/-- 'girolaw10.DiskBudget': WHATEVER THE INPUT: true; the input reads as it did. -/
def diskBudgetSpec : ChangeSpec := { name := "diskBudget", fn := fun _ => fun
  | [d1, d2] => { results := [.lit (.bool true)], args := [d1, d2] }
  | _ => none }
def diskBudgetRow : OpenClaim := { program := "ytegahpgnmeobhaagreatdoor", sum := "74f7860a02ddc10e1c005d5711c4412fc1c525e40e4df5c3ede2031009d174e7", func := "giro/girolaw10.DiskBudget", spec := "diskBudget", inPlace := ["internal/bytealg.IndexByteString", "internal/bytealg.IndexString"], unfollowed := true, recurses := true, named := ["unicode/utf8.first", "unicode/utf8.acceptRanges", "internal/bytealg.MaxLen"], apart := false, laid := [("unicode/utf8.acceptRanges", laid_unicode_utf8_acceptRanges), ("unicode/utf8.first", laid_unicode_utf8_first)] }
def DiskBudgetSaid : Prop := diskBudgetRow.holds Tryz.pinned (OpenSpec.ofChange diskBudgetSpec)

/-- ITS FALSE NEIGHBOUR: 'it returns false'. Refute it at one input. -/
def diskBudgetWrong : ChangeSpec := { name := "diskBudget", fn := fun _ => fun
  | [d1, d2] => { results := [.lit (.bool false)], args := [d1, d2] }
  | _ => none }
def DiskBudgetWrongFalsely : Prop := diskBudgetRow.holds Tryz.pinned (OpenSpec.ofChange diskBudgetWrong)

/-- 'girolaw10.DiskEqual': WHATEVER THE INPUT: true; the input reads as it did. -/
def diskEqualSpec : ChangeSpec := { name := "diskEqual", fn := fun _ => fun
  | [d1, d2] => { results := [.lit (.bool true)], args := [d1, d2] }
  | _ => none }
def diskEqualRow : OpenClaim := { program := "ytegahpgnmeobhaagreatdoor", sum := "74f7860a02ddc10e1c005d5711c4412fc1c525e40e4df5c3ede2031009d174e7", func := "giro/girolaw10.DiskEqual", spec := "diskEqual", inPlace := ["internal/bytealg.IndexByteString", "internal/bytealg.IndexString"], unfollowed := true, recurses := true, named := ["unicode/utf8.first", "unicode/utf8.acceptRanges", "internal/bytealg.MaxLen"], apart := false, laid := [("unicode/utf8.acceptRanges", laid_unicode_utf8_acceptRanges), ("unicode/utf8.first", laid_unicode_utf8_first)] }
def DiskEqualSaid : Prop := diskEqualRow.holds Tryz.pinned (OpenSpec.ofChange diskEqualSpec)

/-- ITS FALSE NEIGHBOUR: 'it returns false'. Refute it at one input. -/
def diskEqualWrong : ChangeSpec := { name := "diskEqual", fn := fun _ => fun
  | [d1, d2] => { results := [.lit (.bool false)], args := [d1, d2] }
  | _ => none }
def DiskEqualWrongFalsely : Prop := diskEqualRow.holds Tryz.pinned (OpenSpec.ofChange diskEqualWrong)

/-- 'girolaw10.DiskNil': WHATEVER THE INPUT: true; the input reads as it did. -/
def diskNilSpec : ChangeSpec := { name := "diskNil", fn := fun _ => fun
  | [d1, d2] => { results := [.lit (.bool true)], args := [d1, d2] }
  | _ => none }
def diskNilRow : OpenClaim := { program := "ytegahpgnmeobhaagreatdoor", sum := "74f7860a02ddc10e1c005d5711c4412fc1c525e40e4df5c3ede2031009d174e7", func := "giro/girolaw10.DiskNil", spec := "diskNil", inPlace := ["internal/bytealg.IndexByteString", "internal/bytealg.IndexString"], unfollowed := true, recurses := true, named := ["unicode/utf8.first", "unicode/utf8.acceptRanges", "internal/bytealg.MaxLen"], apart := false, laid := [("unicode/utf8.acceptRanges", laid_unicode_utf8_acceptRanges), ("unicode/utf8.first", laid_unicode_utf8_first)] }
def DiskNilSaid : Prop := diskNilRow.holds Tryz.pinned (OpenSpec.ofChange diskNilSpec)

/-- ITS FALSE NEIGHBOUR: 'it returns false'. Refute it at one input. -/
def diskNilWrong : ChangeSpec := { name := "diskNil", fn := fun _ => fun
  | [d1, d2] => { results := [.lit (.bool false)], args := [d1, d2] }
  | _ => none }
def DiskNilWrongFalsely : Prop := diskNilRow.holds Tryz.pinned (OpenSpec.ofChange diskNilWrong)

/- THE SECOND FORM. 'bulk': how many values and letters a reading holds, each counted each time it is reached (what is shared counts as often as it is met; a slice's spare places count too). A statement '..UptoSaid' is the law's where the arguments, and the package variables that the reading takes, are together of bulk at most 1048576: NARROWER than '..Said'. Prove '..Said' where nothing that the law and all that it calls make is longer than what came in: it says more and counts as full. Else prove '..UptoSaid'. A law counts once. -/
mutual
def uptoBulk {H : Type} : DataW H → Nat
  | .lit (.string bytes) => bytes.length + 1
  | .lit _ => 1
  | .nil => 1
  | .ptr d => uptoBulk d + 1
  | .slice elems spare => uptoBulkAll elems + uptoBulkAll spare + 1
  | .agg parts => uptoBulkAll parts + 1
  | .iface _ d => uptoBulk d + 1
  | .map entries => uptoBulkEntries entries + 1
  | .held _ => 1
def uptoBulkAll {H : Type} : List (DataW H) → Nat
  | [] => 0
  | d :: r => uptoBulk d + uptoBulkAll r
def uptoBulkEntries {H : Type} : List (Lit × DataW H) → Nat
  | [] => 0
  | x :: r => uptoBulkEntry x + uptoBulkEntries r
def uptoBulkEntry {H : Type} : Lit × DataW H → Nat
  | (.string bytes, d) => bytes.length + uptoBulk d + 1
  | (_, d) => uptoBulk d + 1
 end
def uptoSmall : (H : Type) → List (DataW H) → Bool := fun _ ds => decide (uptoBulkAll ds ≤ 1048576)
def OpenSpec.upto (s : _root_.Go.ChangeSpec) : _root_.Go.OpenSpec := { _root_.Go.OpenSpec.ofChange s with cond := some uptoSmall }

/-- 'girolaw10.DiskBytes', WHERE WHAT IT READS IS OF BULK AT MOST 1048576: true; the input reads as it did. -/
def diskBytesUptoRow : OpenClaim := { program := "ytegahpgnmeobhaagreatdoor", sum := "74f7860a02ddc10e1c005d5711c4412fc1c525e40e4df5c3ede2031009d174e7", func := "giro/girolaw10.DiskBytes", spec := "diskBytes", inPlace := ["internal/bytealg.IndexByteString", "internal/bytealg.IndexString"], unfollowed := true, recurses := true, named := ["unicode/utf8.first", "unicode/utf8.acceptRanges", "internal/bytealg.MaxLen"], apart := false, laid := [("unicode/utf8.acceptRanges", laid_unicode_utf8_acceptRanges), ("unicode/utf8.first", laid_unicode_utf8_first)], narrowed := true }
def DiskBytesUptoSaid : Prop := diskBytesUptoRow.holds Tryz.pinned (OpenSpec.upto diskBytesSpec)

/-- 'girolaw10.DiskDurable', WHERE WHAT IT READS IS OF BULK AT MOST 1048576: true; the input reads as it did. -/
def diskDurableUptoRow : OpenClaim := { program := "ytegahpgnmeobhaagreatdoor", sum := "74f7860a02ddc10e1c005d5711c4412fc1c525e40e4df5c3ede2031009d174e7", func := "giro/girolaw10.DiskDurable", spec := "diskDurable", inPlace := ["internal/bytealg.IndexByteString", "internal/bytealg.IndexString"], unfollowed := true, recurses := true, named := ["unicode/utf8.first", "unicode/utf8.acceptRanges", "internal/bytealg.MaxLen"], apart := false, laid := [("unicode/utf8.acceptRanges", laid_unicode_utf8_acceptRanges), ("unicode/utf8.first", laid_unicode_utf8_first)], narrowed := true }
def DiskDurableUptoSaid : Prop := diskDurableUptoRow.holds Tryz.pinned (OpenSpec.upto diskDurableSpec)

/-- 'girolaw10.DiskRename', WHERE WHAT IT READS IS OF BULK AT MOST 1048576: true; the input reads as it did. -/
def diskRenameUptoRow : OpenClaim := { program := "ytegahpgnmeobhaagreatdoor", sum := "74f7860a02ddc10e1c005d5711c4412fc1c525e40e4df5c3ede2031009d174e7", func := "giro/girolaw10.DiskRename", spec := "diskRename", inPlace := ["internal/bytealg.IndexByteString", "internal/bytealg.IndexString"], unfollowed := true, recurses := true, named := ["unicode/utf8.first", "unicode/utf8.acceptRanges", "internal/bytealg.MaxLen"], apart := false, laid := [("unicode/utf8.acceptRanges", laid_unicode_utf8_acceptRanges), ("unicode/utf8.first", laid_unicode_utf8_first)], narrowed := true }
def DiskRenameUptoSaid : Prop := diskRenameUptoRow.holds Tryz.pinned (OpenSpec.upto diskRenameSpec)

/-- 'girolaw10.DiskOperations', WHERE WHAT IT READS IS OF BULK AT MOST 1048576: true; the input reads as it did. -/
def diskOperationsUptoRow : OpenClaim := { program := "ytegahpgnmeobhaagreatdoor", sum := "74f7860a02ddc10e1c005d5711c4412fc1c525e40e4df5c3ede2031009d174e7", func := "giro/girolaw10.DiskOperations", spec := "diskOperations", inPlace := ["internal/bytealg.IndexByteString", "internal/bytealg.IndexString"], unfollowed := true, recurses := true, named := ["unicode/utf8.first", "unicode/utf8.acceptRanges", "internal/bytealg.MaxLen"], apart := false, laid := [("unicode/utf8.acceptRanges", laid_unicode_utf8_acceptRanges), ("unicode/utf8.first", laid_unicode_utf8_first)], narrowed := true }
def DiskOperationsUptoSaid : Prop := diskOperationsUptoRow.holds Tryz.pinned (OpenSpec.upto diskOperationsSpec)

/-- 'girolaw10.DiskRestart', WHERE WHAT IT READS IS OF BULK AT MOST 1048576: true; the input reads as it did. -/
def diskRestartUptoRow : OpenClaim := { program := "ytegahpgnmeobhaagreatdoor", sum := "74f7860a02ddc10e1c005d5711c4412fc1c525e40e4df5c3ede2031009d174e7", func := "giro/girolaw10.DiskRestart", spec := "diskRestart", inPlace := ["internal/bytealg.IndexByteString", "internal/bytealg.IndexString"], unfollowed := true, recurses := true, named := ["unicode/utf8.first", "unicode/utf8.acceptRanges", "internal/bytealg.MaxLen"], apart := false, laid := [("unicode/utf8.acceptRanges", laid_unicode_utf8_acceptRanges), ("unicode/utf8.first", laid_unicode_utf8_first)], narrowed := true }
def DiskRestartUptoSaid : Prop := diskRestartUptoRow.holds Tryz.pinned (OpenSpec.upto diskRestartSpec)

/-- 'girolaw10.DiskBudget', WHERE WHAT IT READS IS OF BULK AT MOST 1048576: true; the input reads as it did. -/
def diskBudgetUptoRow : OpenClaim := { program := "ytegahpgnmeobhaagreatdoor", sum := "74f7860a02ddc10e1c005d5711c4412fc1c525e40e4df5c3ede2031009d174e7", func := "giro/girolaw10.DiskBudget", spec := "diskBudget", inPlace := ["internal/bytealg.IndexByteString", "internal/bytealg.IndexString"], unfollowed := true, recurses := true, named := ["unicode/utf8.first", "unicode/utf8.acceptRanges", "internal/bytealg.MaxLen"], apart := false, laid := [("unicode/utf8.acceptRanges", laid_unicode_utf8_acceptRanges), ("unicode/utf8.first", laid_unicode_utf8_first)], narrowed := true }
def DiskBudgetUptoSaid : Prop := diskBudgetUptoRow.holds Tryz.pinned (OpenSpec.upto diskBudgetSpec)

/-- 'girolaw10.DiskEqual', WHERE WHAT IT READS IS OF BULK AT MOST 1048576: true; the input reads as it did. -/
def diskEqualUptoRow : OpenClaim := { program := "ytegahpgnmeobhaagreatdoor", sum := "74f7860a02ddc10e1c005d5711c4412fc1c525e40e4df5c3ede2031009d174e7", func := "giro/girolaw10.DiskEqual", spec := "diskEqual", inPlace := ["internal/bytealg.IndexByteString", "internal/bytealg.IndexString"], unfollowed := true, recurses := true, named := ["unicode/utf8.first", "unicode/utf8.acceptRanges", "internal/bytealg.MaxLen"], apart := false, laid := [("unicode/utf8.acceptRanges", laid_unicode_utf8_acceptRanges), ("unicode/utf8.first", laid_unicode_utf8_first)], narrowed := true }
def DiskEqualUptoSaid : Prop := diskEqualUptoRow.holds Tryz.pinned (OpenSpec.upto diskEqualSpec)

/-- 'girolaw10.DiskNil', WHERE WHAT IT READS IS OF BULK AT MOST 1048576: true; the input reads as it did. -/
def diskNilUptoRow : OpenClaim := { program := "ytegahpgnmeobhaagreatdoor", sum := "74f7860a02ddc10e1c005d5711c4412fc1c525e40e4df5c3ede2031009d174e7", func := "giro/girolaw10.DiskNil", spec := "diskNil", inPlace := ["internal/bytealg.IndexByteString", "internal/bytealg.IndexString"], unfollowed := true, recurses := true, named := ["unicode/utf8.first", "unicode/utf8.acceptRanges", "internal/bytealg.MaxLen"], apart := false, laid := [("unicode/utf8.acceptRanges", laid_unicode_utf8_acceptRanges), ("unicode/utf8.first", laid_unicode_utf8_first)], narrowed := true }
def DiskNilUptoSaid : Prop := diskNilUptoRow.holds Tryz.pinned (OpenSpec.upto diskNilSpec)

end Rows
end Go.Proofs.YtegahpgnmeobhaaGreatDoor
