/-
  NARROWER THAN 'FOR EVERY INPUT', by the rows' own cells (each row's printed sentence says how): SettingParams: laid · SettingBooks: laid · SettingBack: laid · SettingOneByOne: laid · SettingHolds: laid.
  DERIVED. THE GIVEN ROWS OF THIS SEAT. 5 by the template 'for every input the law returns true; each argument reads behind the call as it read before'; 0 by the template 'total and deterministic' (their statements: YtcjphkgmcfpfeaaDoorTotals.lean).
  GIVEN WITH THE SEED: the statements are not yours to turn. If you find one false, say at which input.
  Laid BY PROGRAM, IN A SANDBOX (cutbox-rows.mjs): the forced cells as the released guide's own fill.sh prints them over the translation 2802179daf61a16a… (all of the seat's roots in one cut). By AI agents, Wed Nov 11 2026. No macro, syntax, notation, axiom, sorry.
-/
import Derived.Test.YtcjphkgmcfpfeaaDoorChecked
import GoSem.Claim
import GoSem.ClaimJoined
import GoSem.ClaimMapViews
import Derived.JoinedTies
import Derived.KernelRfl
namespace Go.Proofs.YtcjphkgmcfpfeaaDoor
/- THE CELL 'sum', in the pinned program and in every row, IS THE sha256 OF THE DUMP (.gsa) THAT YtcjphkgmcfpfeaaDoorProg.lean LOADS. Nothing in Lean hashes anything: it is a label: what it is worth is what the hold of that sum in a sandbox is worth. -/
noncomputable def Tryd.pinned : Pinned := { name := "ytcjphkgmcfpfeaadoor", sum := "2802179daf61a16a23c4ea383f26d961b78b753a04465b937cdb2dee4c3023ee", checked := Tryd.checked }
namespace Rows
def none {H : Type} : Left H := { results := [], args := [] }

/- WHAT THE LISTED PACKAGE-LEVEL VARIABLES READ AS WHEN THE CALL BEGINS. Each datum BY PROGRAM (the guide's laid-datum.mjs) off the statement by which the dump's own 'gosem.cut.vars' lays the variable. In a bare row this is a premise. The card (YtcjphkgmcfpfeaaDoorCards.lean) ties it to the program's text. -/
def laid_herald_heraldref08_low {H : Type} : DataW H := .agg [.lit (.int .i64 0), .lit (.int .i64 0), .lit (.int .i64 0), .lit (.int .i64 0), .lit (.int .i64 16384), .lit (.int .i64 1024)]
def laid_herald_heraldref08_high {H : Type} : DataW H := .agg [.lit (.int .i64 65536), .lit (.int .i64 1), .lit (.int .i64 2147483647), .lit (.int .i64 2147483647), .lit (.int .i64 65536), .lit (.int .i64 2147483647)]
def laid_herald_heraldref08_top {H : Type} : DataW H := .agg [.lit (.int .i64 2147483647), .lit (.int .i64 1), .lit (.int .i64 2147483647), .lit (.int .i64 2147483647), .lit (.int .i64 65536), .lit (.int .i64 2147483647)]
def laid_herald_setting_initial {H : Type} : DataW H := .agg [.lit (.int .i64 4096), .lit (.int .i64 1), .lit (.int .i64 2147483647), .lit (.int .i64 65535), .lit (.int .i64 16384), .lit (.int .i64 2147483647)]

/-- 'heraldlaw08.SettingParams': WHATEVER THE INPUT: true; the input reads as it did. -/
def settingParamsSpec : ChangeSpec := { name := "settingParams", fn := fun _ => fun
  | [d1, d2, d3, d4] => { results := [.lit (.bool true)], args := [d1, d2, d3, d4] }
  | _ => none }
def settingParamsRow : OpenClaim := { program := "ytcjphkgmcfpfeaadoor", sum := "2802179daf61a16a23c4ea383f26d961b78b753a04465b937cdb2dee4c3023ee", func := "herald/heraldlaw08.SettingParams", spec := "settingParams", named := ["herald/heraldref08.top", "herald/setting.initial", "herald/heraldref08.low", "herald/heraldref08.high"], apart := false, laid := [("herald/heraldref08.low", laid_herald_heraldref08_low), ("herald/heraldref08.high", laid_herald_heraldref08_high), ("herald/heraldref08.top", laid_herald_heraldref08_top), ("herald/setting.initial", laid_herald_setting_initial)] }
def SettingParamsSaid : Prop := settingParamsRow.holds Tryd.pinned (OpenSpec.ofChange settingParamsSpec)

/-- ITS FALSE NEIGHBOUR: 'it returns false'. Refute it at one input. -/
def settingParamsWrong : ChangeSpec := { name := "settingParams", fn := fun _ => fun
  | [d1, d2, d3, d4] => { results := [.lit (.bool false)], args := [d1, d2, d3, d4] }
  | _ => none }
def SettingParamsWrongFalsely : Prop := settingParamsRow.holds Tryd.pinned (OpenSpec.ofChange settingParamsWrong)

/-- 'heraldlaw08.SettingBooks': WHATEVER THE INPUT: true; the input reads as it did. -/
def settingBooksSpec : ChangeSpec := { name := "settingBooks", fn := fun _ => fun
  | [d] => { results := [.lit (.bool true)], args := [d] }
  | _ => none }
def settingBooksRow : OpenClaim := { program := "ytcjphkgmcfpfeaadoor", sum := "2802179daf61a16a23c4ea383f26d961b78b753a04465b937cdb2dee4c3023ee", func := "herald/heraldlaw08.SettingBooks", spec := "settingBooks", named := ["herald/setting.initial", "herald/heraldref08.top"], apart := false, laid := [("herald/heraldref08.top", laid_herald_heraldref08_top), ("herald/setting.initial", laid_herald_setting_initial)] }
def SettingBooksSaid : Prop := settingBooksRow.holds Tryd.pinned (OpenSpec.ofChange settingBooksSpec)

/-- ITS FALSE NEIGHBOUR: 'it returns false'. Refute it at one input. -/
def settingBooksWrong : ChangeSpec := { name := "settingBooks", fn := fun _ => fun
  | [d] => { results := [.lit (.bool false)], args := [d] }
  | _ => none }
def SettingBooksWrongFalsely : Prop := settingBooksRow.holds Tryd.pinned (OpenSpec.ofChange settingBooksWrong)

/-- 'heraldlaw08.SettingBack': WHATEVER THE INPUT: true; the input reads as it did. -/
def settingBackSpec : ChangeSpec := { name := "settingBack", fn := fun _ => fun
  | [d1, d2, d3] => { results := [.lit (.bool true)], args := [d1, d2, d3] }
  | _ => none }
def settingBackRow : OpenClaim := { program := "ytcjphkgmcfpfeaadoor", sum := "2802179daf61a16a23c4ea383f26d961b78b753a04465b937cdb2dee4c3023ee", func := "herald/heraldlaw08.SettingBack", spec := "settingBack", named := ["herald/setting.initial"], apart := false, laid := [("herald/setting.initial", laid_herald_setting_initial)] }
def SettingBackSaid : Prop := settingBackRow.holds Tryd.pinned (OpenSpec.ofChange settingBackSpec)

/-- ITS FALSE NEIGHBOUR: 'it returns false'. Refute it at one input. -/
def settingBackWrong : ChangeSpec := { name := "settingBack", fn := fun _ => fun
  | [d1, d2, d3] => { results := [.lit (.bool false)], args := [d1, d2, d3] }
  | _ => none }
def SettingBackWrongFalsely : Prop := settingBackRow.holds Tryd.pinned (OpenSpec.ofChange settingBackWrong)

/-- 'heraldlaw08.SettingOneByOne': WHATEVER THE INPUT: true; the input reads as it did. -/
def settingOneByOneSpec : ChangeSpec := { name := "settingOneByOne", fn := fun _ => fun
  | [d1, d2, d3, d4] => { results := [.lit (.bool true)], args := [d1, d2, d3, d4] }
  | _ => none }
def settingOneByOneRow : OpenClaim := { program := "ytcjphkgmcfpfeaadoor", sum := "2802179daf61a16a23c4ea383f26d961b78b753a04465b937cdb2dee4c3023ee", func := "herald/heraldlaw08.SettingOneByOne", spec := "settingOneByOne", named := ["herald/setting.initial"], apart := false, laid := [("herald/setting.initial", laid_herald_setting_initial)] }
def SettingOneByOneSaid : Prop := settingOneByOneRow.holds Tryd.pinned (OpenSpec.ofChange settingOneByOneSpec)

/-- ITS FALSE NEIGHBOUR: 'it returns false'. Refute it at one input. -/
def settingOneByOneWrong : ChangeSpec := { name := "settingOneByOne", fn := fun _ => fun
  | [d1, d2, d3, d4] => { results := [.lit (.bool false)], args := [d1, d2, d3, d4] }
  | _ => none }
def SettingOneByOneWrongFalsely : Prop := settingOneByOneRow.holds Tryd.pinned (OpenSpec.ofChange settingOneByOneWrong)

/-- 'heraldlaw08.SettingHolds': WHATEVER THE INPUT: true; the input reads as it did. -/
def settingHoldsSpec : ChangeSpec := { name := "settingHolds", fn := fun _ => fun
  | [d1, d2] => { results := [.lit (.bool true)], args := [d1, d2] }
  | _ => none }
def settingHoldsRow : OpenClaim := { program := "ytcjphkgmcfpfeaadoor", sum := "2802179daf61a16a23c4ea383f26d961b78b753a04465b937cdb2dee4c3023ee", func := "herald/heraldlaw08.SettingHolds", spec := "settingHolds", named := ["herald/setting.initial"], apart := false, laid := [("herald/setting.initial", laid_herald_setting_initial)] }
def SettingHoldsSaid : Prop := settingHoldsRow.holds Tryd.pinned (OpenSpec.ofChange settingHoldsSpec)

/-- ITS FALSE NEIGHBOUR: 'it returns false'. Refute it at one input. -/
def settingHoldsWrong : ChangeSpec := { name := "settingHolds", fn := fun _ => fun
  | [d1, d2] => { results := [.lit (.bool false)], args := [d1, d2] }
  | _ => none }
def SettingHoldsWrongFalsely : Prop := settingHoldsRow.holds Tryd.pinned (OpenSpec.ofChange settingHoldsWrong)

/- THE SECOND FORM. 'bulk': how many values and letters a reading holds, each counted each time it is reached (what is shared counts as often as it is met; a slice's spare places count too). A statement '..UptoSaid' is the law's where the arguments, and the package variables that the reading takes, are together of bulk at most 1048576: NARROWER than '..Said'. Prove '..Said' where nothing that the law and all that it calls make is longer than what came in: it says more and counts as full. Else prove '..UptoSaid'. A law counts once. -/
mutual
def uptoBulk {H : Type} : DataW H → Nat
  | .lit (.string bytes) => bytes.length + 1
  | .lit _ => 1
  | .nil => 1
  | .ptr d => uptoBulk d + 1
  | .slice elems spare => uptoBulkAll elems + uptoBulkAll spare + 1
  | .agg parts => uptoBulkAll parts + 1
  | .iface _ d => uptoBulk d + 1
  | .map entries => uptoBulkEntries entries + 1
  | .held _ => 1
def uptoBulkAll {H : Type} : List (DataW H) → Nat
  | [] => 0
  | d :: r => uptoBulk d + uptoBulkAll r
def uptoBulkEntries {H : Type} : List (Lit × DataW H) → Nat
  | [] => 0
  | x :: r => uptoBulkEntry x + uptoBulkEntries r
def uptoBulkEntry {H : Type} : Lit × DataW H → Nat
  | (.string bytes, d) => bytes.length + uptoBulk d + 1
  | (_, d) => uptoBulk d + 1
 end
def uptoSmall : (H : Type) → List (DataW H) → Bool := fun _ ds => decide (uptoBulkAll ds ≤ 1048576)
def OpenSpec.upto (s : _root_.Go.ChangeSpec) : _root_.Go.OpenSpec := { _root_.Go.OpenSpec.ofChange s with cond := some uptoSmall }

/-- 'heraldlaw08.SettingParams', WHERE WHAT IT READS IS OF BULK AT MOST 1048576: true; the input reads as it did. -/
def settingParamsUptoRow : OpenClaim := { program := "ytcjphkgmcfpfeaadoor", sum := "2802179daf61a16a23c4ea383f26d961b78b753a04465b937cdb2dee4c3023ee", func := "herald/heraldlaw08.SettingParams", spec := "settingParams", named := ["herald/heraldref08.top", "herald/setting.initial", "herald/heraldref08.low", "herald/heraldref08.high"], apart := false, laid := [("herald/heraldref08.low", laid_herald_heraldref08_low), ("herald/heraldref08.high", laid_herald_heraldref08_high), ("herald/heraldref08.top", laid_herald_heraldref08_top), ("herald/setting.initial", laid_herald_setting_initial)], narrowed := true }
def SettingParamsUptoSaid : Prop := settingParamsUptoRow.holds Tryd.pinned (OpenSpec.upto settingParamsSpec)

/-- 'heraldlaw08.SettingBooks', WHERE WHAT IT READS IS OF BULK AT MOST 1048576: true; the input reads as it did. -/
def settingBooksUptoRow : OpenClaim := { program := "ytcjphkgmcfpfeaadoor", sum := "2802179daf61a16a23c4ea383f26d961b78b753a04465b937cdb2dee4c3023ee", func := "herald/heraldlaw08.SettingBooks", spec := "settingBooks", named := ["herald/setting.initial", "herald/heraldref08.top"], apart := false, laid := [("herald/heraldref08.top", laid_herald_heraldref08_top), ("herald/setting.initial", laid_herald_setting_initial)], narrowed := true }
def SettingBooksUptoSaid : Prop := settingBooksUptoRow.holds Tryd.pinned (OpenSpec.upto settingBooksSpec)

/-- 'heraldlaw08.SettingBack', WHERE WHAT IT READS IS OF BULK AT MOST 1048576: true; the input reads as it did. -/
def settingBackUptoRow : OpenClaim := { program := "ytcjphkgmcfpfeaadoor", sum := "2802179daf61a16a23c4ea383f26d961b78b753a04465b937cdb2dee4c3023ee", func := "herald/heraldlaw08.SettingBack", spec := "settingBack", named := ["herald/setting.initial"], apart := false, laid := [("herald/setting.initial", laid_herald_setting_initial)], narrowed := true }
def SettingBackUptoSaid : Prop := settingBackUptoRow.holds Tryd.pinned (OpenSpec.upto settingBackSpec)

/-- 'heraldlaw08.SettingOneByOne', WHERE WHAT IT READS IS OF BULK AT MOST 1048576: true; the input reads as it did. -/
def settingOneByOneUptoRow : OpenClaim := { program := "ytcjphkgmcfpfeaadoor", sum := "2802179daf61a16a23c4ea383f26d961b78b753a04465b937cdb2dee4c3023ee", func := "herald/heraldlaw08.SettingOneByOne", spec := "settingOneByOne", named := ["herald/setting.initial"], apart := false, laid := [("herald/setting.initial", laid_herald_setting_initial)], narrowed := true }
def SettingOneByOneUptoSaid : Prop := settingOneByOneUptoRow.holds Tryd.pinned (OpenSpec.upto settingOneByOneSpec)

/-- 'heraldlaw08.SettingHolds', WHERE WHAT IT READS IS OF BULK AT MOST 1048576: true; the input reads as it did. -/
def settingHoldsUptoRow : OpenClaim := { program := "ytcjphkgmcfpfeaadoor", sum := "2802179daf61a16a23c4ea383f26d961b78b753a04465b937cdb2dee4c3023ee", func := "herald/heraldlaw08.SettingHolds", spec := "settingHolds", named := ["herald/setting.initial"], apart := false, laid := [("herald/setting.initial", laid_herald_setting_initial)], narrowed := true }
def SettingHoldsUptoSaid : Prop := settingHoldsUptoRow.holds Tryd.pinned (OpenSpec.upto settingHoldsSpec)

end Rows
end Go.Proofs.YtcjphkgmcfpfeaaDoor
