/- WindowPlays as one function and its call: true wherever the script fits in memory. Condition: that the function answers. -/
import Derived.Test.YtbngliommdmnkaaMWalk
namespace Go.Proofs.Ytbngliommdmnkaa.QWindowSums
open Go Go.RowKit Go.Proofs.YtbngliommdmnkaaW.PrintWords Go.Proofs.YtbngliommdmnkaaW.PrintLast
set_option linter.unusedVariables false
def heraldlaw09_WindowPlays.f (a0 a1 : Int) (l : List S31) : Option Bool := if l.length * 24 ≤ 140737488351232 then some true else none
theorem heraldlaw09_WindowPlays.calls (a0 a1 : Int) (A2 : Option Addr) (c2 : Nat) (l : List S31) (r : Bool) (w : World) (hr2 : Kd.C k31 w A2 l.length l) (hc2 : l.length ≤ c2) (h : heraldlaw09_WindowPlays.f a0 a1 l = some r) :
    Calls Try.prog 3 #[.int .i64 a0, .int .i64 a1, .slice A2 l.length c2] w fun e w' => e = .returned (.bool r) ∧ Below w.heap.size w w' := by
  unfold heraldlaw09_WindowPlays.f at h
  split at h
  · next hl => cases h; exact Go.Proofs.Ytbngliommdmnkaa.MW.main a0 a1 A2 c2 l w hr2 hc2 hl
  · cases h
end Go.Proofs.Ytbngliommdmnkaa.QWindowSums
