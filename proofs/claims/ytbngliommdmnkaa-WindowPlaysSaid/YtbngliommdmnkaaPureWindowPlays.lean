/- The walk's function answers true for every script that memory holds. Condition: the statement's own bound on the script's size. -/
import Derived.Test.YtbngliommdmnkaaReadWindowPlays
namespace Go.Proofs.Ytbngliommdmnkaa.Pure
open Go.RowKit Go.Proofs.Ytbngliommdmnkaa.QWindowSums Go.Proofs.Ytbngliommdmnkaa.ZRow Go.Proofs.YtbngliommdmnkaaW.PrintWords Go.Proofs.YtbngliommdmnkaaW.PrintLast
theorem WindowPlays : QWindowSums.Plain := by
  intro a0 a1 l _ _ hl
  exact if_pos hl.1
end Go.Proofs.Ytbngliommdmnkaa.Pure
