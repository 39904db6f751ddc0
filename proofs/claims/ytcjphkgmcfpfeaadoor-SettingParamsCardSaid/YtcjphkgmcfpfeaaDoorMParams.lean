/- SettingParams as one function and its call: true wherever the list fits in memory. Condition: that the function answers, and the package variables. -/
import Derived.Test.YtcjphkgmcfpfeaaDoorMSetK
namespace Go.Proofs.YtcjphkgmcfpfeaaDoor.MS4
open Go Go.RowKit
/-- The four package variables hold what the program lays. -/
def GL (w : World) : Prop := w.cell? ⟨0, 0, none⟩ = some (.int .i64 2147483647) ∧ w.cell? ⟨0, 1, none⟩ = some (.int .i64 1) ∧ w.cell? ⟨0, 2, none⟩ = some (.int .i64 2147483647) ∧ w.cell? ⟨0, 3, none⟩ = some (.int .i64 2147483647) ∧ w.cell? ⟨0, 4, none⟩ = some (.int .i64 65536) ∧ w.cell? ⟨0, 5, none⟩ = some (.int .i64 2147483647) ∧ w.cell? ⟨1, 0, none⟩ = some (.int .i64 4096) ∧ w.cell? ⟨1, 1, none⟩ = some (.int .i64 1) ∧ w.cell? ⟨1, 2, none⟩ = some (.int .i64 2147483647) ∧ w.cell? ⟨1, 3, none⟩ = some (.int .i64 65535) ∧ w.cell? ⟨1, 4, none⟩ = some (.int .i64 16384) ∧ w.cell? ⟨1, 5, none⟩ = some (.int .i64 2147483647) ∧ w.cell? ⟨2, 0, none⟩ = some (.int .i64 0) ∧ w.cell? ⟨2, 1, none⟩ = some (.int .i64 0) ∧ w.cell? ⟨2, 2, none⟩ = some (.int .i64 0) ∧ w.cell? ⟨2, 3, none⟩ = some (.int .i64 0) ∧ w.cell? ⟨2, 4, none⟩ = some (.int .i64 16384) ∧ w.cell? ⟨2, 5, none⟩ = some (.int .i64 1024) ∧ w.cell? ⟨3, 0, none⟩ = some (.int .i64 65536) ∧ w.cell? ⟨3, 1, none⟩ = some (.int .i64 1) ∧ w.cell? ⟨3, 2, none⟩ = some (.int .i64 2147483647) ∧ w.cell? ⟨3, 3, none⟩ = some (.int .i64 2147483647) ∧ w.cell? ⟨3, 4, none⟩ = some (.int .i64 65536) ∧ w.cell? ⟨3, 5, none⟩ = some (.int .i64 2147483647)
end Go.Proofs.YtcjphkgmcfpfeaaDoor.MS4
namespace Go.Proofs.YtcjphkgmcfpfeaaDoor.QL
open Go Go.RowKit Go.Proofs.YtcjphkgmcfpfeaaDoorW.PrintWords Go.Proofs.YtcjphkgmcfpfeaaDoorW.PrintLast
set_option linter.unusedVariables false
def heraldlaw08_SettingParams.f (a0_0 a0_1 a0_2 a0_3 a0_4 a0_5 a1_0 a1_1 a1_2 a1_3 a1_4 a1_5 : Int) (l2 : List S28) (a3 : Bool) : Option Bool := if l2.length * 16 ≤ 140737488351232 then some true else none
theorem heraldlaw08_SettingParams.calls (a0_0 a0_1 a0_2 a0_3 a0_4 a0_5 a1_0 a1_1 a1_2 a1_3 a1_4 a1_5 : Int) (A2 : Option Addr) (c2 : Nat) (l2 : List S28) (a3 : Bool) (r : Bool) (w : World) (hG : Go.Proofs.YtcjphkgmcfpfeaaDoor.MS4.GL w) (hr2 : Kd.C k28 w A2 l2.length l2) (hc2 : l2.length ≤ c2) (h : heraldlaw08_SettingParams.f a0_0 a0_1 a0_2 a0_3 a0_4 a0_5 a1_0 a1_1 a1_2 a1_3 a1_4 a1_5 l2 a3 = some r) :
    Calls Tryd.prog 3 #[.agg #[.int .i64 a0_0, .int .i64 a0_1, .int .i64 a0_2, .int .i64 a0_3, .int .i64 a0_4, .int .i64 a0_5], .agg #[.int .i64 a1_0, .int .i64 a1_1, .int .i64 a1_2, .int .i64 a1_3, .int .i64 a1_4, .int .i64 a1_5], .slice A2 l2.length c2, .bool a3] w fun e w' => e = .returned (.bool r) ∧ Below w.heap.size w w' := by
  obtain ⟨h00, h01, h02, h03, h04, h05, h10, h11, h12, h13, h14, h15, h20, h21, h22, h23, h24, h25, h30, h31, h32, h33, h34, h35⟩ := hG
  unfold heraldlaw08_SettingParams.f at h
  split at h
  · next hl => cases h; exact Go.Proofs.YtcjphkgmcfpfeaaDoor.MS.sp_calls ⟨a0_0, a0_1, a0_2, a0_3, a0_4, a0_5⟩ ⟨a1_0, a1_1, a1_2, a1_3, a1_4, a1_5⟩ A2 c2 l2 a3 w ⟨h10, h11, h12, h13, h14, h15⟩ ⟨h00, h01, h02, h03, h04, h05⟩ ⟨h20, h21, h22, h23, h24, h25⟩ ⟨h30, h31, h32, h33, h34, h35⟩ hr2 hc2 hl
  · cases h
end Go.Proofs.YtcjphkgmcfpfeaaDoor.QL
