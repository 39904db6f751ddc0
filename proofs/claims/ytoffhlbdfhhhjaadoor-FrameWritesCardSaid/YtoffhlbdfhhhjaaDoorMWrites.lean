/- FrameWrites as one function and its call: always true. Condition: the package's variable holds what the program lays; the arguments fit in memory. -/
import Derived.Test.YtoffhlbdfhhhjaaDoorMFwH
import Derived.Test.YtoffhlbdfhhhjaaDoorMFrK
namespace Go.Proofs.YtoffhlbdfhhhjaaDoor.QL
open Go Go.RowKit Go.Proofs.YtoffhlbdfhhhjaaDoorW.PrintWords Go.Proofs.YtoffhlbdfhhhjaaDoorW.PrintLast
set_option linter.unusedVariables false
def heraldlaw06_FrameWrites.f (a0_0 : Int) (a0_1 : Int) (a0_2 : Int) (a0_3 : ByteArray) (a0_4 : Int) (a0_5 : Int) (a0_6 : Bool) (a0_7 : Int) (a0_8 : Int) (a0_9 : Int) (a0_10 : (List S32)) : Option Bool := if (a0_10.length * 16 ≤ 140737488351232 ∧ a0_3.size ≤ 140737488351232) ∧ -9223372036854775808 ≤ a0_1 ∧ a0_1 ≤ 9223372036854775807 then some true else none
theorem heraldlaw06_FrameWrites.calls (A0_10 : Option Addr) (c0_10 : Nat) (a0_0 : Int) (a0_1 : Int) (a0_2 : Int) (a0_3 : ByteArray) (a0_4 : Int) (a0_5 : Int) (a0_6 : Bool) (a0_7 : Int) (a0_8 : Int) (a0_9 : Int) (a0_10 : (List S32)) (r : Bool) (w : World) (hG : Go.Proofs.YtoffhlbdfhhhjaaDoor.Fr20.GL w) (hr0 : Kd.C k32 w A0_10 a0_10.length a0_10) (hc0 : a0_10.length ≤ c0_10) (h : heraldlaw06_FrameWrites.f a0_0 a0_1 a0_2 a0_3 a0_4 a0_5 a0_6 a0_7 a0_8 a0_9 a0_10 = some r) :
    Calls Tryd.prog 3 #[.agg #[.int .i64 a0_0, .int .i64 a0_1, .int .i64 a0_2, .string a0_3, .int .i64 a0_4, .int .i64 a0_5, .bool a0_6, .int .i64 a0_7, .int .i64 a0_8, .int .i64 a0_9, .slice A0_10 a0_10.length c0_10]] w fun e w' => e = .returned (.bool r) ∧ Below w.heap.size w w' := by
  unfold heraldlaw06_FrameWrites.f at h
  split at h
  · rename_i hb
    obtain rfl : true = r := Option.some.inj h
    exact Go.Proofs.YtoffhlbdfhhhjaaDoor.Fr.writes_calls ⟨a0_0, a0_1, a0_2, a0_3, a0_4, a0_5, a0_6, a0_7, a0_8, a0_9, a0_10⟩ _ rfl A0_10 c0_10 w hG.fr hr0 hc0 hb.1.1 hb.1.2 hb.2.1 hb.2.2
  · cases h
end Go.Proofs.YtoffhlbdfhhhjaaDoor.QL
