/- FeedFrames as one function and its call: always true. Condition: the package's variable holds what the program lays; the arguments fit in memory. -/
import Derived.Test.YtoffhlbdfhhhjaaDoorMFdW
import Derived.Test.YtoffhlbdfhhhjaaDoorMFp1
namespace Go.Proofs.YtoffhlbdfhhhjaaDoor.QL
open Go Go.RowKit Go.Proofs.YtoffhlbdfhhhjaaDoorW.PrintWords Go.Proofs.YtoffhlbdfhhhjaaDoorW.PrintLast
set_option linter.unusedVariables false
/-- What a frame keeps to that fits in memory. -/
def fits24 (fl : Int) (da : ByteArray) (ps : List S32) : Prop := da.size ≤ 140737488351232 ∧ ps.length * 16 ≤ 140737488351232 ∧ -9223372036854775808 ≤ fl ∧ fl ≤ 9223372036854775807
instance (fl : Int) (da : ByteArray) (ps : List S32) : Decidable (fits24 fl da ps) := by unfold fits24; exact inferInstance
def heraldlaw07_FeedFrames.f (a0 : Bool) (l1 : List S24) (a2_0 : Int) (a2_1 : Int) (a2_2 : Int) (a2_3 : ByteArray) (a2_4 : Int) (a2_5 : Int) (a2_6 : Bool) (a2_7 : Int) (a2_8 : Int) (a2_9 : Int) (a2_10 : List S32) (a3 : Int) : Option Bool :=
  if l1.length * 112 ≤ 140737488351232 ∧ (∀ x ∈ l1, fits24 x.f1 x.f3 x.f10) ∧ fits24 a2_1 a2_3 a2_10 ∧ -9223372036854775808 ≤ a3 ∧ a3 ≤ 9223372036854775807 then some true else none
theorem heraldlaw07_FeedFrames.calls (a0 : Bool) (A1 : Option Addr) (c1 : Nat) (l1 : List S24) (A2_10 : Option Addr) (c2_10 : Nat) (a2_0 : Int) (a2_1 : Int) (a2_2 : Int) (a2_3 : ByteArray) (a2_4 : Int) (a2_5 : Int) (a2_6 : Bool) (a2_7 : Int) (a2_8 : Int) (a2_9 : Int) (a2_10 : List S32) (a3 : Int) (r : Bool) (w : World) (hG : Go.Proofs.YtoffhlbdfhhhjaaDoor.Fr20.GL w) (hr1 : Kd.C k24 w A1 l1.length l1) (hc1 : l1.length ≤ c1) (hr2 : Kd.C k32 w A2_10 a2_10.length a2_10) (hc2 : a2_10.length ≤ c2_10) (h : heraldlaw07_FeedFrames.f a0 l1 a2_0 a2_1 a2_2 a2_3 a2_4 a2_5 a2_6 a2_7 a2_8 a2_9 a2_10 a3 = some r) :
    Calls Tryd.prog 13 #[.bool a0, .slice A1 l1.length c1, .agg #[.int .i64 a2_0, .int .i64 a2_1, .int .i64 a2_2, .string a2_3, .int .i64 a2_4, .int .i64 a2_5, .bool a2_6, .int .i64 a2_7, .int .i64 a2_8, .int .i64 a2_9, .slice A2_10 a2_10.length c2_10], .int .i64 a3] w fun e w' => e = .returned (.bool r) ∧ Below w.heap.size w w' := by
  unfold heraldlaw07_FeedFrames.f at h
  split at h
  · rename_i hb
    obtain rfl : true = r := Option.some.inj h
    obtain ⟨h1, h2, h3, h4⟩ := hb
    have hl : (l1.map Go.Proofs.YtoffhlbdfhhhjaaDoor.Fr.toFr).length = l1.length := List.length_map _
    have hg : ∀ x ∈ l1.map Go.Proofs.YtoffhlbdfhhhjaaDoor.Fr.toFr, Go.Proofs.YtoffhlbdfhhhjaaDoor.Fr.GoodF x := by
      intro x hx
      obtain ⟨s, hs, rfl⟩ := List.mem_map.1 hx
      obtain ⟨q1, q2, q3, q4⟩ := h2 s hs
      exact ⟨q1, q2, q3, q4⟩
    have hk := Go.Proofs.YtoffhlbdfhhhjaaDoor.Fr.framesB_calls a0 A1 c1 (l1.map Go.Proofs.YtoffhlbdfhhhjaaDoor.Fr.toFr) ⟨a2_0, a2_1, a2_2, a2_3, a2_4, a2_5, a2_6, a2_7, a2_8, a2_9, a2_10⟩ A2_10 c2_10 a3 w hG.fr (by rw [hl]; exact Go.Proofs.YtoffhlbdfhhhjaaDoor.Fr.fix_of hr1) (by rw [hl]; exact h1) hg hr2 hc2 ⟨h3.1, h3.2.1, h3.2.2.1, h3.2.2.2⟩ h4
    rw [hl] at hk
    exact hk
  · cases h
end Go.Proofs.YtoffhlbdfhhhjaaDoor.QL
