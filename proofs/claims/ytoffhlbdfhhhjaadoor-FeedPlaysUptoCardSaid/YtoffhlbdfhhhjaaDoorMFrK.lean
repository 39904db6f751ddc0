/- The frame as a kind of values. No condition. -/
import Derived.Test.YtoffhlbdfhhhjaaDoorQLx0
namespace Go.Proofs.YtoffhlbdfhhhjaaDoor.QL
open Go Go.RowKit Go.Proofs.YtoffhlbdfhhhjaaDoorW.PrintWords Go.Proofs.YtoffhlbdfhhhjaaDoorW.PrintLast
structure S24 where
  f0 : Int
  f1 : Int
  f2 : Int
  f3 : ByteArray
  f4 : Int
  f5 : Int
  f6 : Bool
  f7 : Int
  f8 : Int
  f9 : Int
  f10 : (List S32)
def k24 : Kd S24 := Kd.iso (Kd.pair (Kd.int .i64) (Kd.pair (Kd.int .i64) (Kd.pair (Kd.int .i64) (Kd.pair Kd.string (Kd.pair (Kd.int .i64) (Kd.pair (Kd.int .i64) (Kd.pair Kd.bool (Kd.pair (Kd.int .i64) (Kd.pair (Kd.int .i64) (Kd.pair (Kd.int .i64) (Kd.slice 32 k32))))))))))) (fun x : S24 => (x.f0, x.f1, x.f2, x.f3, x.f4, x.f5, x.f6, x.f7, x.f8, x.f9, x.f10))
theorem k24_open {w : World} {x : S24} {cs : List Value} (h : k24.K w x cs) : ∃ A10 c10, cs = [.int .i64 x.f0, .int .i64 x.f1, .int .i64 x.f2, .string x.f3, .int .i64 x.f4, .int .i64 x.f5, .bool x.f6, .int .i64 x.f7, .int .i64 x.f8, .int .i64 x.f9, .slice A10 x.f10.length c10] ∧ x.f10.length ≤ c10 ∧ k32.C w A10 x.f10.length x.f10 := by
  obtain ⟨_, _, rfl, rfl, ⟨_, _, rfl, rfl, ⟨_, _, rfl, rfl, ⟨_, _, rfl, rfl, ⟨_, _, rfl, rfl, ⟨_, _, rfl, rfl, ⟨_, _, rfl, rfl, ⟨_, _, rfl, rfl, ⟨_, _, rfl, rfl, ⟨_, _, rfl, rfl, ⟨A10, c10, rfl, l10, g10⟩⟩⟩⟩⟩⟩⟩⟩⟩⟩⟩ := h
  exact ⟨A10, c10, rfl, l10, g10⟩
end Go.Proofs.YtoffhlbdfhhhjaaDoor.QL
