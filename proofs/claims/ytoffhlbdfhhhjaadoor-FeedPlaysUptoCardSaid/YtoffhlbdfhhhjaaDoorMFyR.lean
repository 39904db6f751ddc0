/- Arrays of two as parameters: how they are read. No condition. -/
import Derived.Test.YtoffhlbdfhhhjaaDoorZRow
import Derived.Test.YtoffhlbdfhhhjaaDoorMFrK
import Derived.OpenShut
namespace Go.Proofs.YtoffhlbdfhhhjaaDoor.ZRow
open Go Go.RowKit Go.Proofs.YtoffhlbdfhhhjaaDoorW.PrintWords
theorem okWide_arr {P : Program} {w : World} {r : Reach} {base : Nat} {t e : TypeId} {n : Nat} {v : Value} (ht : P.underlying t = some (.array n e)) (h : Value.okWide P w r base t v) : ∃ cs, v = .agg cs ∧ cs.size = P.cellsOf t := by
  simp only [Value.okWide, ht] at h
  obtain ⟨cs, h1, h2, _⟩ := h
  exact ⟨cs, h1, h2⟩
theorem Rd.arr2 {P : Program} {t e : TypeId} {α β : Type} {d : Kd α} {G : α → Prop} {μ : α → Nat} (ht : P.underlying t = some (.array 2 e)) (hs : P.cellsOf t = (Kd.pair d d).sz) (h : Rd P e d G μ) (g : β → α × α) (mk : α × α → β) (hg : ∀ v, g (mk v) = v) :
    Rd P t (Kd.iso (Kd.pair d d) g) (fun v => G (g v).1 ∧ G (g v).2) (fun v => (μ (g v).1 + μ (g v).2) + 1) where
  size := hs
  read := by
    intro H enc W base spare held fuel cs x hx
    obtain ⟨xs, n, _, rfl, hl, hxl, hi⟩ := DataW.trod_array ht hx
    obtain ⟨x0, x1, rfl⟩ : ∃ x0 x1, xs = [x0, x1] := by
      match xs, hxl with
      | [a, b], _ => exact ⟨a, b, rfl⟩
    have hsz : cs.length = d.sz + d.sz := hl.trans hs
    have h0 := hi 0 (by omega)
    have h1 := hi 1 (by omega)
    rw [h.size, Nat.zero_mul, List.drop_zero] at h0
    rw [h.size, Nat.one_mul, List.take_of_length_le (by rw [List.length_drop]; omega)] at h1
    obtain ⟨v0, hK0, hG0, hm0⟩ := h.read h0
    obtain ⟨v1, hK1, hG1, hm1⟩ := h.read h1
    refine ⟨mk (v0, v1), ?_, fun hw => ?_, ?_⟩
    · show (Kd.pair d d).K W (g (mk (v0, v1))) cs
      rw [hg]
      exact ⟨cs.take d.sz, cs.drop d.sz, (List.take_append_drop _ _).symm, hK0, hK1⟩
    · show G (g (mk (v0, v1))).1 ∧ G (g (mk (v0, v1))).2
      rw [hg]
      have hw2 : ∀ n ∈ DataW.weightsAll P e [x0.1, x1.1], n ≤ reachBytes := fun m hm => hw m (by simp only [DataW.weights, ht]; exact hm)
      exact ⟨hG0 fun m hm => hw2 m (weightsAll_mem (d := x0.1) (by simp) m hm), hG1 fun m hm => hw2 m (weightsAll_mem (d := x1.1) (by simp) m hm)⟩
    · show (μ (g (mk (v0, v1))).1 + μ (g (mk (v0, v1))).2) + 1 ≤ _
      rw [hg]
      simp only [Rows.uptoBulk, List.map_cons, List.map_nil, Rows.uptoBulkAll]
      omega
end Go.Proofs.YtoffhlbdfhhhjaaDoor.ZRow
namespace Go.Proofs.YtoffhlbdfhhhjaaDoor.QL
open Go Go.RowKit Go.Proofs.YtoffhlbdfhhhjaaDoorW.PrintWords Go.Proofs.YtoffhlbdfhhhjaaDoorW.PrintLast
structure S63 where
  f0 : Bool
  f1 : Bool
def k63 : Kd S63 := Kd.iso (Kd.pair Kd.bool Kd.bool) (fun x : S63 => (x.f0, x.f1))
theorem k63_open {w : World} {x : S63} {cs : List Value} (h : k63.K w x cs) : cs = [.bool x.f0, .bool x.f1] := by
  obtain ⟨_, _, rfl, rfl, rfl⟩ := h
  rfl
structure S64 where
  f0 : Int
  f1 : Int
def k64 : Kd S64 := Kd.iso (Kd.pair (Kd.int .i64) (Kd.int .i64)) (fun x : S64 => (x.f0, x.f1))
theorem k64_open {w : World} {x : S64} {cs : List Value} (h : k64.K w x cs) : cs = [.int .i64 x.f0, .int .i64 x.f1] := by
  obtain ⟨_, _, rfl, rfl, rfl⟩ := h
  rfl
end Go.Proofs.YtoffhlbdfhhhjaaDoor.QL
