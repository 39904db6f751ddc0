/- A script's steps as a kind of values; the chunk that a step pushes. No condition but that the text fits. -/
import Derived.Test.YtoffhlbdfhhhjaaDoorMFdA
import Derived.Test.YtoffhlbdfhhhjaaDoorMFrK
namespace Go.Proofs.YtoffhlbdfhhhjaaDoor.QL
open Go Go.RowKit Go.Proofs.YtoffhlbdfhhhjaaDoorW.PrintWords Go.Proofs.YtoffhlbdfhhhjaaDoorW.PrintLast
structure S71 where
  f0 : Int
  f1 : Bool
  f2 : ByteArray
  f3 : Int
  f4 : Int
def z71 : S71 := ⟨0, false, ByteArray.empty, 0, 0⟩
def k71 : Kd S71 := Kd.iso (Kd.pair (Kd.int .i64) (Kd.pair Kd.bool (Kd.pair Kd.string (Kd.pair (Kd.int .i64) (Kd.int .i64))))) (fun x : S71 => (x.f0, x.f1, x.f2, x.f3, x.f4))
def S71.cs (x : S71) : List Value := [.int .i64 x.f0, .bool x.f1, .string x.f2, .int .i64 x.f3, .int .i64 x.f4]
theorem k71_open {w : World} {x : S71} {cs : List Value} (h : k71.K w x cs) : cs = [.int .i64 x.f0, .bool x.f1, .string x.f2, .int .i64 x.f3, .int .i64 x.f4] := by
  obtain ⟨_, _, rfl, rfl, ⟨_, _, rfl, rfl, ⟨_, _, rfl, rfl, ⟨_, _, rfl, rfl, rfl⟩⟩⟩⟩ := h
  rfl
def rd_T71 (xs : List S71) (i : Int) : S71 := xs.getD i.toNat z71
theorem at_T71 {w : World} {A : Option Addr} {n : Nat} {xs : List S71} (h : Kd.C k71 w A n xs) (i : Int) (h0 : 0 ≤ i) (h1 : i < n) : ∃ ad , A = some ad ∧ w.cell? (ad.add (i.toNat * 5)) = some (.int .i64 (rd_T71 xs i).f0) ∧ w.cell? ⟨(ad.add (i.toNat * 5)).block, (ad.add (i.toNat * 5)).off + 1, none⟩ = some (.bool (rd_T71 xs i).f1) ∧ w.cell? ⟨(ad.add (i.toNat * 5)).block, (ad.add (i.toNat * 5)).off + 2, none⟩ = some (.string (rd_T71 xs i).f2) ∧ w.cell? ⟨(ad.add (i.toNat * 5)).block, (ad.add (i.toNat * 5)).off + 3, none⟩ = some (.int .i64 (rd_T71 xs i).f3) ∧ w.cell? ⟨(ad.add (i.toNat * 5)).block, (ad.add (i.toNat * 5)).off + 4, none⟩ = some (.int .i64 (rd_T71 xs i).f4) := by
  obtain ⟨ad, c, e, _, hK, hc0⟩ := Kd.C_get h z71 i h0 h1
  have hc : ∀ j u, c[j]? = some u → w.cell? (ad.add (i.toNat * 5 + j)) = some u := hc0
  obtain rfl := k71_open hK
  exact ⟨ad, e, hc 0 _ rfl, by rw [← add_field _ _ 1 (by omega)]; exact hc 1 _ rfl, by rw [← add_field _ _ 2 (by omega)]; exact hc 2 _ rfl, by rw [← add_field _ _ 3 (by omega)]; exact hc 3 _ rfl, by rw [← add_field _ _ 4 (by omega)]; exact hc 4 _ rfl⟩
end Go.Proofs.YtoffhlbdfhhhjaaDoor.QL
namespace Go.Proofs.YtoffhlbdfhhhjaaDoor.Fr
open Go Go.RowKit Go.Proofs.YtoffhlbdfhhhjaaDoorW.PrintWords Go.Proofs.YtoffhlbdfhhhjaaDoorW.PrintLast Go.Proofs.YtoffhlbdfhhhjaaDoorW.PrintMore Go.Proofs.YtoffhlbdfhhhjaaDoor.QL
set_option linter.unusedSimpArgs false
set_option linter.unusedVariables false
set_option maxHeartbeats 8000000
set_option maxRecDepth 100000
/-- Some chunk of no great size. -/
def SomeText (n : Nat) (w : World) (e : Ending) (w' : World) : Prop := ∃ s : ByteArray, e = .returned (.string s) ∧ s.size ≤ 70000 + n ∧ Below w.heap.size w w'
theorem text7_calls (x : S71) (w : World) (hs : x.f2.size ≤ 140737488351232) (hn : x.f3 ≤ 9223372036854775807) : Calls Tryd.prog 38 #[.agg #[.int .i64 x.f0, .bool x.f1, .string x.f2, .int .i64 x.f3, .int .i64 x.f4]] w fun e w' => SomeText x.f2.size w e w' := by
  obtain ⟨t, ht⟩ : ∃ t, x.f2 = t := ⟨_, rfl⟩
  obtain ⟨n, hn2⟩ : ∃ t, x.f3 = t := ⟨_, rfl⟩
  rw [ht] at hs ⊢
  rw [hn2] at hn ⊢
  have HS := Aside0.mk hs
  have HN := Aside0.mk hn
  have HB := Aside0.mk (Below.refl w.heap.size w)
  clear hs hn ht hn2
  go_enter Tryd.func38, Tryd.ntmps38
  go_upto_region 1 with fail
  obtain ⟨W, hW⟩ : ∃ W, w.alloc (.cells #[.int .i64 x.f0, .bool x.f1, .string t, .int .i64 n, .int .i64 x.f4] 71) = W := ⟨_, rfl⟩
  obtain ⟨g, hg⟩ : ∃ g, w.heap.size = g := ⟨_, rfl⟩
  have X : Aside0 (W.heap[g]? = some (.cells #[.int .i64 x.f0, .bool x.f1, .string t, .int .i64 n, .int .i64 x.f4] 71 (0, 0))) := ⟨by rw [← hW, ← hg]; exact blk_new w _⟩
  have L : Aside0 (Below w.heap.size w W) := ⟨by rw [← hW]; exact below_alloc HB.out _⟩
  rw [hW, hg]
  clear hW hg HB
  have z2 := blk_cell X.out 2
  have z3 := blk_cell X.out 3
  go_upto_if 3 with fail
  go_loopw [3, 4] (fun vs v w' => ∃ (i : Int) (s : ByteArray), v = .int .i64 i ∧ vs = .string s ∧ Aside0 (1 ≤ i ∧ (i ≤ n ∨ i = 1)) ∧ Aside0 (s.size ≤ 70000 + t.size) ∧ Aside0 (w' = W)) (fun _ v _ => (n - intOf v).toNat)
  case atStart => exact ⟨1, t, rfl, rfl, ⟨by omega⟩, ⟨by omega⟩, ⟨rfl⟩⟩
  case round =>
    obtain ⟨i, s, rfl, rfl, HI, HZ, HW⟩ := hrel
    obtain rfl := HW.out
    clear HW
    have z2 := blk_cell X.out 2
    have z3 := blk_cell X.out 3
    have p0 : (1 : Int) ≤ i := HI.out.1
    by_cases h1 : i < n
    · have d1 : decide (i < n) = true := decide_eq_true h1
      by_cases h2 : s.size < 70000
      · have d2 : decide ((s.size : Int) < 70000) = true := decide_eq_true (by omega)
        have d3 : decide (s.size < 70000) = true := decide_eq_true h2
        obtain ⟨y, hy⟩ : ∃ y, s.toList.isEmpty = y := ⟨_, rfl⟩
        have H2 := Aside0.mk h2
        have H1 := Aside0.mk h1
        cases y
        · have p3 : (s.size : Int) + (t.size : Int) ≤ 9223372036854775807 := by have := HZ.out; have := HS.out; omega
          have p4 : i + 1 ≤ 9223372036854775807 := by have := HN.out; omega
          clear h2 h1
          go_wp2_with fail
          go_roundw
          case rel => exact ⟨i + 1, s ++ t, rfl, rfl, ⟨by have := H1.out; omega⟩, ⟨by rw [ByteArray.size_append]; have := H2.out; omega⟩, ⟨trivial⟩⟩
          case measure =>
            show (n - (i + 1)).toNat < (n - i).toNat
            have := H1.out
            omega
        · clear h2 h1
          go_wp2_with fail
          go_ret
          exact ⟨s, rfl, HZ.out, L.out⟩
      · have d2 : decide ((s.size : Int) < 70000) = false := decide_eq_false (by omega)
        have d3 : decide (s.size < 70000) = false := decide_eq_false h2
        clear h2 h1
        go_wp2_with fail
        go_ret
        exact ⟨s, rfl, HZ.out, L.out⟩
    · have d1 : decide (i < n) = false := decide_eq_false h1
      clear h1
      go_wp2_with fail
      go_ret
      exact ⟨s, rfl, HZ.out, L.out⟩
end Go.Proofs.YtoffhlbdfhhhjaaDoor.Fr
