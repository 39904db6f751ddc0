/- What a list of streams' windows says of a stream: the closure and the search of Ready. The list fits in memory. -/
import Derived.Test.YtedkjbdkokdgdaaMShare
import Derived.Deep.QuietTactic
namespace Go.Proofs.Ytedkjbdkokdgdaa.QL
open Go Go.RowKit Go.Proofs.YtedkjbdkokdgdaaW.PrintWords Go.Proofs.YtedkjbdkokdgdaaW.PrintLast
structure S50 where
  f0 : Int
  f1 : Int
def z50 : S50 := ⟨0, 0⟩
def k50 : Kd S50 := Kd.iso (Kd.pair (Kd.int .i64) (Kd.int .i64)) (fun x : S50 => (x.f0, x.f1))
theorem k50_open {w : World} {x : S50} {cs : List Value} (h : k50.K w x cs) : cs = [.int .i64 x.f0, .int .i64 x.f1] := by
  obtain ⟨_, _, rfl, rfl, rfl⟩ := h
  rfl
theorem k50_openM {w : World} {base : Nat} {ok : Nat → Prop} {x : S50} {cs : List Value} (h : k50.M w base ok x cs) : cs = [.int .i64 x.f0, .int .i64 x.f1] := by
  obtain ⟨_, _, rfl, rfl, rfl⟩ := h
  rfl
theorem k50_mk (w : World) (x : S50)  : k50.K w x [.int .i64 x.f0, .int .i64 x.f1] := ⟨[.int .i64 x.f0], [.int .i64 x.f1], rfl, rfl, rfl⟩
theorem k50_mkM (w : World) (base : Nat) (ok : Nat → Prop) (x : S50)  : k50.M w base ok x [.int .i64 x.f0, .int .i64 x.f1] := ⟨[.int .i64 x.f0], [.int .i64 x.f1], rfl, rfl, rfl⟩
def rd_T50 (xs : List S50) (i : Int) : S50 := xs.getD i.toNat z50
theorem at_T50 {w : World} {A : Option Addr} {n : Nat} {xs : List S50} (h : Kd.C k50 w A n xs) (i : Int) (h0 : 0 ≤ i) (h1 : i < n) : ∃ ad , A = some ad ∧ w.cell? (ad.add (i.toNat * 2)) = some (.int .i64 (rd_T50 xs i).f0) ∧ w.cell? ⟨(ad.add (i.toNat * 2)).block, (ad.add (i.toNat * 2)).off + 1, none⟩ = some (.int .i64 (rd_T50 xs i).f1) := by
  obtain ⟨ad, c, e, _, hK, hc0⟩ := Kd.C_get h z50 i h0 h1
  have hc : ∀ j u, c[j]? = some u → w.cell? (ad.add (i.toNat * 2 + j)) = some u := hc0
  obtain rfl := k50_open hK
  exact ⟨ad, e, hc 0 _ rfl, by rw [← add_field _ _ 1 (by omega)]; exact hc 1 _ rfl⟩
end Go.Proofs.Ytedkjbdkokdgdaa.QL
namespace Go.Proofs.Ytedkjbdkokdgdaa.Sh
open Go Go.RowKit Go.Proofs.YtedkjbdkokdgdaaW.PrintWords Go.Proofs.YtedkjbdkokdgdaaW.PrintLast Go.Proofs.YtedkjbdkokdgdaaW.PrintMore Go.Proofs.Ytedkjbdkokdgdaa.QL
set_option linter.unusedSimpArgs false
set_option linter.unusedVariables false
set_option maxHeartbeats 4000000
set_option maxRecDepth 100000
theorem clos_calls (id left key : Int) (g : Nat) (w : World) (h : w.heap[g]? = some (.cells #[.int .i64 key] 2 (0, 0))) : Calls Try.prog 29 #[.agg #[.int .i64 id, .int .i64 left], .pointer (some ⟨g, 0, none⟩)] w fun e w' => e = .returned (.bool (id == key)) ∧ Below w.heap.size w w' := by
  have HB := Aside0.mk (Below.refl w.heap.size w)
  have H := Aside0.mk h
  clear h
  go_enter Try.func29, Try.ntmps29
  go_upto_region 1 with fail
  obtain ⟨W, hW⟩ : ∃ W, w.alloc (.cells #[.int .i64 id, .int .i64 left] 50) = W := ⟨_, rfl⟩
  obtain ⟨b, hb⟩ : ∃ g, w.heap.size = g := ⟨_, rfl⟩
  have X : Aside0 (W.heap[b]? = some (.cells #[.int .i64 id, .int .i64 left] 50 (0, 0))) := ⟨by rw [← hW, ← hb]; exact blk_new _ _⟩
  have L : Aside0 (Below w.heap.size w W) := ⟨by rw [← hW]; exact below_alloc HB.out _⟩
  rw [hW, hb]
  clear hW hb
  have x0 := blk_cell X.out 0
  have x1 := blk_cell (blk_below H.out L.out) 0
  go_wp2_with fail
  go_ret
  exact ⟨rfl, L.out⟩
/-- What the list says that a stream has left. -/
def leftL (key : Int) : List S50 → Int
  | [] => 0
  | x :: l => if x.f0 = key then x.f1 else leftL key l
theorem leftL_drop (key : Int) (l : List S50) (i : Nat) (h : i < l.length) : leftL key (l.drop i) = if (l.getD i z50).f0 = key then (l.getD i z50).f1 else leftL key (l.drop (i + 1)) := by
  rw [List.drop_eq_getElem_cons h, List.getD_eq_getElem?_getD, List.getElem?_eq_getElem h]
  rfl
/-- An index of the stream's, or -1. -/
def IdxPost (l : List S50) (key : Int) (w : World) (e : Ending) (w' : World) : Prop := ∃ r : Int, e = .returned (.int .i64 r) ∧ Below w.heap.size w w' ∧ ((r = -1 ∧ leftL key l = 0) ∨ ∃ i : Nat, r = i ∧ i < l.length ∧ (l.getD i z50).f1 = leftL key l)
theorem index_calls (A : Option Addr) (c : Nat) (l : List S50) (key : Int) (g : Nat) (w : World) (hl : l.length ≤ 9223372036854775807) (hC : Kd.C k50 w A l.length l) (h : w.heap[g]? = some (.cells #[.int .i64 key] 2 (0, 0))) :
    Calls Try.prog 28 #[.slice A l.length c, .func (.func 29) #[] #[.pointer (some ⟨g, 0, none⟩)]] w fun e w' => IdxPost l key w e w' := by
  have HB := Aside0.mk (Below.refl w.heap.size w)
  have H := Aside0.mk h
  have HC := Aside0.mk hC
  have HL := Aside0.mk hl
  clear h hC hl
  go_enter Try.func28, Try.ntmps28
  go_upto_if 2 with fail
  go_loopw [8] (fun v w' => ∃ i : Nat, v = .int .i64 (i : Int) ∧ Aside0 (i ≤ l.length) ∧ Aside0 (leftL key l = leftL key (l.drop i)) ∧ Aside0 (Below w.heap.size w w')) (fun v _ => ((l.length : Int) - intOf v).toNat)
  case atStart => exact ⟨0, rfl, ⟨Nat.zero_le _⟩, ⟨rfl⟩, HB⟩
  case round =>
    obtain ⟨i, rfl, HI, HD, L⟩ := hrel
    by_cases hil : i < l.length
    · have d1 : decide ((i : Int) < (l.length : Int)) = true := decide_eq_true (by omega)
      have d2 : decide (i < l.length) = true := decide_eq_true hil
      obtain ⟨m, hm⟩ : ∃ m, i + 1 = m := ⟨_, rfl⟩
      have hw1 : wrap64 ((i : Int) + 1) = (m : Int) := by have := HL.out; unfold wrap64; omega
      have HM : Aside0 (i < l.length ∧ i + 1 = m) := ⟨hil, hm⟩
      have p0 : (0 : Int) ≤ (i : Int) := by omega
      have p1 : (i : Int) < (l.length : Int) := by omega
      obtain ⟨x, hx⟩ : ∃ x, rd_T50 l (i : Int) = x := ⟨_, rfl⟩
      have HX : Aside0 (l.getD i z50 = x) := ⟨by rw [← hx]; unfold rd_T50; rw [Int.toNat_natCast]⟩
      obtain ⟨ad, hA, x0, x1⟩ := at_T50 (Kd.C_below HC.out L.out) (i : Int) p0 p1
      rw [Int.toNat_natCast, hx] at x0 x1
      subst hA
      clear hx hm hil
      have HDR := Aside0.mk (leftL_drop key l i HM.out.1)
      rw [HX.out] at HDR
      obtain ⟨y, hy⟩ : ∃ y, (x.f0 == key) = y := ⟨_, rfl⟩
      have HY := Aside0.mk hy
      clear hy
      have hcl : Aside0 (wr.heap[g]? = some (.cells #[.int .i64 key] 2 (0, 0))) := ⟨blk_below H.out L.out⟩
      cases y
      · go_wp2_with (go_at_call 29; refine (clos_calls x.f0 x.f1 key g _ hcl.out).mono ?_; rintro e w3 ⟨rfl, hb⟩; rw [HY.out]; have L3 := Aside0.mk (below_then L.out L.out.size hb); clear hb)
        go_roundw
        case rel => exact ⟨m, congrArg (Value.int .i64) hw1, ⟨by have := HM.out; omega⟩, ⟨by rw [HD.out, HDR.out, if_neg (by simpa using HY.out), HM.out.2]⟩, L3⟩
        case measure =>
          rw [hw1]
          show ((l.length : Int) - (m : Int)).toNat < ((l.length : Int) - (i : Int)).toNat
          have := HM.out
          omega
      · go_wp2_with (go_at_call 29; refine (clos_calls x.f0 x.f1 key g _ hcl.out).mono ?_; rintro e w3 ⟨rfl, hb⟩; rw [HY.out]; have L3 := Aside0.mk (below_then L.out L.out.size hb); clear hb)
        go_ret
        exact ⟨(i : Int), rfl, L3.out, .inr ⟨i, rfl, HM.out.1, by rw [HX.out, HD.out, HDR.out, if_pos (by simpa using HY.out)]⟩⟩
    · have d1 : decide ((i : Int) < (l.length : Int)) = false := decide_eq_false (by omega)
      have d2 : decide (i < l.length) = false := decide_eq_false hil
      have HE : Aside0 (l.drop i = []) := ⟨List.drop_of_length_le (by omega)⟩
      clear hil
      go_wp2_with fail
      go_ret
      exact ⟨-1, rfl, L.out, .inl ⟨rfl, by rw [HD.out, HE.out]; rfl⟩⟩
end Go.Proofs.Ytedkjbdkokdgdaa.Sh
