/- The laws' own small functions: few params, sameParams, the first answers. The package's variable holds what the program lays. -/
import Derived.Test.YtoffhlbdfhhhjaaDoorMFg4
import Derived.Test.YtoffhlbdfhhhjaaDoorMFg7
namespace Go.Proofs.YtoffhlbdfhhhjaaDoor.Fr
open Go Go.RowKit Go.Proofs.YtoffhlbdfhhhjaaDoorW.PrintWords Go.Proofs.YtoffhlbdfhhhjaaDoorW.PrintLast Go.Proofs.YtoffhlbdfhhhjaaDoorW.PrintMore Go.Proofs.YtoffhlbdfhhhjaaDoor.QL
set_option linter.unusedSimpArgs false
set_option linter.unusedVariables false
set_option maxHeartbeats 40000000
set_option maxRecDepth 100000
theorem same_from (L : List S32) (hl : L.length ≤ 9223372036854775806) (n : Nat) (i : Nat) (h : L.length = i + n) : heraldlaw06_sameParams.l0 (n + 1) L L (i : Int) = some true := by
  induction n generalizing i with
  | zero =>
    unfold heraldlaw06_sameParams.l0
    rw [if_neg (by omega)]
  | succ n ih =>
    unfold heraldlaw06_sameParams.l0
    have e : wrap64 ((i : Int) + 1) = ((i + 1 : Nat) : Int) := by unfold wrap64; omega
    rw [if_pos (by omega), if_pos (by omega), if_pos (by omega), if_neg (by simp), e]
    exact ih (i + 1) (by omega)
theorem same_self (L : List S32) (hl : L.length ≤ 9223372036854775806) : heraldlaw06_sameParams.f (L.length + 1) L L = some true := by
  unfold heraldlaw06_sameParams.f
  rw [if_pos rfl]
  exact same_from L hl L.length 0 (by omega)
theorem samep_calls (A B : Option Addr) (c d : Nat) (L : List S32) (hl : L.length ≤ 9223372036854775806) (w : World) (h1 : Kd.C k32 w A L.length L) (h2 : L.length ≤ c) (h3 : Kd.C k32 w B L.length L) (h4 : L.length ≤ d) : Calls Tryd.prog 24 #[.slice A L.length c, .slice B L.length d] w fun e w' => e = .returned (.bool true) ∧ Below w.heap.size w w' := (heraldlaw06_sameParams.calls (L.length + 1) A c L B d L true w h1 h2 h3 h4 (same_self L hl)).mono (fun _ _ h => ⟨h.1, by first | exact h.2 | exact h.2.below⟩)
theorem same_calls (f : Fr) (A B : Option Addr) (c d : Nat) (w : World) (hl : f.ps.length ≤ 9223372036854775806) (h1 : Kd.C k32 w A f.ps.length f.ps) (h2 : f.ps.length ≤ c) (h3 : Kd.C k32 w B f.ps.length f.ps) (h4 : f.ps.length ≤ d) :
    Calls Tryd.prog 22 #[.agg (f.cells A c), .agg (f.cells B d)] w fun e w' => e = .returned (.bool true) ∧ Below w.heap.size w w' := by
  unfold Fr.cells
  have HL := Aside0.mk hl
  have H1 := Aside0.mk h1
  have H2 := Aside0.mk h2
  have H3 := Aside0.mk h3
  have H4 := Aside0.mk h4
  have HB := Aside0.mk (Below.refl w.heap.size w)
  clear hl h1 h2 h3 h4
  go_enter Tryd.func22, Tryd.ntmps22
  go_upto_region 1 with fail
  go_wp2_with (go_at_call 24; refine (samep_calls A B c d f.ps HL.out _ (Kd.C_below H1.out (below_alloc (below_alloc HB.out _) _)) H2.out (Kd.C_below H3.out (below_alloc (below_alloc HB.out _) _)) H4.out).mono ?_; rintro e w5 ⟨rfl, hb⟩; have H5 := Aside0.mk hb; clear hb)
  go_ret
  exact ⟨rfl, below_then (below_alloc (below_alloc HB.out _) _) (below_alloc (below_alloc HB.out _) _).size H5.out⟩
def b1 : ByteArray := ⟨#[0, 0, 6, 4, 0, 0, 0, 0, 0, 0, 4, 0, 0, 0, 100]⟩
def b2 : ByteArray := ⟨#[0, 64, 1, 0, 0, 0, 0, 0, 1]⟩
def fW : Fr := ⟨0, 1, 1, ⟨#[104, 105]⟩, 0, 0, false, 0, 0, 0, []⟩
def fP : Fr := { Fr.zero with ty := 4, ps := [⟨4, 100⟩] }
theorem rd_b1 : rdF b1 0 = ⟨fP, 15, 0, 0⟩ := by kernel_rfl
theorem rd_b2 : rdF b2 0 = ⟨Fr.zero, 0, 6, 0⟩ := by kernel_rfl
theorem wr_fW : wr fW = (0, [0, 0, 2, 0, 1, 0, 0, 0, 1, 104, 105]) := by kernel_rfl
theorem read_b1 (w : World) (hG : GL w) : Calls Tryd.prog 20 #[.string ⟨#[0, 0, 6, 4, 0, 0, 0, 0, 0, 0, 4, 0, 0, 0, 100]⟩, .int .i64 0] w fun e w' => ∃ A c, e = .returned (.tuple #[.agg #[.int .i64 4, .int .i64 0, .int .i64 0, .string ⟨#[]⟩, .int .i64 0, .int .i64 0, .bool false, .int .i64 0, .int .i64 0, .int .i64 0, .slice A 1 c], .int .i64 15, .agg #[.int .i64 0, .int .i64 0]]) ∧ Kd.R k32 32 w' w.heap.size (fun _ => True) (.slice A 1 c) [⟨4, 100⟩] ∧ Below w.heap.size w w' := by
  refine (read_calls b1 0 w hG (by decide)).mono ?_
  rintro e w' h
  rw [rd_b1] at h
  exact h
theorem read_b2 (w : World) (hG : GL w) : Calls Tryd.prog 20 #[.string ⟨#[0, 64, 1, 0, 0, 0, 0, 0, 1]⟩, .int .i64 0] w fun e w' => ∃ A c, e = .returned (.tuple #[.agg #[.int .i64 0, .int .i64 0, .int .i64 0, .string ⟨#[]⟩, .int .i64 0, .int .i64 0, .bool false, .int .i64 0, .int .i64 0, .int .i64 0, .slice A 0 c], .int .i64 0, .agg #[.int .i64 6, .int .i64 0]]) ∧ Kd.R k32 32 w' w.heap.size (fun _ => True) (.slice A 0 c) [] ∧ Below w.heap.size w w' := by
  refine (read_calls b2 0 w hG (by decide)).mono ?_
  rintro e w' h
  rw [rd_b2] at h
  exact h
theorem write_fW (w : World) (hG : GL w) : Calls Tryd.prog 16 #[.agg #[.int .i64 0, .int .i64 1, .int .i64 1, .string ⟨#[104, 105]⟩, .int .i64 0, .int .i64 0, .bool false, .int .i64 0, .int .i64 0, .int .i64 0, .slice none 0 0]] w fun e w' => e = .returned (.tuple #[.string ⟨#[0, 0, 2, 0, 1, 0, 0, 0, 1, 104, 105]⟩, .int .i64 0]) ∧ Below w.heap.size w w' := by
  refine (write_calls fW none 0 w hG (C_nil w) (by decide) (by decide)).mono ?_
  rintro e w' h
  rw [wr_fW] at h
  exact h
theorem first_calls (w : World) (hG : GL w) : Calls Tryd.prog 19 #[] w fun e w' => e = .returned (.bool true) ∧ Below w.heap.size w w' := by
  have HG := Aside0.mk hG
  have HB := Aside0.mk (Below.refl w.heap.size w)
  clear hG
  go_enter Tryd.func19, Tryd.ntmps19
  go_upto_region 2 with (go_at_call 16; refine (write_fW _ HG.out).mono ?_; rintro e w2 ⟨rfl, hb⟩; have L2 := Aside0.mk (below_then HB.out HB.out.size hb); clear hb)
  go_upto_region 3 with (go_at_call 20; refine (read_b1 _ (HG.out.below L2.out)).mono ?_; rintro e w3 ⟨A3, c3, rfl, hr, hb⟩; have L3 := Aside0.mk (below_then L2.out L2.out.size hb); have R3 := Aside0.mk hr; clear hb hr)
  obtain ⟨W4, hW4⟩ : ∃ W, (w3.alloc (.cells #[.int .i64 4, .int .i64 0, .int .i64 0, .string ⟨#[]⟩, .int .i64 0, .int .i64 0, .bool false, .int .i64 0, .int .i64 0, .int .i64 0, .slice A3 1 c3] 24)).alloc (.cells #[.int .i64 0, .int .i64 0] 35) = W := ⟨_, rfl⟩
  have P3 : Aside0 (W4.heap[w3.heap.size]? = some (.cells #[.int .i64 4, .int .i64 0, .int .i64 0, .string ⟨#[]⟩, .int .i64 0, .int .i64 0, .bool false, .int .i64 0, .int .i64 0, .int .i64 0, .slice A3 1 c3] 24 (0, 0))) := ⟨by rw [← hW4]; exact heap_alloc2_old _ _ _⟩
  have P5 : Aside0 (W4.heap[w3.heap.size + 1]? = some (.cells #[.int .i64 0, .int .i64 0] 35 (0, 0))) := ⟨by rw [← hW4]; exact heap_alloc2_new _ _ _⟩
  have L4 : Aside0 (Below w.heap.size w W4) := ⟨by rw [← hW4]; exact below_alloc (below_alloc L3.out _) _⟩
  have R4 : Aside0 (Kd.C k32 W4 A3 1 [⟨4, 100⟩] ∧ 1 ≤ c3) := ⟨by rw [← hW4]; have h := Kd.R_reads' R3.out; exact ⟨Kd.C_below h.2.2 (below_alloc (below_alloc (Below.refl _ _) _) _), h.2.1⟩⟩
  obtain ⟨g3, hg3⟩ : ∃ g, w3.heap.size = g := ⟨_, rfl⟩
  obtain ⟨g5, hg5⟩ : ∃ g, g3 + 1 = g := ⟨_, rfl⟩
  rw [hW4, hg3, hg5]
  rw [hg3] at P3 P5
  rw [hg5] at P5
  clear hW4 hg3 hg5 R3 L3 L2
  go_upto_region 4 with (go_at_call 20; refine (read_b2 _ (HG.out.below L4.out)).mono ?_; rintro e w5 ⟨A4, c4, rfl, hr, hb⟩; have L5 := Aside0.mk hb; clear hb hr)
  obtain ⟨W6, hW6⟩ : ∃ W, (w5.alloc (.cells #[.int .i64 0, .int .i64 0, .int .i64 0, .string ⟨#[]⟩, .int .i64 0, .int .i64 0, .bool false, .int .i64 0, .int .i64 0, .int .i64 0, .slice A4 0 c4] 24)).alloc (.cells #[.int .i64 6, .int .i64 0] 35) = W := ⟨_, rfl⟩
  have Q8 : Aside0 (W6.heap[w5.heap.size + 1]? = some (.cells #[.int .i64 6, .int .i64 0] 35 (0, 0))) := ⟨by rw [← hW6]; exact heap_alloc2_new _ _ _⟩
  have L6 : Aside0 (Below W4.heap.size W4 W6) := ⟨by rw [← hW6]; exact below_alloc (below_alloc L5.out _) _⟩
  obtain ⟨g6, hg6⟩ : ∃ g, w5.heap.size = g := ⟨_, rfl⟩
  obtain ⟨g8, hg8⟩ : ∃ g, g6 + 1 = g := ⟨_, rfl⟩
  rw [hW6, hg6, hg8]
  rw [hg6, hg8] at Q8
  have Q3 := Aside0.mk (blk_below P3.out L6.out)
  have Q5 := Aside0.mk (blk_below P5.out L6.out)
  have R6 := Aside0.mk (Kd.C_below R4.out.1 L6.out)
  have LL := Aside0.mk (below_then L4.out L4.out.size L6.out)
  have x0 := blk_cell Q5.out 0
  have x1 := blk_cell Q5.out 1
  have y0 := blk_cell Q8.out 0
  have y1 := blk_cell Q8.out 1
  clear hW6 hg6 hg8
  go_upto_region 6 with fail
  clear x0 x1 y0 y1
  go_wp2_with (first | (refine wpList_load_row rfl 24 _ rfl g3 rfl 24 #[.int .i64 4, .int .i64 0, .int .i64 0, .string ⟨#[]⟩, .int .i64 0, .int .i64 0, .bool false, .int .i64 0, .int .i64 0, .int .i64 0, .slice A3 1 c3] (0, 0) _ Q3.out Tryd.underlying24 (by rfl) (by kernel_rfl) ?_) | (go_at_call 22; refine (same_calls fP A3 _ c3 1 _ (by decide) (Kd.C_below R6.out (below_alloc (Below.refl _ _) _)) R4.out.2 (C_one32 _ 4 100 _ rfl) (Nat.le_refl 1)).mono ?_; rintro e w8 ⟨rfl, hb⟩; have L8 := Aside0.mk hb; clear hb))
  go_ret
  exact ⟨rfl, below_then (below_alloc LL.out _) (below_alloc LL.out _).size L8.out⟩
end Go.Proofs.YtoffhlbdfhhhjaaDoor.Fr
namespace Go.Proofs.YtoffhlbdfhhhjaaDoor.Fr
open Go Go.RowKit Go.Proofs.YtoffhlbdfhhhjaaDoorW.PrintWords Go.Proofs.YtoffhlbdfhhhjaaDoorW.PrintLast Go.Proofs.YtoffhlbdfhhhjaaDoorW.PrintMore Go.Proofs.YtoffhlbdfhhhjaaDoor.QL
set_option linter.unusedSimpArgs false
set_option linter.unusedVariables false
set_option maxHeartbeats 40000000
set_option maxRecDepth 100000
theorem few_loop (L : List S32) (hl : L.length ≤ 8796093022208) : ∀ (n i : Nat), i ≤ L.length → i ≤ 2730 → n = 2731 - i → heraldlaw06_few.l0 n L ((L.take i).map few1) (i : Int) = some (fewL L) := by
  intro n
  induction n with
  | zero => intro i h1 h2 h3; omega
  | succ n ih =>
    intro i h1 h2 h3
    unfold heraldlaw06_few.l0
    by_cases hi : (i : Int) < (L.length : Int)
    · rw [if_pos hi]
      by_cases h27 : (i : Int) < 2730
      · have e : wrap64 ((i : Int) + 1) = ((i + 1 : Nat) : Int) := by unfold wrap64; omega
        have hr : rd_T32 L (i : Int) = L[i]'(by omega) := by
          have : i < L.length := by omega
          unfold rd_T32
          simp [this]
        rw [if_pos h27, if_pos (by omega), if_pos (by rw [List.length_map, List.length_take]; omega), e, hr, ← ih (i + 1) (by omega) (by omega) (by omega), List.take_succ_eq_append_getElem (by omega), List.map_append]
        rfl
      · rw [if_neg h27]
        have : i = 2730 := by omega
        subst this
        rfl
    · rw [if_neg hi]
      have : i = L.length := by omega
      subst this
      unfold fewL
      rw [List.take_of_length_le (Nat.le_refl _), List.take_of_length_le h2]
theorem few_calls (A : Option Addr) (c : Nat) (l : List S32) (hl : l.length ≤ 8796093022208) (w : World) (h1 : Kd.C k32 w A l.length l) (h2 : l.length ≤ c) : Calls Tryd.prog 23 #[.slice A l.length c] w fun e w' => ∃ v, e = .returned v ∧ Kd.R k32 32 w' w.heap.size (fun _ => True) v (fewL l) ∧ Below w.heap.size w w' :=
  heraldlaw06_few.calls 2731 A c l (fewL l) w h1 h2 (few_loop l hl 2731 0 (by omega) (by omega) (by omega))
end Go.Proofs.YtoffhlbdfhhhjaaDoor.Fr
namespace Go.Proofs.YtoffhlbdfhhhjaaDoor.Fr
open Go Go.RowKit Go.Proofs.YtoffhlbdfhhhjaaDoorW.PrintWords Go.Proofs.YtoffhlbdfhhhjaaDoorW.PrintLast Go.Proofs.YtoffhlbdfhhhjaaDoorW.PrintMore Go.Proofs.YtoffhlbdfhhhjaaDoor.QL
set_option linter.unusedSimpArgs false
set_option linter.unusedVariables false
theorem fewL_par (l : List S32) : (fewL l).all (fun p => inR p.f0 0 65535 && inR p.f1 0 4294967295) = true := by
  unfold fewL
  rw [List.all_eq_true]
  intro p hp
  obtain ⟨q, _, rfl⟩ := List.mem_map.1 hp
  have h0 : 0 ≤ Go.bits .and .i64 q.f0 65535 ∧ Go.bits .and .i64 q.f0 65535 ≤ 65535 := and_le q.f0 65535 (by decide)
  have h1 : 0 ≤ Go.bits .and .i64 q.f1 4294967295 ∧ Go.bits .and .i64 q.f1 4294967295 ≤ 4294967295 := and_le q.f1 4294967295 (by decide)
  show (inR (Go.bits .and .i64 q.f0 65535) 0 65535 && inR (Go.bits .and .i64 q.f1 4294967295) 0 4294967295) = true
  rw [inR_of h0.1 h0.2, inR_of h1.1 h1.2]
  rfl
end Go.Proofs.YtoffhlbdfhhhjaaDoor.Fr
