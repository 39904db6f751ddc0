/- The feed laws' own example: it holds. The package's variable holds what the program lays. -/
import Derived.Test.YtoffhlbdfhhhjaaDoorMFdC
namespace Go.Proofs.YtoffhlbdfhhhjaaDoor.Fr
open Go Go.RowKit Go.Proofs.YtoffhlbdfhhhjaaDoorW.PrintWords Go.Proofs.YtoffhlbdfhhhjaaDoorW.PrintLast Go.Proofs.YtoffhlbdfhhhjaaDoorW.PrintMore Go.Proofs.YtoffhlbdfhhhjaaDoor.QL
set_option linter.unusedSimpArgs false
set_option linter.unusedVariables false
set_option maxHeartbeats 40000000
set_option maxRecDepth 100000
def pingB : ByteArray := ⟨#[0, 0, 8, 6, 0, 0, 0, 0, 0, 49, 50, 51, 52, 53, 54, 55, 56]⟩
def ping0 : ByteArray := ⟨#[0, 0, 8, 6, 0, 0, 0, 0, 0, 49, 50, 51, 52, 53, 54, 55, 56, 0]⟩
def getB : ByteArray := ⟨#[71, 69, 84, 32]⟩
def pingF : Fr := ⟨6, 0, 0, ⟨#[49, 50, 51, 52, 53, 54, 55, 56]⟩, 0, 0, false, 0, 0, 0, []⟩
def fdW (w : ByteArray) : Fd := ⟨16384, w, ByteArray.empty, 0, 0⟩
def fdBroken (most : Int) (pf : ByteArray) (c : Int) : Fd := ⟨most, ByteArray.empty, pf, c, 0⟩
theorem h_next1 : nextF (pushF (newF false 16384) ping0) = (fdW ⟨#[0]⟩, ⟨pingF, true, 0, 0⟩) := by kernel_rfl
theorem h_next2 : nextF (fdW ⟨#[0]⟩) = (fdW ⟨#[0]⟩, ⟨Fr.zero, false, 0, 0⟩) := by kernel_rfl
theorem h_next3 : nextF (pushF (newF true 16384) getB) = (fdBroken 16384 prefaceB 1, ⟨Fr.zero, false, 1, 0⟩) := by kernel_rfl
theorem head_calls (w : World) (hG : GL w) : Calls Tryd.prog 29 #[] w fun e w' => e = .returned (.bool true) ∧ Below w.heap.size w w' := by
  have HG := Aside0.mk hG
  have L0 := Aside0.mk (Below.refl w.heap.size w)
  clear hG
  go_enter Tryd.func29, Tryd.ntmps29
  go_upto_region 2 with (go_at_call 31; refine (new_calls false 16384 _).mono ?_; rintro e w2 ⟨rfl, hf, hb⟩; have F2_ := Aside0.mk hf; have L1_ := Aside0.mk (below_then L0.out L0.out.size hb); clear hf hb)
  obtain ⟨gF, hg⟩ : ∃ g, w.heap.size = g := ⟨_, rfl⟩
  have HFW : Aside0 (w.heap.size ≤ gF) := ⟨by omega⟩
  rw [hg] at F2_ ⊢
  clear hg
  go_upto_region 3 with (go_at_call 31; refine (new_calls true 16384 _).mono ?_; rintro e w5 ⟨rfl, hf, hb⟩; have K5_ := Aside0.mk hf; have F3_ := Aside0.mk (F2_.out.low hb); have L4_ := Aside0.mk (below_then L1_.out L1_.out.size hb); clear hf hb)
  obtain ⟨gK, hg⟩ : ∃ g, w2.heap.size = g := ⟨_, rfl⟩
  have HFK : Aside0 (gF ≠ gK) := ⟨by have := blk_lt F2_.out; omega⟩
  have HKW : Aside0 (w.heap.size ≤ gK) := ⟨by have := L1_.out.size; omega⟩
  rw [hg] at K5_ ⊢
  clear hg
  go_upto_region 6 with (go_at_call 32; refine (push_calls gF (newF false 16384) (⟨#[0, 0, 8, 6, 0, 0, 0, 0, 0, 49, 50, 51, 52, 53, 54, 55, 56, 0]⟩) _ F3_.out (by decide)).mono ?_; rintro e w8 ⟨rfl, hf, hc⟩; have F6_ := Aside0.mk hf; have K7_ := Aside0.mk (hc.fat K5_.out HFK.out.symm); have L8_ := Aside0.mk (hc.below L4_.out HFW.out L4_.out.size); clear hf hc)
  go_upto_region 7 with (go_at_call 36; refine (next_calls gF (pushF (newF false 16384) ping0) _ (HG.out.below L8_.out) F6_.out (by decide) (by decide)).mono ?_; rintro e w11 hnx; rw [h_next1] at hnx; obtain ⟨A6, c6, rfl, hr, hf, hc⟩ := hnx; have F9_ := Aside0.mk hf; have K10_ := Aside0.mk (hc.fat K7_.out HFK.out.symm); have L11_ := Aside0.mk (hc.below L8_.out HFW.out L8_.out.size); clear hf hc hr; simp only [Fr.cells, Fr.zero, pingF, List.length_nil])
  obtain ⟨Wa, hW⟩ : ∃ W, (w11.alloc (.cells #[.int .i64 6, .int .i64 0, .int .i64 0, .string ⟨#[49, 50, 51, 52, 53, 54, 55, 56]⟩, .int .i64 0, .int .i64 0, .bool false, .int .i64 0, .int .i64 0, .int .i64 0, .slice A6 0 c6] 24)).alloc (.cells #[.int .i64 0, .int .i64 0] 35) = W := ⟨_, rfl⟩
  obtain ⟨xa, hx⟩ : ∃ g, w11.heap.size = g := ⟨_, rfl⟩
  obtain ⟨ya, hy⟩ : ∃ g, xa + 1 = g := ⟨_, rfl⟩
  have hb : Below w11.heap.size w11 Wa := by rw [← hW]; exact below_alloc (below_alloc (Below.refl _ _) _) _
  have F12_ := Aside0.mk (F9_.out.low hb)
  have K13_ := Aside0.mk (K10_.out.low hb)
  have L14_ := Aside0.mk (below_then L11_.out L11_.out.size hb)
  have Xa15_ : Aside0 (Wa.heap[xa]? = some (.cells #[.int .i64 6, .int .i64 0, .int .i64 0, .string ⟨#[49, 50, 51, 52, 53, 54, 55, 56]⟩, .int .i64 0, .int .i64 0, .bool false, .int .i64 0, .int .i64 0, .int .i64 0, .slice A6 0 c6] 24 (0, 0))) := ⟨by rw [← hW, ← hx]; exact heap_alloc2_old _ _ _⟩
  have Ya16_ : Aside0 (Wa.heap[ya]? = some (.cells #[.int .i64 0, .int .i64 0] 35 (0, 0))) := ⟨by rw [← hy, ← hW, ← hx]; exact heap_alloc2_new _ _ _⟩
  rw [hW, hx, hy]
  clear hW hx hy hb
  go_upto_region 8 with (go_at_call 36; refine (next_calls gF (fdW ⟨#[0]⟩) _ (HG.out.below L14_.out) F12_.out (by decide) (by decide)).mono ?_; rintro e w21 hnx; rw [h_next2] at hnx; obtain ⟨A7, c7, rfl, hr, hf, hc⟩ := hnx; have F17_ := Aside0.mk hf; have K18_ := Aside0.mk (hc.fat K13_.out HFK.out.symm); have Xa19_ := Aside0.mk (hc.blk Xa15_.out (blk_ne Xa15_.out F12_.out (by decide))); have Ya20_ := Aside0.mk (hc.blk Ya16_.out (blk_ne Ya16_.out F12_.out (by decide))); have L21_ := Aside0.mk (hc.below L14_.out HFW.out L14_.out.size); clear hf hc hr; simp only [Fr.cells, Fr.zero, pingF, List.length_nil])
  obtain ⟨Wb, hW⟩ : ∃ W, (w21.alloc (.cells #[.int .i64 0, .int .i64 0, .int .i64 0, .string ByteArray.empty, .int .i64 0, .int .i64 0, .bool false, .int .i64 0, .int .i64 0, .int .i64 0, .slice A7 0 c7] 24)).alloc (.cells #[.int .i64 0, .int .i64 0] 35) = W := ⟨_, rfl⟩
  obtain ⟨xb, hx⟩ : ∃ g, w21.heap.size = g := ⟨_, rfl⟩
  obtain ⟨yb, hy⟩ : ∃ g, xb + 1 = g := ⟨_, rfl⟩
  have hb : Below w21.heap.size w21 Wb := by rw [← hW]; exact below_alloc (below_alloc (Below.refl _ _) _) _
  have F22_ := Aside0.mk (F17_.out.low hb)
  have K23_ := Aside0.mk (K18_.out.low hb)
  have Xa24_ := Aside0.mk (blk_below Xa19_.out hb)
  have Ya25_ := Aside0.mk (blk_below Ya20_.out hb)
  have L26_ := Aside0.mk (below_then L21_.out L21_.out.size hb)
  have Xb27_ : Aside0 (Wb.heap[xb]? = some (.cells #[.int .i64 0, .int .i64 0, .int .i64 0, .string ByteArray.empty, .int .i64 0, .int .i64 0, .bool false, .int .i64 0, .int .i64 0, .int .i64 0, .slice A7 0 c7] 24 (0, 0))) := ⟨by rw [← hW, ← hx]; exact heap_alloc2_old _ _ _⟩
  have Yb28_ : Aside0 (Wb.heap[yb]? = some (.cells #[.int .i64 0, .int .i64 0] 35 (0, 0))) := ⟨by rw [← hy, ← hW, ← hx]; exact heap_alloc2_new _ _ _⟩
  rw [hW, hx, hy]
  clear hW hx hy hb
  go_upto_region 9 with (go_at_call 32; refine (push_calls gK (newF true 16384) (⟨#[71, 69, 84, 32]⟩) _ K23_.out (by decide)).mono ?_; rintro e w35 ⟨rfl, hf, hc⟩; have F29_ := Aside0.mk (hc.fat F22_.out HFK.out); have K30_ := Aside0.mk hf; have Xa31_ := Aside0.mk (hc.blk Xa24_.out (blk_ne Xa24_.out K23_.out (by decide))); have Ya32_ := Aside0.mk (hc.blk Ya25_.out (blk_ne Ya25_.out K23_.out (by decide))); have Xb33_ := Aside0.mk (hc.blk Xb27_.out (blk_ne Xb27_.out K23_.out (by decide))); have Yb34_ := Aside0.mk (hc.blk Yb28_.out (blk_ne Yb28_.out K23_.out (by decide))); have L35_ := Aside0.mk (hc.below L26_.out HKW.out L26_.out.size); clear hf hc)
  go_upto_region 10 with (go_at_call 36; refine (next_calls gK (pushF (newF true 16384) getB) _ (HG.out.below L35_.out) K30_.out (by decide) (by decide)).mono ?_; rintro e w42 hnx; rw [h_next3] at hnx; obtain ⟨A9, c9, rfl, hr, hf, hc⟩ := hnx; have F36_ := Aside0.mk (hc.fat F29_.out HFK.out); have K37_ := Aside0.mk hf; have Xa38_ := Aside0.mk (hc.blk Xa31_.out (blk_ne Xa31_.out K30_.out (by decide))); have Ya39_ := Aside0.mk (hc.blk Ya32_.out (blk_ne Ya32_.out K30_.out (by decide))); have Xb40_ := Aside0.mk (hc.blk Xb33_.out (blk_ne Xb33_.out K30_.out (by decide))); have Yb41_ := Aside0.mk (hc.blk Yb34_.out (blk_ne Yb34_.out K30_.out (by decide))); have L42_ := Aside0.mk (hc.below L35_.out HKW.out L35_.out.size); clear hf hc hr; simp only [Fr.cells, Fr.zero, pingF, List.length_nil])
  obtain ⟨Wc, hW⟩ : ∃ W, (w42.alloc (.cells #[.int .i64 0, .int .i64 0, .int .i64 0, .string ByteArray.empty, .int .i64 0, .int .i64 0, .bool false, .int .i64 0, .int .i64 0, .int .i64 0, .slice A9 0 c9] 24)).alloc (.cells #[.int .i64 1, .int .i64 0] 35) = W := ⟨_, rfl⟩
  obtain ⟨xc, hx⟩ : ∃ g, w42.heap.size = g := ⟨_, rfl⟩
  obtain ⟨yc, hy⟩ : ∃ g, xc + 1 = g := ⟨_, rfl⟩
  have hb : Below w42.heap.size w42 Wc := by rw [← hW]; exact below_alloc (below_alloc (Below.refl _ _) _) _
  have F43_ := Aside0.mk (F36_.out.low hb)
  have K44_ := Aside0.mk (K37_.out.low hb)
  have Xa45_ := Aside0.mk (blk_below Xa38_.out hb)
  have Ya46_ := Aside0.mk (blk_below Ya39_.out hb)
  have Xb47_ := Aside0.mk (blk_below Xb40_.out hb)
  have Yb48_ := Aside0.mk (blk_below Yb41_.out hb)
  have L49_ := Aside0.mk (below_then L42_.out L42_.out.size hb)
  have Xc50_ : Aside0 (Wc.heap[xc]? = some (.cells #[.int .i64 0, .int .i64 0, .int .i64 0, .string ByteArray.empty, .int .i64 0, .int .i64 0, .bool false, .int .i64 0, .int .i64 0, .int .i64 0, .slice A9 0 c9] 24 (0, 0))) := ⟨by rw [← hW, ← hx]; exact heap_alloc2_old _ _ _⟩
  have Yc51_ : Aside0 (Wc.heap[yc]? = some (.cells #[.int .i64 1, .int .i64 0] 35 (0, 0))) := ⟨by rw [← hy, ← hW, ← hx]; exact heap_alloc2_new _ _ _⟩
  rw [hW, hx, hy]
  clear hW hx hy hb
  have qXa0 := blk_cell Xa45_.out 0
  have qXa3 := blk_cell Xa45_.out 3
  have qYa0 := blk_cell Ya46_.out 0
  have qYa1 := blk_cell Ya46_.out 1
  have qYb0 := blk_cell Yb48_.out 0
  have qYb1 := blk_cell Yb48_.out 1
  have qYc0 := blk_cell Yc51_.out 0
  have qYc1 := blk_cell Yc51_.out 1
  go_wp2_with (first
    | (go_at_call 35; refine (waiting_calls gF (fdW ⟨#[0]⟩) _ F43_.out).mono ?_; rintro e w60 ⟨rfl, hb⟩; have F52_ := Aside0.mk (F43_.out.low hb); have K53_ := Aside0.mk (K44_.out.low hb); have Xa54_ := Aside0.mk (blk_below Xa45_.out hb); have Ya55_ := Aside0.mk (blk_below Ya46_.out hb); have Xb56_ := Aside0.mk (blk_below Xb47_.out hb); have Yb57_ := Aside0.mk (blk_below Yb48_.out hb); have Xc58_ := Aside0.mk (blk_below Xc50_.out hb); have Yc59_ := Aside0.mk (blk_below Yc51_.out hb); have L60_ := Aside0.mk (below_then L49_.out L49_.out.size hb); clear hb; have qYc0 := blk_cell Yc59_.out 0; have qYc1 := blk_cell Yc59_.out 1)
    | (go_at_call 35; refine (waiting_calls gK (fdBroken 16384 prefaceB 1) _ K53_.out).mono ?_; rintro e w69 ⟨rfl, hb⟩; have F61_ := Aside0.mk (F52_.out.low hb); have K62_ := Aside0.mk (K53_.out.low hb); have Xa63_ := Aside0.mk (blk_below Xa54_.out hb); have Ya64_ := Aside0.mk (blk_below Ya55_.out hb); have Xb65_ := Aside0.mk (blk_below Xb56_.out hb); have Yb66_ := Aside0.mk (blk_below Yb57_.out hb); have Xc67_ := Aside0.mk (blk_below Xc58_.out hb); have Yc68_ := Aside0.mk (blk_below Yc59_.out hb); have L69_ := Aside0.mk (below_then L60_.out L60_.out.size hb); clear hb))
  go_ret
  exact ⟨rfl, L69_.out⟩
end Go.Proofs.YtoffhlbdfhhhjaaDoor.Fr
