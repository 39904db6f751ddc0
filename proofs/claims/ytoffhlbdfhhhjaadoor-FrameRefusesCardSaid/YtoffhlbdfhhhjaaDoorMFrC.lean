/- Frames as bytes: what HEADERS and SETTINGS lay, and which functions a type has. The frame lies in a block below the builder's, its params came in before; the texts fit in memory. -/
import Derived.Test.YtoffhlbdfhhhjaaDoorMFrB
import Derived.Laws.EntriesVeiled
namespace Go.Proofs.YtoffhlbdfhhhjaaDoor.Fr
open Go Go.RowKit Go.Proofs.YtoffhlbdfhhhjaaDoorW.PrintWords Go.Proofs.YtoffhlbdfhhhjaaDoorW.PrintLast Go.Proofs.YtoffhlbdfhhhjaaDoorW.PrintMore Go.Proofs.YtoffhlbdfhhhjaaDoor.QL
set_option linter.unusedSimpArgs false
set_option linter.unusedVariables false
set_option maxHeartbeats 4000000
set_option maxRecDepth 100000
/-- Is the flag set? -/
def has (fl m : Int) : Bool := Go.bits .and .i64 fl m != 0
theorem weight_length (f : Fr) : (weight f).length = 5 := by simp [weight, be_length]
theorem layHeaders_calls (B b g : Nat) (l : List UInt8) (f : Fr) (A : Option Addr) (c : Nat) (w : World) (h : Bd B b l w) (hf : At w g f A c) (hg : g ≠ b) (hp : has f.fl 32 = true → 0 ≤ f.dep ∧ f.dep ≤ 2147483647 ∧ 1 ≤ f.wt ∧ f.wt ≤ 256) (hlen : l.length + f.da.size + 16 ≤ 140737488355328) (hBw : B ≤ w.heap.size) :
    Lays 73 B b g l ((if has f.fl 32 = true then weight f else []) ++ f.da.data.toList) w := by
  have z1 := hf.c1
  have z3 := hf.c3
  have HF := Aside0.mk hf
  have HG := Aside0.mk hg
  have H := Aside0.mk h
  have HBW := Aside0.mk hBw
  have HL := Aside0.mk hlen
  have HP := Aside0.mk hp
  clear h hf hBw hlen hg hp
  cases hx : has f.fl 32
  · have hx' : (Go.bits .and .i64 f.fl 32 != 0) = false := hx
    clear hx
    unfold Lays
    go_enter Tryd.func73, Tryd.ntmps73
    go_wp2_with (go_at_call 49; refine (text_calls B b l f.da _ H.out (by have := HL.out; omega) HBW.out).mono ?_; rintro e w8 ⟨rfl, h1, h2⟩; have H1 := Aside0.mk h1; have H2 := Aside0.mk h2; clear h1 h2)
    go_end0
    exact ⟨rfl, by simpa using H1.out, H2.out⟩
  · have hx' : (Go.bits .and .i64 f.fl 32 != 0) = true := hx
    have HP2 := Aside0.mk (HP.out hx)
    clear hx
    unfold Lays
    go_enter Tryd.func73, Tryd.ntmps73
    go_wp2_with (first
      | (go_at_call 75; refine (layWeight_calls B b g l f A c _ H.out HF.out HG.out HP2.out.1 HP2.out.2.1 HP2.out.2.2.1 HP2.out.2.2.2 (by have := HL.out; omega) HBW.out).mono ?_; rintro e w7 ⟨rfl, h1, h2⟩; have z3 := (HF.out.wr HG.out h2).c3; have H1 := Aside0.mk h1; have H2 := Aside0.mk h2; clear h1 h2)
      | (go_at_call 49; refine (text_calls B b _ f.da _ H1.out (by rw [List.length_append, weight_length]; have := HL.out; omega) (Nat.le_trans HBW.out H2.out.size)).mono ?_; rintro e w8 ⟨rfl, h1, h2⟩; have H3 := Aside0.mk h1; have H4 := Aside0.mk (H2.out.trans h2); clear h1 h2))
    go_end0
    exact ⟨rfl, by simpa using H3.out, H4.out⟩
/-- Params as bytes. -/
def params (ps : List S32) : List UInt8 := ps.flatMap fun p => be 2 p.f0 ++ be 4 p.f1
theorem params_length (ps : List S32) : (params ps).length = 6 * ps.length := by
  induction ps with
  | nil => rfl
  | cons p t ih => simp only [params, List.flatMap_cons, List.length_append, be_length, List.length_cons] at *; omega
theorem params_take (ps : List S32) (k : Nat) (h : k < ps.length) : params (ps.take (k + 1)) = params (ps.take k) ++ be 2 (rd_T32 ps (k : Int)).f0 ++ be 4 (rd_T32 ps (k : Int)).f1 := by
  have e : rd_T32 ps (k : Int) = ps[k] := by simp [rd_T32, h]
  unfold params
  rw [List.take_succ_eq_append_getElem h, e, List.flatMap_append]
  simp only [List.flatMap_cons, List.flatMap_nil, List.append_nil, List.append_assoc]
theorem layParams_calls (B b g : Nat) (l : List UInt8) (f : Fr) (A : Option Addr) (c : Nat) (w0 w : World) (h : Bd B b l w) (hf : At w g f A c) (hg : g ≠ b) (hC : Kd.C k32 w0 A f.ps.length f.ps) (hlow : Below w0.heap.size w0 w) (hB0 : w0.heap.size ≤ B) (hlen : l.length + f.ps.length * 6 + 16 ≤ 140737488355328) (hBw : B ≤ w.heap.size) :
    Lays 79 B b g l (params f.ps) w := by
  have z10 := hf.c10
  have HF := Aside0.mk hf
  have HG := Aside0.mk hg
  have H := Aside0.mk h
  have HBW := Aside0.mk hBw
  have HL := Aside0.mk hlen
  have HC := Aside0.mk hC
  have HLOW := Aside0.mk hlow
  have HB0 := Aside0.mk hB0
  have hl63 : f.ps.length ≤ 9223372036854775807 := hC.2.1
  clear h hf hBw hlen hg hC hlow hB0
  obtain ⟨ps, hps⟩ : ∃ ps, f.ps = ps := ⟨_, rfl⟩
  rw [hps] at z10 HL HC hl63 ⊢
  clear hps
  unfold Lays
  go_enter Tryd.func79, Tryd.ntmps79
  go_wp2_with fail
  go_loopw [11] (fun i w' => ∃ (k : Nat), k ≤ ps.length ∧ i = .int .i64 k ∧ Aside0 (Bd B b (l ++ params (ps.take k)) w') ∧ Aside0 (Wr B b w w')) (fun i _ => ps.length - (intOf i).toNat)
  case atStart => exact ⟨0, Nat.zero_le _, rfl, ⟨by simpa [params] using H.out⟩, ⟨Wr.refl _ _ _⟩⟩
  case round =>
    obtain ⟨k, hk, rfl, HK, HB⟩ := hrel
    by_cases hlt : k < ps.length
    · have p0 : (0 : Int) ≤ k := by omega
      have q0 : (k : Int) < (ps.length : Int) := by omega
      have hst := params_take ps k hlt
      obtain ⟨ad, e0, y0, y1⟩ := at_T32 (Kd.C_below HC.out (HLOW.out.trans (below_lo HB.out.1 HB0.out))) k p0 q0
      cases e0
      obtain ⟨id, hid⟩ : ∃ K, (rd_T32 ps (k : Int)).f0 = K := ⟨_, rfl⟩
      obtain ⟨x, hx⟩ : ∃ K, (rd_T32 ps (k : Int)).f1 = K := ⟨_, rfl⟩
      simp only [Int.toNat_natCast] at y0 y1
      rw [hid, hx] at hst
      rw [hid] at y0
      rw [hx] at y1
      have HST := Aside0.mk hst
      clear hid hx hst
      go_upto_region 3 with fail
      obtain ⟨W5, hW5⟩ : ∃ W, wr.alloc (.cells #[.int .i64 id, .int .i64 x] 32) = W := ⟨_, rfl⟩
      obtain ⟨b5, hb5⟩ : ∃ b, wr.heap.size = b := ⟨_, rfl⟩
      have X5 : Aside0 (W5.heap[b5]? = some (.cells #[.int .i64 id, .int .i64 x] 32 (0, 0))) := ⟨by rw [← hW5, ← hb5]; exact blk_new wr _⟩
      have K5 : Aside0 (Bd B b (l ++ params (ps.take k)) W5) := ⟨by rw [← hW5]; exact HK.out.alloc _⟩
      have L5 : Aside0 (Wr B b w W5) := ⟨by rw [← hW5]; exact HB.out.alloc (Nat.le_trans HBW.out HB.out.size) _⟩
      have N5 : Aside0 (b5 ≠ b) := ⟨by rw [← hb5]; have := HK.out.lt; omega⟩
      rw [hW5, hb5]
      clear hW5 hb5 y0 y1
      have x0 : W5.cell? ⟨b5, 0, none⟩ = some (.int .i64 id) := blk_cell X5.out 0
      have hbs := Nat.le_trans HBW.out L5.out.size
      have HBS := Aside0.mk hbs
      clear hbs
      go_upto_region 4 with (go_at_call 47; refine (put_n 2 B b _ id _ _ K5.out rfl (by decide) (by rw [List.length_append, params_length, List.length_take]; have := HL.out; omega) HBS.out).mono ?_; rintro e w8 ⟨rfl, h1, h2⟩; have H1 := Aside0.mk h1; have H2 := Aside0.mk (L5.out.trans h2); have X8 := Aside0.mk (h2.blk X5.out (by decide) N5.out); clear h1 h2)
      clear x0
      have x1 : w8.cell? ⟨b5, 1, none⟩ = some (.int .i64 x) := blk_cell X8.out 1
      go_wp2_with (go_at_call 47; refine (put_n 4 B b _ x _ _ H1.out rfl (by decide) (by rw [List.length_append, List.length_append, be_length, params_length, List.length_take]; have := HL.out; omega) (Nat.le_trans HBW.out H2.out.size)).mono ?_; rintro e w9 ⟨rfl, h1, h2⟩; have H3 := Aside0.mk h1; have H4 := Aside0.mk (H2.out.trans h2); clear h1 h2)
      go_roundw
      case rel => exact ⟨k + 1, by omega, by go_num, ⟨by rw [HST.out, ← List.append_assoc, ← List.append_assoc]; exact H3.out⟩, H4⟩
      case measure => simp [intOf]; omega
    · have hlt2 : decide ((k : Int) < (ps.length : Int)) = false := decide_eq_false (by omega)
      go_wp2_with fail
      go_end0
      refine ⟨rfl, ?_, HB.out⟩
      have e := HK.out
      rw [List.take_of_length_le (by omega)] at e
      exact e
end Go.Proofs.YtoffhlbdfhhhjaaDoor.Fr
