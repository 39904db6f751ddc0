/- The law SettingBooks, walked: two books beside the document's, along every script; and as one function and its call. The package's variables hold what the program lays; the script fits in memory. -/
import Derived.Test.YtcjphkgmcfpfeaaDoorMRefM
namespace Go.Proofs.YtcjphkgmcfpfeaaDoor.MS
open Go Go.RowKit Go.Proofs.YtcjphkgmcfpfeaaDoorW.PrintWords Go.Proofs.YtcjphkgmcfpfeaaDoorW.PrintLast Go.Proofs.YtcjphkgmcfpfeaaDoorW.PrintMore Go.Proofs.YtcjphkgmcfpfeaaDoor.QL
set_option linter.unusedSimpArgs false
set_option linter.unusedVariables false
set_option maxHeartbeats 40000000
set_option maxRecDepth 100000
attribute [local go_sem high] eqA23 eqA28
/-- In the loop: both pairs, apart; at most n lists were sent to each. -/
structure BInv (w0 W : World) (a b x y : Nat) (F1 F2 : Nat → Prop) (n : Nat) : Prop where
  one : Pair w0.heap.size W a x F1 true n
  two : Pair w0.heap.size W b y F2 false n
  dis : ∀ k, F1 k → ¬ F2 k
  low : Below w0.heap.size w0 W
theorem BInv.below {w0 W W1 : World} {a b x y : Nat} {F1 F2 : Nat → Prop} {n : Nat} (h : BInv w0 W a b x y F1 F2 n) (k : Below W.heap.size W W1) : BInv w0 W1 a b x y F1 F2 n :=
  ⟨h.one.below k, h.two.below k, h.dis, below_then h.low h.low.size k⟩
theorem BInv.did1 {w0 W W1 : World} {a b x y : Nat} {F1 F2 G : Nat → Prop} {n : Nat} (h : BInv w0 W a b x y F1 F2 n) (hG : Pair w0.heap.size W1 a x G true (n + 1)) (hg : ∀ k, G k → F1 k ∨ W.heap.size ≤ k) (hk : Kept W W1 F1) (hl : Below w0.heap.size w0 W1) : BInv w0 W1 a b x y G F2 (n + 1) :=
  ⟨hG, (h.two.kept hk (fun i hi hh => h.dis i hh hi)).more (by omega), fun k hk1 hk2 => by
    rcases hg k hk1 with h1 | h1
    · exact h.dis k h1 hk2
    · have := (h.two.bound k hk2).2; omega, hl⟩
theorem BInv.did2 {w0 W W1 : World} {a b x y : Nat} {F1 F2 G : Nat → Prop} {n : Nat} (h : BInv w0 W a b x y F1 F2 n) (hG : Pair w0.heap.size W1 b y G false (n + 1)) (hg : ∀ k, G k → F2 k ∨ W.heap.size ≤ k) (hk : Kept W W1 F2) (hl : Below w0.heap.size w0 W1) : BInv w0 W1 a b x y F1 G (n + 1) :=
  ⟨(h.one.kept hk (fun i hi hh => h.dis i hi hh)).more (by omega), hG, fun k hk1 hk2 => by
    rcases hg k hk2 with h1 | h1
    · exact h.dis k hk1 h1
    · have := (h.one.bound k hk1).2; omega, hl⟩
theorem books_calls (A : Option Addr) (c : Nat) (l : List S46) (w : World) (hG : GL w) (hT : GT w) (hr : Kd.C k46 w A l.length l) (hc : l.length ≤ c) (hlen : l.length * 40 ≤ 140737488351232) (hls : ∀ x ∈ l, x.f2.length * 16 ≤ 140737488351232) :
    Calls Tryd.prog 4 #[.slice A l.length c] w fun e w' => e = .returned (.bool true) ∧ Below w.heap.size w w' := by
  have HR := Aside0.mk hr
  have HC := Aside0.mk hc
  have HLS := Aside0.mk hls
  have HLEN := Aside0.mk hlen
  have HG := Aside0.mk hG
  have HT := Aside0.mk hT
  have hl63 : l.length ≤ 9223372036854775807 := hr.2.1
  clear hr hc hls hG hT hlen
  go_enter Tryd.func4, Tryd.ntmps4
  go_upto_region 2 with (first
    | (go_at_call 25; refine (new_calls true _ HG.out).mono ?_; rintro e w1 ⟨a, rfl, hI, hge, hb⟩; have HB1 := Aside0.mk hb; have HI1 := Aside0.mk hI; have GE1 := Aside0.mk hge; clear hb hI hge))
  go_upto_region 3 with (first
    | (go_at_call 25; refine (new_calls false _ (HG.out.below HB1.out)).mono ?_; rintro e w2 ⟨b, rfl, hI, hge, hb⟩; have HB2 := Aside0.mk (below_then HB1.out HB1.out.size hb); have HI2 := Aside0.mk hI; have HI1' := Aside0.mk (HI1.out.below hb); have GE2 := Aside0.mk hge; clear hb hI hge))
  go_upto_region 5 with (first
    | (go_at_call 24; refine (first_calls _ (HG.out.below HB2.out)).mono ?_; rintro e w3 ⟨rfl, hb⟩; have HB3 := Aside0.mk (below_then HB2.out HB2.out.size hb); have HI31 := Aside0.mk (HI1'.out.below hb); have HI32 := Aside0.mk (HI2.out.below hb); clear hb))
  go_upto_region 6 with (first
    | (go_at_call 26; refine (new8_calls true _).mono ?_; rintro e w4 ⟨x, rfl, hI, hge, hb⟩; have HB4 := Aside0.mk (below_then HB3.out HB3.out.size hb); have HI4 := Aside0.mk hI; have HI41 := Aside0.mk (HI31.out.below hb); have HI42 := Aside0.mk (HI32.out.below hb); have GE4 := Aside0.mk hge; clear hb hI hge))
  go_upto_region 7 with (first
    | (go_at_call 26; refine (new8_calls false _).mono ?_; rintro e w5 ⟨y, rfl, hI, hge, hb⟩; have HB5 := Aside0.mk (below_then HB4.out HB4.out.size hb); have HI5 := Aside0.mk hI; have HI51 := Aside0.mk (HI41.out.below hb); have HI52 := Aside0.mk (HI42.out.below hb); have HI54 := Aside0.mk (HI4.out.below hb); have GE5 := Aside0.mk hge; clear hb hI hge))
  have HI : Aside0 (∃ F1 F2, BInv w w5 a b x y F1 F2 0) := ⟨by
    have s1 := (HI1.out.bnd.1 a rfl).2
    have s2 := (HI2.out.bnd.1 b rfl).2
    have s4 := (HI4.out.bnd.1 x rfl).2
    have h1 := GE1.out
    have h2 := GE2.out
    have h4 := GE4.out
    have h5 := GE5.out
    have z1 := HB1.out.size
    have z2 := HB2.out.size
    have z3 := HB3.out.size
    have z4 := HB4.out.size
    have z31 := HI31.out.bnd.1 a rfl
    have z32 := HI32.out.bnd.1 b rfl
    have z41 := HI41.out.bnd.1 a rfl
    have z42 := HI42.out.bnd.1 b rfl
    have z51 := HI51.out.bnd.1 a rfl
    refine ⟨fun k => k = a ∨ k = x, fun k => k = b ∨ k = y, ⟨fun k => k = a, fun k => k = x, [], 0, HI51.out, ?_, ?_, fun _ => Iff.rfl, by simp⟩, ⟨fun k => k = b, fun k => k = y, [], 0, ?_, ?_, ?_, fun _ => Iff.rfl, by simp⟩, ?_, HB5.out⟩
    · obtain ⟨v, h⟩ := HI54.out
      exact ⟨v, h.blk, h.mem, fun k hk => ⟨Nat.le_trans (HB3.out.size) (h.bound k hk).1, (h.bound k hk).2⟩, Kd.Q_lower h.row HB3.out.size, h.few⟩
    · rintro k rfl h; omega
    · exact HI52.out.lower HB1.out.size
    · obtain ⟨v, h⟩ := HI5.out
      exact ⟨v, h.blk, h.mem, fun k hk => ⟨Nat.le_trans (HB4.out.size) (h.bound k hk).1, (h.bound k hk).2⟩, Kd.Q_lower h.row HB4.out.size, h.few⟩
    · rintro k rfl h; omega
    · rintro k (rfl | rfl) (h | h) <;> omega⟩
  clear HB1 HI1 HB2 HI2 HI1' HB3 HI31 HI32 HB4 HI4 HI41 HI42 HB5 HI5 HI51 HI52 HI54 GE1 GE2 GE4 GE5
  go_wp2_with fail
  go_loopw [7] (fun i w' => ∃ (k : Nat), k ≤ l.length ∧ i = .int .i64 k ∧ Aside0 (∃ F1 F2, BInv w w' a b x y F1 F2 k)) (fun i _ => l.length - (intOf i).toNat)
  case atStart => exact ⟨0, Nat.zero_le _, rfl, HI⟩
  case round =>
    clear HI
    obtain ⟨k, hk, rfl, HI⟩ := hrel
    obtain ⟨F1, F2, hI⟩ := HI.out
    have HI := Aside0.mk hI
    clear hI
    by_cases hlt : k < l.length
    · have p0 : (0 : Int) ≤ k := by omega
      have q0 : (k : Int) < (l.length : Int) := by omega
      obtain ⟨ad, A2, c2, e0, y0, y1, y2, hc2, hC2⟩ := at_T46 HR.out k p0 q0
      cases e0
      replace y0 := (HI.out.low.cell (World.block_lt_of_cell? w _ y0)).trans y0
      replace y1 := (HI.out.low.cell (World.block_lt_of_cell? w _ y1)).trans y1
      replace y2 := (HI.out.low.cell (World.block_lt_of_cell? w _ y2)).trans y2
      obtain ⟨K, hK⟩ : ∃ K, (rd_T46 l (k : Int)).f0 = K := ⟨_, rfl⟩
      obtain ⟨T, hT⟩ : ∃ K, (rd_T46 l (k : Int)).f1 = K := ⟨_, rfl⟩
      have hsz : (rd_T46 l (k : Int)).f2.length * 16 ≤ 140737488351232 := by
        have e : rd_T46 l (k : Int) = l[k] := by simp [rd_T46, hlt]
        rw [e]; exact HLS.out _ (List.getElem_mem hlt)
      obtain ⟨lst, hlst⟩ : ∃ K, (rd_T46 l (k : Int)).f2 = K := ⟨_, rfl⟩
      rw [hlst] at y2 hc2 hC2 hsz
      simp only [Int.toNat_natCast] at y0 y1 y2
      rw [hK] at y0
      rw [hT] at y1
      clear hK hT hlst
      have HSZ := Aside0.mk hsz
      have HC2 := Aside0.mk hc2
      have CL := Aside0.mk hC2
      clear hsz hc2 hC2
      go_upto_region 11 with fail
      obtain ⟨W9, hW9⟩ : ∃ W, wr.alloc (.cells #[.int .i64 K, .bool T, .slice A2 lst.length c2] 46) = W := ⟨_, rfl⟩
      obtain ⟨b9, hb9⟩ : ∃ b, wr.heap.size = b := ⟨_, rfl⟩
      have HX : Aside0 (W9.heap[b9]? = some (.cells #[.int .i64 K, .bool T, .slice A2 lst.length c2] 46 (0, 0))) := ⟨by rw [← hW9, ← hb9]; exact blk_new wr _⟩
      have HI9 : Aside0 (BInv w W9 a b x y F1 F2 k) := ⟨by rw [← hW9]; exact HI.out.below (below_alloc (Below.refl _ _) _)⟩
      have N9 : Aside0 (¬ F1 b9 ∧ ¬ F2 b9) := ⟨by rw [← hb9]; exact ⟨fun h => by have := (HI.out.one.bound _ h).2; omega, fun h => by have := (HI.out.two.bound _ h).2; omega⟩⟩
      rw [hW9, hb9]
      clear hW9 hb9 y0 y1 y2 HI
      have zb0 := blk_cell HX.out 0
      have zb1 := blk_cell HX.out 1
      have zb2 := blk_cell HX.out 2
      cases T with
      | true =>
        go_upto_region 13 with (first
          | (go_at_call 27; refine (plays_calls w b y F2 false k K true A2 c2 lst _ HI9.out.two HI9.out.low HT.out CL.out HC2.out HSZ.out (by have := HLEN.out; omega)).mono ?_; rintro e w10 ⟨rfl, G, hG, hg, hk, hl⟩; have HI10 := Aside0.mk (HI9.out.did2 hG hg hk hl); have HX10 := Aside0.mk (blk_kept HX.out hk N9.out.2); clear hG hg hk hl))
        clear zb0 zb1 zb2
        have zb1 := blk_cell HX10.out 1
        go_wp2_with fail
        go_roundw
        case rel => exact ⟨k + 1, by omega, by go_num, ⟨F1, G, HI10.out⟩⟩
        case measure => simp [intOf]; omega
      | false =>
        go_upto_region 13 with fail
        go_wp2_with (first
          | (go_at_call 27; refine (plays_calls w a x F1 true k K false A2 c2 lst _ HI9.out.one HI9.out.low HT.out CL.out HC2.out HSZ.out (by have := HLEN.out; omega)).mono ?_; rintro e w10 ⟨rfl, G, hG, hg, hk, hl⟩; have HI10 := Aside0.mk (HI9.out.did1 hG hg hk hl); clear hG hg hk hl))
        go_roundw
        case rel => exact ⟨k + 1, by omega, by go_num, ⟨G, F2, HI10.out⟩⟩
        case measure => simp [intOf]; omega
    · have hlt2 : decide ((k : Int) < (l.length : Int)) = false := decide_eq_false (by omega)
      obtain ⟨Fb, Fr, sent, dn, hB, h8, hdis, hF, hlen'⟩ := HI.out.one
      obtain ⟨Fb2, Fr2, sent2, dn2, hB2, h82, hdis2, hF2, hlen2⟩ := HI.out.two
      obtain ⟨s, hs⟩ : ∃ s, ackedS true (sent.take dn) = s := ⟨_, rfl⟩
      obtain ⟨s2, hs2⟩ : ∃ s, ackedS false (sent2.take dn2) = s := ⟨_, rfl⟩
      rw [hs] at hB
      rw [hs2] at hB2
      have LW := Aside0.mk HI.out.low
      have BB := Aside0.mk hB
      have B8 := Aside0.mk h8
      have HS := Aside0.mk hs
      have BB2 := Aside0.mk hB2
      have B82 := Aside0.mk h82
      have HS2 := Aside0.mk hs2
      clear hB h8 hdis hF hlen' hs hB2 h82 hdis2 hF2 hlen2 hs2 HI
      go_wp2_with (first
        | (go_at_call 28; refine (acked_ex1 w.heap.size a Fb true s (sent.drop dn) _ BB.out).mono ?_; rintro e w20 ⟨rfl, hb⟩; have HB20 := Aside0.mk hb; clear hb; clear BB)
        | (go_at_call 29; refine (acked8_as w.heap.size x Fr true sent dn s _ (B8.out.below HB20.out) (HT.out.below (below_then LW.out LW.out.size HB20.out)) HS.out).mono ?_; rintro e w21 ⟨rfl, hb⟩; have HB21 := Aside0.mk (below_then HB20.out HB20.out.size hb); clear hb; clear B8)
        | (go_at_call 28; refine (acked_ex1 w.heap.size b Fb2 false s2 (sent2.drop dn2) _ (BB2.out.below HB21.out)).mono ?_; rintro e w22 ⟨rfl, hb⟩; have HB22 := Aside0.mk (below_then HB21.out HB21.out.size hb); clear hb)
        | (go_at_call 29; refine (acked8_as w.heap.size y Fr2 false sent2 dn2 s2 _ (B82.out.below HB22.out) (HT.out.below (below_then LW.out LW.out.size HB22.out)) HS2.out).mono ?_; rintro e w23 ⟨rfl, hb⟩; have HB23 := Aside0.mk (below_then HB22.out HB22.out.size hb); clear hb))
      go_ret
      exact ⟨rfl, below_then LW.out LW.out.size HB23.out⟩
end Go.Proofs.YtcjphkgmcfpfeaaDoor.MS
namespace Go.Proofs.YtcjphkgmcfpfeaaDoor.MS2
open Go Go.RowKit
/-- The two package variables hold what the program lays. -/
def GL (w : World) : Prop := w.cell? ⟨0, 0, none⟩ = some (.int .i64 2147483647) ∧ w.cell? ⟨0, 1, none⟩ = some (.int .i64 1) ∧ w.cell? ⟨0, 2, none⟩ = some (.int .i64 2147483647) ∧ w.cell? ⟨0, 3, none⟩ = some (.int .i64 2147483647) ∧ w.cell? ⟨0, 4, none⟩ = some (.int .i64 65536) ∧ w.cell? ⟨0, 5, none⟩ = some (.int .i64 2147483647) ∧ w.cell? ⟨1, 0, none⟩ = some (.int .i64 4096) ∧ w.cell? ⟨1, 1, none⟩ = some (.int .i64 1) ∧ w.cell? ⟨1, 2, none⟩ = some (.int .i64 2147483647) ∧ w.cell? ⟨1, 3, none⟩ = some (.int .i64 65535) ∧ w.cell? ⟨1, 4, none⟩ = some (.int .i64 16384) ∧ w.cell? ⟨1, 5, none⟩ = some (.int .i64 2147483647)
end Go.Proofs.YtcjphkgmcfpfeaaDoor.MS2
namespace Go.Proofs.YtcjphkgmcfpfeaaDoor.QL
open Go Go.RowKit Go.Proofs.YtcjphkgmcfpfeaaDoorW.PrintWords Go.Proofs.YtcjphkgmcfpfeaaDoorW.PrintLast
set_option linter.unusedVariables false
def heraldlaw08_SettingBooks.f (l : List S46) : Option Bool := if l.length * 40 ≤ 140737488351232 ∧ ∀ x ∈ l, x.f2.length * 16 ≤ 140737488351232 then some true else none
theorem heraldlaw08_SettingBooks.calls (A0 : Option Addr) (c0 : Nat) (l : List S46) (r : Bool) (w : World) (hG : Go.Proofs.YtcjphkgmcfpfeaaDoor.MS2.GL w) (hr0 : Kd.C k46 w A0 l.length l) (hc0 : l.length ≤ c0) (h : heraldlaw08_SettingBooks.f l = some r) :
    Calls Tryd.prog 4 #[.slice A0 l.length c0] w fun e w' => e = .returned (.bool r) ∧ Below w.heap.size w w' := by
  obtain ⟨h00, h01, h02, h03, h04, h05, h10, h11, h12, h13, h14, h15⟩ := hG
  unfold heraldlaw08_SettingBooks.f at h
  split at h
  · next hl => cases h; exact Go.Proofs.YtcjphkgmcfpfeaaDoor.MS.books_calls A0 c0 l w ⟨h10, h11, h12, h13, h14, h15⟩ ⟨h00, h01, h02, h03, h04, h05⟩ hr0 hc0 hl.1 hl.2
  · cases h
end Go.Proofs.YtcjphkgmcfpfeaaDoor.QL
