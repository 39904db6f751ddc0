/- SharePlays: one step at both sides (fn 14), over what fn 25 (both Readys) answers. The texts are small. -/
import Derived.Test.YtedkjbdkokdgdaaMDocF
namespace Go.Proofs.Ytedkjbdkokdgdaa.Sh
open Go Go.RowKit Go.Proofs.YtedkjbdkokdgdaaW.PrintWords Go.Proofs.YtedkjbdkokdgdaaW.PrintLast Go.Proofs.YtedkjbdkokdgdaaW.PrintMore Go.Proofs.Ytedkjbdkokdgdaa.QL
set_option linter.unusedSimpArgs false
set_option linter.unusedVariables false
set_option maxHeartbeats 2000000
set_option maxRecDepth 100000
/-- What a step does. -/
def stepM (m : Int → Qu) (x : S37) : Int → Qu := if x.f0 = 1 then (putF m x.f2 x.f3 x.f4).2 else if x.f0 = 2 then updM m x.f2 Qu.zero else if x.f0 = 5 then (nextF m x.f2 x.f5 x.f6 x.f7).2 else m
theorem stepM_size (m : Int → Qu) (x : S37) (B C : Nat) (h : ∀ z, (m z).t.size ≤ B) (hx : B + x.f3.size ≤ C) : ∀ z, (stepM m x z).t.size ≤ C := by
  have h2 : ∀ z, (m z).t.size ≤ C := fun z => by have := h z; omega
  unfold stepM
  split
  · exact putF_size m _ _ _ B C h hx
  split
  · exact updM_size m _ _ C h2 (Nat.zero_le _)
  split
  · exact nextF_size m _ _ _ _ C h2
  · exact h2
/-- Both sides tell the same m. -/
structure Both (w : World) (p mb n q B : Nat) (v : Value) (D : List S72) (m : Int → Qu) : Prop where
  sh : ShAt w p mb n m
  doc : DocAt w q B v D
  dr : DR D m
theorem Both.low {w w' : World} {p mb n q B : Nat} {v : Value} {D : List S72} {m : Int → Qu} (h : Both w p mb n q B v D m) (hb : Below w.heap.size w w') : Both w' p mb n q B v D m := ⟨h.sh.low hb, h.doc.low hb, h.dr⟩
theorem Both.ne {w : World} {p mb n q B : Nat} {v : Value} {D : List S72} {m : Int → Qu} (hs : ShAt w p mb n m) (hd : DocAt w q B v D) : mb ≠ q ∧ p ≠ q ∧ v.ownBlock ≠ some mb ∧ v.ownBlock ≠ some p := by
  obtain ⟨E, ⟨es, clock, hb, _⟩, _⟩ := hs.mq.own
  refine ⟨?_, blk_ne hs.blk hd.blk (by decide), fun e => ?_, fun e => ?_⟩
  · rintro rfl
    rw [hd.blk] at hb
    cases hb
  · obtain ⟨cells, hc⟩ := Kd.R_typed hd.row mb e
    rw [hc] at hb
    cases hb
  · obtain ⟨cells, hc⟩ := Kd.R_typed hd.row p e
    have := hs.blk
    rw [hc] at this
    cases this
/-- What a step leaves. -/
def StepPost (w w' : World) (p mb n q B : Nat) (v : Value) (k : Nat) (m' : Int → Qu) : Prop := ∃ v' D', Both w' p mb n q B v' D' m' ∧ D'.length ≤ k ∧ Fr w w' (fun b => b = mb ∨ b = q ∨ v.ownBlock = some b) ∧ ∀ g, v'.ownBlock = some g → v.ownBlock = some g ∨ w.heap.size ≤ g
theorem StepPost.same {w w' : World} {p mb n n' q B k : Nat} {v : Value} {D : List S72} {m : Int → Qu} (h : Both w p mb n q B v D m) (hn : n ≤ n') (hk : D.length ≤ k) (hb : Below w.heap.size w w') : StepPost w w' p mb n' q B v k m :=
  ⟨v, D, ⟨(h.low hb).sh.mono hn, (h.low hb).doc, h.dr⟩, hk, Fr.of_below hb _, fun _ e => Or.inl e⟩
/-- The program's call, then the document's. -/
theorem StepPost.both {w w0 w1 w2 : World} {p mb n n' q B k : Nat} {v : Value} {D : List S72} {m m' : Int → Qu} (h : Both w p mb n q B v D m) (hb : Below w.heap.size w w0) (hs : ShAt w1 p mb n' m') (hg : w0.grownBy w1 (some mb)) (hd : DocPost w1 w2 q B v k m') : StepPost w w2 p mb n' q B v k m' := by
  obtain ⟨v', D', a1, a2, a3, a4, a5⟩ := hd
  have h0 := h.low hb
  have hne := Both.ne h0.sh h0.doc
  have F1 : Fr w w1 (fun b => b = mb ∨ b = q ∨ v.ownBlock = some b) := (Fr.of_below hb (fun b => b = mb ∨ b = q ∨ v.ownBlock = some b)).then_ (Fr.of_grown hg (S := fun b => b = mb) (fun k e => (Option.some.inj e).symm)) (fun k e => Or.inl (Or.inl e))
  refine ⟨v', D', ⟨hs.fr a4 (fun e => ?_) (fun e => ?_), a1, a2⟩, a3, F1.then_ a4 (fun k e => Or.inl (Or.inr e)), fun g hg => ?_⟩
  · rcases e with e | e
    · exact hne.2.1 e
    · exact hne.2.2.2 e
  · rcases e with e | e
    · exact hne.1 e
    · exact hne.2.2.1 e
  · rcases a5 g hg with e | e
    · exact Or.inl e
    · exact Or.inr (Nat.le_trans F1.size e)
theorem doc_kept {w0 w1 : World} {p mb n q B : Nat} {v : Value} {D : List S72} {m : Int → Qu} (hs : ShAt w0 p mb n m) (hd : DocAt w0 q B v D) (hg : w0.grownBy w1 (some mb)) : DocAt w1 q B v D := by
  have hne := Both.ne hs hd
  exact hd.fr (Fr.of_grown hg (S := fun b => b = mb) (fun k e => (Option.some.inj e).symm)) (fun e => hne.1 e.symm) (fun g hg e => hne.2.2.1 (by rw [hg, e]))
/-- What fn 25 does: both Readys answer alike, in memory of their own; nothing else is turned. -/
def ReadyOk : Prop := ∀ (p mb n q B : Nat) (v : Value) (D : List S72) (m : Int → Qu) (x : S37) (A8 : Option Addr) (c8 : Nat) (w : World), Both w p mb n q B v D m → n ≤ 1073741824 → (D.length + 1) * 32 ≤ 140737488355328 → x.f8.length ≤ 1048576 → x.f8.length ≤ c8 → Kd.C k50 w A8 x.f8.length x.f8 →
  Calls Try.prog 25 #[.pointer (some ⟨p, 0, none⟩), .pointer (some ⟨q, 0, none⟩), .agg #[.int .i64 x.f0, .int .i64 x.f1, .int .i64 x.f2, .string x.f3, .bool x.f4, .int .i64 x.f5, .int .i64 x.f6, .int .i64 x.f7, .slice A8 x.f8.length c8]] w fun e w' => e = .returned (.bool true) ∧ Below w.heap.size w w'
theorem plays_calls (hready : ReadyOk) (p mb n q B : Nat) (v : Value) (D : List S72) (m : Int → Qu) (x : S37) (A8 : Option Addr) (c8 : Nat) (w : World) (h : Both w p mb n q B v D m) (hB : B ≤ w.heap.size) (hn : n ≤ 1073741823) (hl : (D.length + 1) * 32 ≤ 140737488355328) (hz : ∀ z, (m z).t.size ≤ 1099511627776) (ht : x.f3.size ≤ 1048576) (hid : W64 x.f2) (h8 : x.f8.length ≤ 1048576) (hc8 : x.f8.length ≤ c8) (hC : Kd.C k50 w A8 x.f8.length x.f8) :
    Calls Try.prog 14 #[.pointer (some ⟨p, 0, none⟩), .pointer (some ⟨q, 0, none⟩), .agg #[.int .i64 x.f0, .int .i64 x.f1, .int .i64 x.f2, .string x.f3, .bool x.f4, .int .i64 x.f5, .int .i64 x.f6, .int .i64 x.f7, .slice A8 x.f8.length c8]] w fun e w' => e = .returned (.bool true) ∧ StepPost w w' p mb (n + 1) q B v (D.length + 1) (stepM m x) := by
  have HRD := Aside0.mk hready
  have HBO := Aside0.mk h
  have HBB := Aside0.mk hB
  have HN := Aside0.mk hn
  have HL := Aside0.mk hl
  have HZ := Aside0.mk hz
  have HT := Aside0.mk ht
  have HID := Aside0.mk hid
  have H8 := Aside0.mk (And.intro h8 hc8)
  have HC := Aside0.mk hC
  have HNM : Aside0 (n < maxLen) := ⟨by unfold maxLen; omega⟩
  obtain ⟨M, hM⟩ : ∃ M, stepM m x = M := ⟨_, rfl⟩
  rw [hM]
  have HM := Aside0.mk hM
  clear hready h hB hn hl hz ht hid h8 hc8 hC hM
  go_enter Try.func14, Try.ntmps14
  go_upto_region 1 with fail
  obtain ⟨W, hW⟩ : ∃ W, w.alloc (.cells #[.int .i64 x.f0, .int .i64 x.f1, .int .i64 x.f2, .string x.f3, .bool x.f4, .int .i64 x.f5, .int .i64 x.f6, .int .i64 x.f7, .slice A8 x.f8.length c8] 37) = W := ⟨_, rfl⟩
  obtain ⟨g, hg⟩ : ∃ g, w.heap.size = g := ⟨_, rfl⟩
  have hb : Below w.heap.size w W := by rw [← hW]; exact below_alloc (Below.refl _ _) _
  have X : Aside0 (W.heap[g]? = some (.cells #[.int .i64 x.f0, .int .i64 x.f1, .int .i64 x.f2, .string x.f3, .bool x.f4, .int .i64 x.f5, .int .i64 x.f6, .int .i64 x.f7, .slice A8 x.f8.length c8] 37 (0, 0))) := ⟨by rw [← hW, ← hg]; exact blk_new _ _⟩
  have L := Aside0.mk hb
  have B1 := Aside0.mk (HBO.out.low hb)
  have BW : Aside0 (B ≤ W.heap.size) := ⟨Nat.le_trans HBB.out hb.size⟩
  have HGE : Aside0 (g ≠ mb) := ⟨by have := HBO.out.sh.mq.lt; omega⟩
  have HC1 := Aside0.mk (Kd.C_below HC.out hb)
  rw [hW, hg]
  clear hW hg hb
  have x0 := blk_cell X.out 0
  have x1 := blk_cell X.out 1
  have x2 := blk_cell X.out 2
  have x3 := blk_cell X.out 3
  have x4 := blk_cell X.out 4
  have x5 := blk_cell X.out 5
  have x6 := blk_cell X.out 6
  have x7 := blk_cell X.out 7
  have x8 := blk_cell X.out 8
  clear HC
  by_cases h1 : x.f0 = 1
  · have k1 : (x.f0 == 1) = true := by rw [h1]; rfl
    have HMM : Aside0 (M = (putF m x.f2 x.f3 x.f4).2) := ⟨by rw [← HM.out]; exact if_pos h1⟩
    have HZ1 : Aside0 ((m x.f2).t.size + x.f3.size ≤ 9223372036854775807) := ⟨by have := HZ.out x.f2; have := HT.out; omega⟩
    obtain ⟨PF, hPF⟩ : ∃ PF, putF m x.f2 x.f3 x.f4 = PF := ⟨_, rfl⟩
    have HPF := Aside0.mk hPF
    rw [hPF] at HMM
    clear h1 hPF
    go_upto_region 4 with (go_at_call 15; (refine (put_calls p mb n m x.f2 x.f3 x.f4 _ B1.out.sh HNM.out HZ1.out).mono ?_); rintro e w3 ⟨rfl, hS, hg⟩; rw [HPF.out] at hS ⊢; have S3 := Aside0.mk hS; have G3 := Aside0.mk hg; have D3 := Aside0.mk (doc_kept B1.out.sh B1.out.doc hg); have X3 := Aside0.mk (blk_grown X.out hg (fun e => HGE.out (Option.some.inj e))); clear hS hg)
    clear k1 x0 x1 x2 x3 x4 x5 x6 x7 x8
    have x2 := blk_cell X3.out 2
    have x3 := blk_cell X3.out 3
    have x4 := blk_cell X3.out 4
    have BW3 : Aside0 (B ≤ w3.heap.size) := ⟨Nat.le_trans BW.out G3.out.size⟩
    go_wp2_with (go_at_call 22; (refine (putd_calls q B v D m x.f2 x.f3 x.f4 _ D3.out B1.out.dr BW3.out HL.out HZ1.out).mono ?_); rintro e w4 ⟨rfl, hP⟩; rw [HPF.out] at hP ⊢; have P4 := Aside0.mk hP; clear hP)
    go_ret
    exact ⟨rfl, by rw [HMM.out]; exact StepPost.both HBO.out L.out S3.out G3.out P4.out⟩
  · have k1 : (x.f0 == 1) = false := beq_eq_false_iff_ne.mpr h1
    by_cases h2 : x.f0 = 2
    · have k2 : (x.f0 == 2) = true := by rw [h2]; rfl
      have HMM : Aside0 (M = updM m x.f2 Qu.zero) := ⟨by rw [← HM.out]; unfold stepM; rw [if_neg h1, if_pos h2]⟩
      obtain ⟨r, hr⟩ : ∃ r, (!(m x.f2).t.toList.isEmpty || (m x.f2).e) = r := ⟨_, rfl⟩
      have HR := Aside0.mk hr
      clear h1 h2 hr
      go_upto_region 7 with (go_at_call 21; (refine (drop_calls p mb n m x.f2 r _ B1.out.sh HID.out HR.out).mono ?_); rintro e w3 ⟨rfl, hS, hg⟩; have S3 := Aside0.mk hS; have G3 := Aside0.mk hg; have D3 := Aside0.mk (doc_kept B1.out.sh B1.out.doc hg); have X3 := Aside0.mk (blk_grown X.out hg (fun e => HGE.out (Option.some.inj e))); clear hS hg)
      clear k1 k2 x0 x1 x2 x3 x4 x5 x6 x7 x8
      have x2 := blk_cell X3.out 2
      have BW3 : Aside0 (B ≤ w3.heap.size) := ⟨Nat.le_trans BW.out G3.out.size⟩
      go_wp2_with (go_at_call 23; (refine (dropd_calls q B v D m x.f2 r _ D3.out B1.out.dr BW3.out HL.out HR.out).mono ?_); rintro e w4 ⟨rfl, hP⟩; have P4 := Aside0.mk hP; clear hP)
      go_ret
      exact ⟨by first | rfl | simp, by rw [HMM.out]; exact StepPost.both HBO.out L.out (S3.out.mono (Nat.le_succ n)) G3.out P4.out⟩
    · have k2 : (x.f0 == 2) = false := beq_eq_false_iff_ne.mpr h2
      by_cases h5 : x.f0 = 5
      · have k3 : (x.f0 == 3) = false := by rw [h5]; rfl
        have k4 : (x.f0 == 4) = false := by rw [h5]; rfl
        have k5 : (x.f0 == 5) = true := by rw [h5]; rfl
        have HMM : Aside0 (M = (nextF m x.f2 x.f5 x.f6 x.f7).2) := ⟨by rw [← HM.out]; unfold stepM; rw [if_neg h1, if_neg h2, if_pos h5]⟩
        have HZ1 : Aside0 ((m x.f2).t.size ≤ 4611686018427387904) := ⟨by have := HZ.out x.f2; omega⟩
        have HZ2 : Aside0 ((m x.f2).t.size ≤ 9223372036854775807) := ⟨by have := HZ.out x.f2; omega⟩
        obtain ⟨NF, hNF⟩ : ∃ NF, nextF m x.f2 x.f5 x.f6 x.f7 = NF := ⟨_, rfl⟩
        have HNF := Aside0.mk hNF
        rw [hNF] at HMM
        clear h1 h2 h5 hNF
        go_upto_region 16 with (go_at_call 16; (refine (next_calls p mb n m x.f2 x.f5 x.f6 x.f7 _ B1.out.sh HID.out HNM.out HZ2.out).mono ?_); rintro e w3 ⟨rfl, hS, hg⟩; rw [HNF.out] at hS ⊢; have S3 := Aside0.mk hS; have G3 := Aside0.mk hg; have D3 := Aside0.mk (doc_kept B1.out.sh B1.out.doc hg); have X3 := Aside0.mk (blk_grown X.out hg (fun e => HGE.out (Option.some.inj e))); clear hS hg)
        clear k1 k2 k3 k4 k5 x0 x1 x2 x3 x4 x5 x6 x7 x8
        have x2 := blk_cell X3.out 2
        have x5 := blk_cell X3.out 5
        have x6 := blk_cell X3.out 6
        have x7 := blk_cell X3.out 7
        go_wp2_with (go_at_call 26; (refine (nextd_calls q B v D m x.f2 x.f5 x.f6 x.f7 _ D3.out B1.out.dr HZ1.out).mono ?_); rintro e w4 ⟨rfl, hP⟩; rw [HNF.out] at hP ⊢; have P4 := Aside0.mk hP; clear hP)
        go_ret
        exact ⟨by first | rfl | simp, by rw [HMM.out]; exact StepPost.both HBO.out L.out S3.out G3.out P4.out⟩
      · have k5 : (x.f0 == 5) = false := beq_eq_false_iff_ne.mpr h5
        have HMM : Aside0 (M = m) := ⟨by rw [← HM.out]; unfold stepM; rw [if_neg h1, if_neg h2, if_neg h5]⟩
        clear h1 h2 h5
        by_cases h3 : x.f0 = 3
        · have k3 : (x.f0 == 3) = true := by rw [h3]; rfl
          clear h3
          go_upto_region 10 with (go_at_call 19; (refine (waits_calls p mb n m x.f2 _ B1.out.sh HID.out).mono ?_); rintro e w3 ⟨rfl, hb⟩; have B3 := Aside0.mk (B1.out.low hb); have L3 := Aside0.mk (below_then L.out L.out.size hb); have X3 := Aside0.mk (blk_below X.out hb); clear hb)
          clear k1 k2 k3 k5 x0 x1 x2 x3 x4 x5 x6 x7 x8
          have x2 := blk_cell X3.out 2
          obtain ⟨qs, hqs⟩ : ∃ y, (m x.f2).t.size = y := ⟨_, rfl⟩
          obtain ⟨qe, hqe⟩ : ∃ y, (m x.f2).e = y := ⟨_, rfl⟩
          have HQS := Aside0.mk hqs
          have HQE := Aside0.mk hqe
          rw [hqs, hqe]
          clear hqs hqe
          go_wp2_with (go_at_call 24; (refine (waitsd_calls q B v D m x.f2 _ B3.out.doc B3.out.dr).mono ?_); rintro e w4 ⟨rfl, hb⟩; rw [HQS.out, HQE.out]; have L4 := Aside0.mk (below_then L3.out L3.out.size hb); clear hb)
          go_ret
          exact ⟨by first | rfl | simp, by rw [HMM.out]; exact StepPost.same HBO.out (Nat.le_succ _) (Nat.le_succ _) L4.out⟩
        · have k3 : (x.f0 == 3) = false := beq_eq_false_iff_ne.mpr h3
          by_cases h4 : x.f0 = 4
          · have k4 : (x.f0 == 4) = true := by rw [h4]; rfl
            clear h3 h4
            go_wp2_with (go_at_call 25; (refine (HRD.out p mb n q B v D m x A8 c8 _ B1.out (by have := HN.out; omega) HL.out H8.out.1 H8.out.2 HC1.out).mono ?_); rintro e w3 ⟨rfl, hb⟩; have L3 := Aside0.mk (below_then L.out L.out.size hb); clear hb)
            go_ret
            exact ⟨by first | rfl | simp, by rw [HMM.out]; exact StepPost.same HBO.out (Nat.le_succ _) (Nat.le_succ _) L3.out⟩
          · have k4 : (x.f0 == 4) = false := beq_eq_false_iff_ne.mpr h4
            clear h3 h4
            go_wp2_with fail
            go_ret
            exact ⟨by first | rfl | simp, by rw [HMM.out]; exact StepPost.same HBO.out (Nat.le_succ _) (Nat.le_succ _) L.out⟩
end Go.Proofs.Ytedkjbdkokdgdaa.Sh
