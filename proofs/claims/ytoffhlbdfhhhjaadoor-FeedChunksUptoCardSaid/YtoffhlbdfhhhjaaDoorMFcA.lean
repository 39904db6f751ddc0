/- A feed: what it tells doesn't hang on where its bytes were cut: plain facts. No condition. -/
import Derived.Test.YtoffhlbdfhhhjaaDoorMFdU
namespace Go.Proofs.YtoffhlbdfhhhjaaDoor.Fr
open Go Go.RowKit Go.Proofs.YtoffhlbdfhhhjaaDoorW.PrintWords Go.Proofs.YtoffhlbdfhhhjaaDoorW.PrintLast Go.Proofs.YtoffhlbdfhhhjaaDoorW.PrintMore Go.Proofs.YtoffhlbdfhhhjaaDoor.QL
set_option linter.unusedSimpArgs false
set_option linter.unusedVariables false
set_option maxHeartbeats 4000000
set_option maxRecDepth 100000
theorem app_size (a b : ByteArray) : (a ++ b).size = a.size + b.size := by rw [ba_size, app_list, List.length_append, ← ba_size, ← ba_size]
theorem app_nil (a : ByteArray) : a ++ ByteArray.empty = a := by
  apply ba_ext
  rw [app_list]
  exact List.append_nil _
theorem app_assoc (a b c : ByteArray) : (a ++ b) ++ c = a ++ (b ++ c) := by
  apply ba_ext
  rw [app_list, app_list, app_list, app_list, List.append_assoc]
theorem ex_app (b c : ByteArray) (i j : Nat) (h : j ≤ b.size) : (b ++ c).extract i j = b.extract i j := by
  apply ba_ext
  rw [ex_list, ex_list, app_list]
  rw [ba_size] at h
  by_cases hi : i ≤ b.data.toList.length
  · rw [List.drop_append_of_le_length hi, List.take_append_of_le_length (by rw [List.length_drop]; omega)]
  · rw [show j - i = 0 by omega, List.take_zero, List.take_zero]
theorem ex_tail (b c : ByteArray) (i : Nat) (h : i ≤ b.size) : (b ++ c).extract i (b ++ c).size = b.extract i b.size ++ c := by
  apply ba_ext
  rw [list_extract, app_list, app_list, list_extract, List.drop_append_of_le_length (by rw [← ba_size]; exact h)]
theorem ex_all (b : ByteArray) : b.extract 0 b.size = b := by
  apply ba_ext
  rw [list_extract]
  rfl
theorem bt_app (b c : ByteArray) (k : Nat) (h : k < b.size) : bt (b ++ c) k = bt b k := by
  obtain ⟨x, hx⟩ : ∃ x, b.data.toList[k]? = some x := ⟨_, List.getElem?_eq_getElem (by rw [← ba_size]; exact h)⟩
  rw [bt_get b k x hx, bt_get (b ++ c) k x (by rw [app_list, List.getElem?_append_left (by rw [← ba_size]; exact h)]; exact hx)]
/-- More bytes behind don't change what is told, unless more were wanted. -/
theorem rdF_app (b c : ByteArray) (m : Int) : rdF b m = .bad 0 ∨ rdF (b ++ c) m = rdF b m := by
  by_cases h1 : b.size < 9
  · left
    unfold rdF
    rw [if_pos h1]
  have hs := app_size b c
  have e0 : rdN (b ++ c) = rdN b := by unfold rdN; rw [ex_app b c 0 3 (by omega)]
  have e1 : rd0 (b ++ c) = rd0 b := by
    have h3 := bt_app b c 3 (by omega)
    have h4 := bt_app b c 4 (by omega)
    unfold rd0
    rw [ex_app b c 5 9 (by omega)]
    rw [show bt (b ++ c) 3 = bt b 3 from h3, show bt (b ++ c) 4 = bt b 4 from h4]
  by_cases h3 : min (max m 16384) 65536 < rdN b
  · right
    unfold rdF
    rw [if_neg h1, if_neg (by omega), e0, if_pos h3, if_pos h3]
  by_cases h4 : (b.size : Int) - 9 < rdN b
  · left
    unfold rdF
    rw [if_neg h1, if_neg h3, if_pos h4]
  right
  have hn : 0 ≤ rdN b := (num_bd _).1
  unfold rdF
  rw [if_neg h1, if_neg (show ¬ (b ++ c).size < 9 by omega), e0, e1, if_neg h3, if_neg h3, if_neg h4, if_neg (by omega), ex_app b c 9 _ (by omega)]
/-- What the begun preface leaves. -/
theorem begun_push (f : Fd) (s : ByteArray) (hb : brB f = false) : ((begunF f).1 = true → begunF (pushF f s) = (true, pushF (begunF f).2 s)) ∧ ((begunF f).1 = false → (begunF f).2 = f ∨ ((begunF f).2 = { f with code := 1, st := 0 } ∧ begunF (pushF f s) = (false, { pushF f s with code := 1, st := 0 }))) := by
  have hp : pushF f s = { f with wt := f.wt ++ s } := by unfold pushF; rw [if_neg (by rw [hb]; decide)]
  have hs := app_size f.wt s
  by_cases h1 : ((f.wt.extract 0 (min f.pf.size f.wt.size)).toList == (f.pf.extract 0 (min f.pf.size f.wt.size)).toList) = false
  · have e : begunF f = (false, { f with code := 1, st := 0 }) := by unfold begunF; rw [if_pos h1]
    refine ⟨fun h => (by rw [e] at h; cases h), fun _ => .inr ⟨by rw [e], ?_⟩⟩
    rw [hp]
    have h2 : (((f.wt ++ s).extract 0 (min f.pf.size (f.wt ++ s).size)).toList == (f.pf.extract 0 (min f.pf.size (f.wt ++ s).size)).toList) = false := by
      rw [Bool.eq_false_iff] at h1 ⊢
      intro h
      apply h1
      apply beq_iff_eq.mpr
      have h := beq_iff_eq.mp h
      rw [ByteArray.toList_eq, ByteArray.toList_eq, ex_list, ex_list, List.drop_zero, List.drop_zero, Nat.sub_zero] at h ⊢
      have h3 := congrArg (List.take (min f.pf.size f.wt.size)) h
      rw [List.take_take, List.take_take, show min (min f.pf.size f.wt.size) (min f.pf.size (f.wt ++ s).size) = min f.pf.size f.wt.size by omega, app_list, List.take_append_of_le_length (by rw [← ba_size]; omega)] at h3
      exact h3
    unfold begunF
    rw [if_pos h2]
  · by_cases h2 : f.wt.size < f.pf.size
    · have e : begunF f = (false, f) := by unfold begunF; rw [if_neg h1, if_pos h2]
      exact ⟨fun h => (by rw [e] at h; cases h), fun _ => .inl (by rw [e])⟩
    · have e : begunF f = (true, { f with wt := f.wt.extract f.pf.size f.wt.size, pf := ByteArray.empty }) := by unfold begunF; rw [if_neg h1, if_neg h2]
      refine ⟨fun _ => ?_, fun h => (by rw [e] at h; cases h)⟩
      have h3 : ¬ (((f.wt ++ s).extract 0 (min f.pf.size (f.wt ++ s).size)).toList == (f.pf.extract 0 (min f.pf.size (f.wt ++ s).size)).toList) = false := by
        rw [show min f.pf.size (f.wt ++ s).size = min f.pf.size f.wt.size by omega, ex_app f.wt s 0 _ (by omega)]
        exact h1
      have e2 : begunF { f with wt := f.wt ++ s } = (true, { f with wt := (f.wt ++ s).extract f.pf.size (f.wt ++ s).size, pf := ByteArray.empty }) := by
        unfold begunF
        rw [if_neg h3, if_neg (show ¬ (f.wt ++ s).size < f.pf.size by omega)]
      rw [hp, e2, e, ex_tail f.wt s f.pf.size (by omega)]
      unfold pushF
      rw [if_neg]
      show ¬ brB f = true
      rw [hb]
      decide
theorem begun_br (f : Fd) (hb : brB f = false) (h : (begunF f).1 = true) : brB (begunF f).2 = false ∧ (begunF f).2.pf = ByteArray.empty ∧ (begunF f).2.most = f.most ∧ (begunF f).2.wt.size ≤ f.wt.size ∧ (begunF f).2.code = f.code ∧ (begunF f).2.st = f.st := by
  unfold begunF at h ⊢
  split at h
  · cases h
  · rename_i h1
    split at h
    · cases h
    · rename_i h2
      rw [if_neg h1, if_neg h2]
      exact ⟨hb, rfl, rfl, by show (f.wt.extract f.pf.size f.wt.size).size ≤ _; rw [ByteArray.size_extract]; omega, rfl, rfl⟩
theorem begun_again (f : Fd) (h : f.pf = ByteArray.empty) : begunF f = (true, f) := by
  have h0 : min f.pf.size f.wt.size = 0 := by rw [h]; exact Nat.zero_min _
  have he : ((f.wt.extract 0 (min f.pf.size f.wt.size)).toList == (f.pf.extract 0 (min f.pf.size f.wt.size)).toList) = true := by
    rw [h0]
    apply beq_iff_eq.mpr
    rw [ByteArray.toList_eq, ByteArray.toList_eq, ex_list, ex_list]
    simp
  unfold begunF
  rw [if_neg (by rw [he]; decide), if_neg (by rw [h]; show ¬ f.wt.size < 0; omega)]
  have e : f.wt.extract f.pf.size f.wt.size = f.wt := by rw [h]; exact ex_all _
  rw [e, ← h]
theorem push_br {f : Fd} (s : ByteArray) (h : brB f = true) : pushF f s = f := by unfold pushF; rw [if_pos h]
theorem push_nb {f : Fd} (s : ByteArray) (h : brB f = false) : pushF f s = { f with wt := f.wt ++ s } := by unfold pushF; rw [if_neg (by rw [h]; decide)]
theorem brB_push (f : Fd) (s : ByteArray) : brB (pushF f s) = brB f := by
  unfold pushF
  split <;> rfl
theorem next_br {f : Fd} (h : brB f = true) : nextF f = ({ f with wt := ByteArray.empty }, ⟨Fr.zero, false, f.code, f.st⟩) := by
  unfold nextF
  rw [if_pos h]
  unfold doneF
  rw [if_pos h]
/-- The reading part of Next. -/
def tailF (g : Fd) : Fd × Nx :=
  if (rdF g.wt g.most).code ≠ 0 ∧ (rdF g.wt g.most).st = 0 then ({ g with code := (rdF g.wt g.most).code, st := 0, wt := ByteArray.empty }, ⟨Fr.zero, false, (rdF g.wt g.most).code, 0⟩)
  else if (rdF g.wt g.most).code ≠ 0 then ({ g with wt := g.wt.extract (rdF g.wt g.most).no.toNat g.wt.size }, ⟨Fr.zero, false, (rdF g.wt g.most).code, (rdF g.wt g.most).st⟩)
  else ({ g with wt := g.wt.extract (rdF g.wt g.most).no.toNat g.wt.size }, ⟨(rdF g.wt g.most).fr, decide (0 < (rdF g.wt g.most).no), 0, 0⟩)
theorem next_tail {f : Fd} (hb : brB f = false) (h : (begunF f).1 = true) : nextF f = tailF (begunF f).2 := by
  have hg := (begun_br f hb h).1
  unfold nextF
  rw [if_neg (by rw [hb]; decide), if_neg (by rw [h]; decide)]
  unfold tailF
  split
  · rename_i h1
    unfold doneF
    rw [if_pos]
    show ((rdF (begunF f).2.wt (begunF f).2.most).code != 0 || (0 : Int) != 0) = true
    rw [Bool.or_eq_true]
    left
    exact bne_iff_ne.mpr h1.1
  · split
    · unfold doneF
      rw [if_neg]
      show ¬ brB (begunF f).2 = true
      rw [hg]
      decide
    · unfold doneF
      rw [if_neg]
      show ¬ brB (begunF f).2 = true
      rw [hg]
      decide
theorem next_no {f : Fd} (hb : brB f = false) (h : (begunF f).1 = false) : nextF f = doneF (begunF f).2 ⟨Fr.zero, false, 0, 0⟩ := by
  unfold nextF
  rw [if_neg (by rw [hb]; decide), if_pos h]
/-- Nothing more is told. -/
def quietN (r : Nx) : Prop := r.ok = false ∧ (r.code = 0 ∨ r.st = 0)
/-- A push behind Next, or ahead of it. -/
theorem next_push (f : Fd) (s : ByteArray) : (quietN (nextF f).2 → nextF (pushF f s) = nextF (pushF (nextF f).1 s)) ∧ (¬ quietN (nextF f).2 → nextF (pushF f s) = (pushF (nextF f).1 s, (nextF f).2)) := by
  cases hb : brB f
  · have hb2 : brB (pushF f s) = false := by rw [brB_push]; exact hb
    obtain ⟨hp1, hp2⟩ := begun_push f s hb
    cases hg : (begunF f).1
    · have hn := next_no hb hg
      rcases hp2 hg with h2 | ⟨h2, h3⟩
      · rw [h2] at hn
        unfold doneF at hn
        rw [if_neg (by rw [hb]; decide)] at hn
        rw [hn]
        exact ⟨fun _ => rfl, fun h => absurd ⟨rfl, .inl rfl⟩ h⟩
      · rw [h2] at hn
        have hbr : brB { f with code := 1, st := 0 } = true := rfl
        unfold doneF at hn
        rw [if_pos hbr] at hn
        rw [hn]
        refine ⟨fun _ => ?_, fun h => absurd ⟨rfl, .inr rfl⟩ h⟩
        have hn2 := next_no hb2 (show (begunF (pushF f s)).1 = false by rw [h3])
        rw [h3] at hn2
        have hbr2 : brB { pushF f s with code := 1, st := 0 } = true := rfl
        unfold doneF at hn2
        rw [if_pos hbr2] at hn2
        rw [hn2]
        have hbr3 : brB ({ f with wt := ByteArray.empty, code := 1, st := 0 } : Fd) = true := rfl
        show _ = nextF (pushF { f with wt := ByteArray.empty, code := 1, st := 0 } s)
        rw [push_br s hbr3, next_br hbr3, push_nb s hb]
    · have hn := next_tail hb hg
      obtain ⟨g1, g2, g3, g4, g5, g6⟩ := begun_br f hb hg
      have e1 := hp1 hg
      have hn2 := next_tail hb2 (show (begunF (pushF f s)).1 = true by rw [e1])
      rw [e1] at hn2
      obtain ⟨g, hgg⟩ : ∃ g, (begunF f).2 = g := ⟨_, rfl⟩
      rw [hgg] at hn g1 g2 g3 g4 g5 g6
      have hn2 : nextF (pushF f s) = tailF (pushF g s) := by rw [hn2]; rw [hgg]
      have hno := rdF_no g.wt g.most
      have hbp : brB (pushF g s) = false := by rw [brB_push]; exact g1
      have hbe : nextF (pushF g s) = tailF (pushF g s) := by
        have h := begun_again (pushF g s) (by rw [push_nb s g1]; exact g2)
        rw [next_tail hbp (by rw [h]), h]
      have hpw : (pushF g s).wt = g.wt ++ s ∧ (pushF g s).most = g.most := by rw [push_nb s g1]; exact ⟨rfl, rfl⟩
      rw [hn, hn2]
      rcases rdF_app g.wt s g.most with hR | hR
      · have ht : tailF g = (g, ⟨Fr.zero, false, 0, 0⟩) := by
          unfold tailF
          rw [hR, if_neg (fun h => h.1 rfl), if_neg (fun h => h rfl)]
          show (({ g with wt := g.wt.extract 0 g.wt.size } : Fd), (⟨Fr.zero, decide ((0 : Int) < 0), 0, 0⟩ : Nx)) = _
          rw [ex_all]
          rfl
        rw [ht]
        exact ⟨fun _ => hbe.symm, fun h => absurd ⟨rfl, .inl rfl⟩ h⟩
      · obtain ⟨R, hRR⟩ : ∃ R, rdF g.wt g.most = R := ⟨_, rfl⟩
        rw [hRR] at hR hno
        have hRp : rdF (pushF g s).wt (pushF g s).most = R := by rw [hpw.1, hpw.2]; exact hR
        have hcut : ({ pushF g s with wt := (pushF g s).wt.extract R.no.toNat (pushF g s).wt.size } : Fd) = pushF { g with wt := g.wt.extract R.no.toNat g.wt.size } s := by
          rw [push_nb s (show brB { g with wt := g.wt.extract R.no.toNat g.wt.size } = false from g1), hpw.1, ex_tail g.wt s _ (by omega), push_nb s g1]
        by_cases c1 : R.code ≠ 0 ∧ R.st = 0
        · have ht : tailF g = ({ g with code := R.code, st := 0, wt := ByteArray.empty }, ⟨Fr.zero, false, R.code, 0⟩) := by unfold tailF; rw [hRR, if_pos c1]
          have ht2 : tailF (pushF g s) = ({ pushF g s with code := R.code, st := 0, wt := ByteArray.empty }, ⟨Fr.zero, false, R.code, 0⟩) := by unfold tailF; rw [hRp, if_pos c1]
          rw [ht, ht2]
          refine ⟨fun _ => ?_, fun h => absurd ⟨rfl, .inr rfl⟩ h⟩
          have hbr : brB ({ g with code := R.code, st := 0, wt := ByteArray.empty } : Fd) = true := by
            show (R.code != 0 || (0 : Int) != 0) = true
            rw [Bool.or_eq_true]
            exact .inl (bne_iff_ne.mpr c1.1)
          rw [push_br s hbr, next_br hbr, push_nb s g1]
        · by_cases c2 : R.code ≠ 0
          · have ht : tailF g = ({ g with wt := g.wt.extract R.no.toNat g.wt.size }, ⟨Fr.zero, false, R.code, R.st⟩) := by unfold tailF; rw [hRR, if_neg c1, if_pos c2]
            have ht2 : tailF (pushF g s) = ({ pushF g s with wt := (pushF g s).wt.extract R.no.toNat (pushF g s).wt.size }, ⟨Fr.zero, false, R.code, R.st⟩) := by unfold tailF; rw [hRp, if_neg c1, if_pos c2]
            rw [ht, ht2, hcut]
            refine ⟨fun h => ?_, fun _ => rfl⟩
            rcases h.2 with h | h
            · exact absurd h c2
            · exact absurd ⟨c2, h⟩ c1
          · have ht : tailF g = ({ g with wt := g.wt.extract R.no.toNat g.wt.size }, ⟨R.fr, decide (0 < R.no), 0, 0⟩) := by unfold tailF; rw [hRR, if_neg c1, if_neg c2]
            have ht2 : tailF (pushF g s) = ({ pushF g s with wt := (pushF g s).wt.extract R.no.toNat (pushF g s).wt.size }, ⟨R.fr, decide (0 < R.no), 0, 0⟩) := by unfold tailF; rw [hRp, if_neg c1, if_neg c2]
            rw [ht, ht2, hcut]
            refine ⟨fun h => ?_, fun _ => rfl⟩
            have h0 : R.no = 0 := by have := of_decide_eq_false h.1; omega
            have hg0 : ({ g with wt := g.wt.extract R.no.toNat g.wt.size } : Fd) = g := by rw [h0]; show ({ g with wt := g.wt.extract 0 g.wt.size } : Fd) = g; rw [ex_all]
            rw [hg0, hbe, ht2, hcut, hg0]
  · rw [next_br hb, push_br s hb, next_br hb]
    have hb2 : brB { f with wt := ByteArray.empty } = true := hb
    rw [push_br s hb2, next_br hb2]
    exact ⟨fun _ => rfl, fun _ => rfl⟩
/-- What is told. -/
structure Td where
  fr : Fr
  code : Int
  st : Int
/-- All that a feed tells till it tells nothing. -/
inductive Drains : Fd → List Td → Fd → Int → Int → Prop
  | stop {f : Fd} (q : quietN (nextF f).2) : Drains f [] (nextF f).1 (nextF f).2.code (nextF f).2.st
  | step {f : Fd} {L : List Td} {f2 : Fd} {c s : Int} (q : ¬ quietN (nextF f).2) (d : Drains (nextF f).1 L f2 c s) : Drains f (⟨(nextF f).2.fr, (nextF f).2.code, (nextF f).2.st⟩ :: L) f2 c s
theorem Drains.det {f : Fd} {L L' : List Td} {f2 f2' : Fd} {c c' s s' : Int} (h : Drains f L f2 c s) (h' : Drains f L' f2' c' s') : L = L' ∧ f2 = f2' ∧ c = c' ∧ s = s' := by
  induction h generalizing L' with
  | stop q =>
    cases h' with
    | stop q' => exact ⟨rfl, rfl, rfl, rfl⟩
    | step q' d' => exact absurd q q'
  | step q d ih =>
    cases h' with
    | stop q' => exact absurd q' q
    | step q' d' =>
      obtain ⟨h1, h2⟩ := ih d'
      exact ⟨by rw [h1], h2⟩
theorem Drains.same {f g : Fd} {L : List Td} {f2 : Fd} {c s : Int} (e : nextF f = nextF g) (h : Drains f L f2 c s) : Drains g L f2 c s := by
  cases h with
  | stop q => rw [e] at q ⊢; exact .stop q
  | step q d => rw [e] at q d ⊢; exact .step q d
/-- Bytes pushed behind a drain, or ahead of it: the same is told. -/
theorem Drains.push {f f1 : Fd} {L : List Td} {c s : Int} (b : ByteArray) (h : Drains f L f1 c s) {L2 : List Td} {f2 : Fd} {c2 s2 : Int} (h2 : Drains (pushF f1 b) L2 f2 c2 s2) : Drains (pushF f b) (L ++ L2) f2 c2 s2 := by
  induction h with
  | stop q => exact h2.same ((next_push _ b).1 q).symm
  | @step f L f2' c s q d ih =>
    have e := (next_push f b).2 q
    have h3 := ih h2
    have h4 : Drains (pushF f b) (⟨(nextF (pushF f b)).2.fr, (nextF (pushF f b)).2.code, (nextF (pushF f b)).2.st⟩ :: (L ++ L2)) f2 c2 s2 := by
      refine .step (by rw [e]; exact q) ?_
      rw [e]
      exact h3
    rw [e] at h4
    exact h4
end Go.Proofs.YtoffhlbdfhhhjaaDoor.Fr
