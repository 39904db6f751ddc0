/- Plain facts of Params: what it lists, what becomes of it, what becomes of it with one left out. No condition but those in each statement. -/
import Derived.Test.YtcjphkgmcfpfeaaDoorMSetP
namespace Go.Proofs.YtcjphkgmcfpfeaaDoor.MS
open Go Go.RowKit Go.Proofs.YtcjphkgmcfpfeaaDoorW.PrintWords Go.Proofs.YtcjphkgmcfpfeaaDoorW.PrintLast Go.Proofs.YtcjphkgmcfpfeaaDoorW.PrintMore Go.Proofs.YtcjphkgmcfpfeaaDoor.QL
set_option linter.unusedSimpArgs false
set_option linter.unusedVariables false
set_option maxHeartbeats 4000000
def mk (t : St) (ids : List Int) : List S28 := ids.map (fun id => ⟨id, t.get id⟩)
def pids (cl : Bool) (s t : St) : Nat → List Int
  | 0 => []
  | n + 1 => pids cl s t n ++ (if differs cl s t (n + 1) = true then [(n + 1 : Int)] else [])
theorem params_mk (cl : Bool) (s t : St) (n : Nat) : params cl s t n = mk t (pids cl s t n) := by
  induction n with
  | zero => rfl
  | succ n ih =>
    simp only [params, pids, mk, List.map_append] at ih ⊢
    rw [ih]
    congr 1
    split <;> simp
theorem mem_pids (cl : Bool) (s t : St) (n : Nat) (id : Int) : id ∈ pids cl s t n ↔ 1 ≤ id ∧ id ≤ n ∧ differs cl s t id = true := by
  induction n with
  | zero => simp [pids]; omega
  | succ n ih =>
    simp only [pids, List.mem_append, ih]
    constructor
    · rintro (h | h)
      · exact ⟨h.1, by omega, h.2.2⟩
      · split at h
        · next hd => rw [List.mem_singleton] at h; subst h; exact ⟨by omega, by omega, hd⟩
        · cases h
    · rintro ⟨h1, h2, h3⟩
      by_cases h4 : id ≤ n
      · exact .inl ⟨h1, h4, h3⟩
      · right
        have e : id = (n : Int) + 1 := by omega
        subst e
        rw [if_pos h3]; simp
theorem pids_lt (cl : Bool) (s t : St) (n : Nat) : (pids cl s t n).Pairwise (· < ·) := by
  induction n with
  | zero => exact List.Pairwise.nil
  | succ n ih =>
    simp only [pids]
    rw [List.pairwise_append]
    refine ⟨ih, by split <;> simp, fun a ha b hb => ?_⟩
    have h1 := (mem_pids cl s t n a).1 ha
    split at hb
    · rw [List.mem_singleton] at hb; omega
    · cases hb
theorem get_put (s : St) (id v j : Int) (h1 : 1 ≤ id) (h2 : id ≤ 6) (h3 : 1 ≤ j) (h4 : j ≤ 6) (hv : v ≤ top id) : (put s id v).get j = if j = id then v else s.get j := by
  have hm : mn v (top id) = v := by unfold mn; split <;> omega
  obtain rfl | rfl | rfl | rfl | rfl | rfl : id = 1 ∨ id = 2 ∨ id = 3 ∨ id = 4 ∨ id = 5 ∨ id = 6 := by omega
  all_goals
    obtain rfl | rfl | rfl | rfl | rfl | rfl : j = 1 ∨ j = 2 ∨ j = 3 ∨ j = 4 ∨ j = 5 ∨ j = 6 := by omega
    all_goals simp [put, St.get, hm]
theorem get_ext (s t : St) (h : ∀ j, 1 ≤ j → j ≤ 6 → s.get j = t.get j) : s = t := by
  have h1 := h 1 (by omega) (by omega)
  have h2 := h 2 (by omega) (by omega)
  have h3 := h 3 (by omega) (by omega)
  have h4 := h 4 (by omega) (by omega)
  have h5 := h 5 (by omega) (by omega)
  have h6 := h 6 (by omega) (by omega)
  simp [St.get] at h1 h2 h3 h4 h5 h6
  cases s; cases t; simp_all
theorem Fit.top_ {t : St} (h : Fit t) (id : Int) (h1 : 1 ≤ id) (h2 : id ≤ 6) : t.get id ≤ top id := by
  obtain ⟨a0, a1, b0, b1, c0, c1, d0, d1, e0, e1, f0, f1⟩ := h
  obtain rfl | rfl | rfl | rfl | rfl | rfl : id = 1 ∨ id = 2 ∨ id = 3 ∨ id = 4 ∨ id = 5 ∨ id = 6 := by omega
  all_goals simp [St.get, top]; omega
theorem Fit.valid_ {t : St} (h : Fit t) (cl : Bool) (id : Int) (h1 : 1 ≤ id) (h2 : id ≤ 6) (h3 : cl = true ∨ id ≠ 2) : valid id (t.get id) cl = 0 := by
  obtain ⟨a0, a1, b0, b1, c0, c1, d0, d1, e0, e1, f0, f1⟩ := h
  obtain rfl | rfl | rfl | rfl | rfl | rfl : id = 1 ∨ id = 2 ∨ id = 3 ∨ id = 4 ∨ id = 5 ∨ id = 6 := by omega
  · unfold valid; simp [St.get]; omega
  · have hc : cl = true := by rcases h3 with h3 | h3; exact h3; omega
    subst hc
    unfold valid; simp [St.get]; omega
  · unfold valid; simp [St.get]; omega
  · unfold valid; simp [St.get]; omega
  · unfold valid; simp [St.get]; omega
  · unfold valid; simp [St.get]; omega
theorem apply_mk (cl : Bool) (t : St) (ht : Fit t) (ids : List Int) (hi : ∀ id ∈ ids, 1 ≤ id ∧ id ≤ 6 ∧ (cl = true ∨ id ≠ 2)) (s : St) : ∃ s', apply cl s (mk t ids) = (s', 0) ∧ ∀ j, 1 ≤ j → j ≤ 6 → s'.get j = if j ∈ ids then t.get j else s.get j := by
  induction ids generalizing s with
  | nil => exact ⟨s, rfl, fun j _ _ => by simp⟩
  | cons id r ih =>
    obtain ⟨h1, h2, h3⟩ := hi id (by simp)
    obtain ⟨s', e, hs⟩ := ih (fun x hx => hi x (by simp [hx])) (put s id (t.get id))
    refine ⟨s', ?_, fun j hj1 hj2 => ?_⟩
    · show apply cl s (⟨id, t.get id⟩ :: mk t r) = _
      rw [apply_cons, if_pos (ht.valid_ cl id h1 h2 h3)]
      exact e
    · rw [hs j hj1 hj2, get_put s id _ j h1 h2 hj1 hj2 (ht.top_ id h1 h2)]
      by_cases hr : j ∈ r
      · rw [if_pos hr, if_pos (by simp [hr])]
      · rw [if_neg hr]
        by_cases he : j = id
        · subst he; simp
        · simp [he, hr]
/-- What 'to' is where a server's Push is left as it is. -/
def meant (cl : Bool) (a b : St) : St := if cl = true then b else { b with b := a.b }
theorem meant_get (cl : Bool) (a b : St) (j : Int) (h1 : 1 ≤ j) (h2 : j ≤ 6) : (meant cl a b).get j = if cl = true ∨ j ≠ 2 then b.get j else a.get j := by
  unfold meant
  obtain rfl | rfl | rfl | rfl | rfl | rfl : j = 1 ∨ j = 2 ∨ j = 3 ∨ j = 4 ∨ j = 5 ∨ j = 6 := by omega
  all_goals cases cl <;> simp [St.get]
theorem differs_iff (cl : Bool) (a b : St) (j : Int) : differs cl a b j = true ↔ b.get j ≠ a.get j ∧ (cl = true ∨ j ≠ 2) := by
  unfold differs
  simp
theorem pids_ok (cl : Bool) (a b : St) : ∀ id ∈ pids cl a b 6, 1 ≤ id ∧ id ≤ 6 ∧ (cl = true ∨ id ≠ 2) := by
  intro id h
  obtain ⟨h1, h2, h3⟩ := (mem_pids cl a b 6 id).1 h
  exact ⟨h1, by omega, ((differs_iff cl a b id).1 h3).2⟩
theorem back_all (cl : Bool) (a b : St) (hb : Fit b) : apply cl a (params cl a b 6) = (meant cl a b, 0) := by
  rw [params_mk]
  obtain ⟨s', e, hs⟩ := apply_mk cl b hb (pids cl a b 6) (pids_ok cl a b) a
  rw [e]
  congr 1
  refine get_ext _ _ (fun j h1 h2 => ?_)
  rw [hs j h1 h2, meant_get cl a b j h1 h2]
  have hm := mem_pids cl a b 6 j
  rw [differs_iff] at hm
  by_cases hj : j ∈ pids cl a b 6
  · obtain ⟨_, _, _, h3⟩ := hm.1 hj
    rw [if_pos hj, if_pos h3]
  · rw [if_neg hj]
    by_cases h3 : cl = true ∨ j ≠ 2
    · rw [if_pos h3]
      by_cases h4 : b.get j = a.get j
      · exact h4.symm
      · exact absurd (hm.2 ⟨h1, by omega, h4, h3⟩) hj
    · rw [if_neg h3]
theorem back_self (cl : Bool) (b : St) : params cl b b 6 = [] := by
  have h : ∀ n, params cl b b n = [] := by
    intro n
    induction n with
    | zero => rfl
    | succ n ih => simp [params, ih, differs]
  exact h 6
theorem back_less (cl : Bool) (a b : St) (hb : Fit b) (i : Nat) (hi : i < (params cl a b 6).length) : ∃ t, apply cl a ((params cl a b 6).take i ++ (params cl a b 6).drop (i + 1)) = (t, 0) ∧ t ≠ meant cl a b := by
  rw [params_mk] at hi ⊢
  have hl : (mk b (pids cl a b 6)).length = (pids cl a b 6).length := by simp [mk]
  rw [hl] at hi
  have e1 : (mk b (pids cl a b 6)).take i ++ (mk b (pids cl a b 6)).drop (i + 1) = mk b ((pids cl a b 6).eraseIdx i) := by
    rw [List.eraseIdx_eq_take_drop_succ]; simp [mk, List.map_take, List.map_drop]
  rw [e1]
  obtain ⟨t, e, ht⟩ := apply_mk cl b hb ((pids cl a b 6).eraseIdx i) (fun id hid => pids_ok cl a b id (List.mem_of_mem_eraseIdx hid)) a
  refine ⟨t, e, fun he => ?_⟩
  have hm : (pids cl a b 6)[i] ∈ pids cl a b 6 := List.getElem_mem hi
  obtain ⟨h1, h2, h3⟩ := (mem_pids cl a b 6 _).1 hm
  have h4 := (differs_iff cl a b _).1 h3
  have hn : (pids cl a b 6)[i] ∉ (pids cl a b 6).eraseIdx i := by
    rw [List.mem_eraseIdx_iff_getElem]
    rintro ⟨j, hj, hne, hee⟩
    rcases Nat.lt_or_gt_of_ne hne with h | h
    · have := List.pairwise_iff_getElem.1 (pids_lt cl a b 6) j i hj hi h; omega
    · have := List.pairwise_iff_getElem.1 (pids_lt cl a b 6) i j hi hj h; omega
  have := ht _ h1 (by omega)
  rw [if_neg hn, he, meant_get cl a b _ h1 (by omega), if_pos h4.2] at this
  exact h4.1 this
theorem back_again (cl : Bool) (a b : St) : params cl a (meant cl a b) 6 = params cl a b 6 := by
  have h : ∀ n : Nat, n ≤ 6 → params cl a (meant cl a b) n = params cl a b n := by
    intro n hn
    induction n with
    | zero => rfl
    | succ n ih =>
      have hg := meant_get cl a b ((n : Int) + 1) (by omega) (by omega)
      have hd : differs cl a (meant cl a b) ((n : Int) + 1) = differs cl a b ((n : Int) + 1) := by
        rw [Bool.eq_iff_iff, differs_iff, differs_iff, hg]
        by_cases h3 : cl = true ∨ (n : Int) + 1 ≠ 2
        · simp [h3]
        · simp [h3]
      simp only [params, ih (by omega), hd]
      congr 1
      by_cases h4 : differs cl a b ((n : Int) + 1) = true
      · rw [if_pos h4, if_pos h4, hg, if_pos ((differs_iff cl a b _).1 h4).2]
      · rw [if_neg h4, if_neg h4]
  exact h 6 (Nat.le_refl _)
theorem params_id (cl : Bool) (a b : St) (i : Nat) (hi : i < (params cl a b 6).length) : 1 ≤ (rd_T28 (params cl a b 6) (i : Int)).f0 ∧ (rd_T28 (params cl a b 6) (i : Int)).f0 ≤ 6 := by
  have e : rd_T28 (params cl a b 6) (i : Int) = (params cl a b 6)[i] := by simp [rd_T28, hi]
  rw [e]
  have hm : (params cl a b 6)[i] ∈ mk b (pids cl a b 6) := by rw [← params_mk]; exact List.getElem_mem hi
  simp only [mk, List.mem_map] at hm
  obtain ⟨id, h1, h2⟩ := hm
  have h3 := (mem_pids cl a b 6 id).1 h1
  rw [← h2]
  exact ⟨h3.1, by have := h3.2.1; omega⟩
theorem params_up (cl : Bool) (a b : St) (i : Nat) (h0 : 0 < i) (hi : i < (params cl a b 6).length) : (rd_T28 (params cl a b 6) ((i - 1 : Nat) : Int)).f0 < (rd_T28 (params cl a b 6) (i : Int)).f0 := by
  have e : rd_T28 (params cl a b 6) (i : Int) = (params cl a b 6)[i] := by simp [rd_T28, hi]
  have e1 : rd_T28 (params cl a b 6) ((i - 1 : Nat) : Int) = (params cl a b 6)[i - 1] := by
    have : i - 1 < (params cl a b 6).length := by omega
    unfold rd_T28
    simp [this]
  rw [e, e1]
  have hp := pids_lt cl a b 6
  simp only [params_mk, mk, List.getElem_map]
  exact List.pairwise_iff_getElem.1 hp (i - 1) i (by simp [params_mk, mk] at hi; omega) (by simpa [params_mk, mk] using hi) (by omega)
theorem same_from (L : List S28) (hl : L.length ≤ 9223372036854775806) (n : Nat) (i : Nat) (h : L.length = i + n) : heraldlaw08_sameParams.l0 (n + 1) L L (i : Int) = some true := by
  induction n generalizing i with
  | zero =>
    unfold heraldlaw08_sameParams.l0
    rw [if_neg (by omega)]
  | succ n ih =>
    unfold heraldlaw08_sameParams.l0
    have e : wrap64 ((i : Int) + 1) = ((i + 1 : Nat) : Int) := by unfold wrap64; omega
    rw [if_pos (by omega), if_pos (by omega), if_pos (by omega), if_neg (by simp), e]
    exact ih (i + 1) (by omega)
theorem same_self (L : List S28) (hl : L.length ≤ 9223372036854775806) : heraldlaw08_sameParams.f (L.length + 1) L L = some true := by
  unfold heraldlaw08_sameParams.f
  rw [if_pos rfl]
  exact same_from L hl L.length 0 (by omega)
theorem meant_fit (cl : Bool) (a b : St) (ha : Fit a) (hb : Fit b) : Fit (meant cl a b) := by
  unfold meant
  split
  · exact hb
  · obtain ⟨a0, a1, b0, b1, c0, c1, d0, d1, e0, e1, f0, f1⟩ := hb
    exact ⟨a0, a1, ha.b0, ha.b1, c0, c1, d0, d1, e0, e1, f0, f1⟩
end Go.Proofs.YtcjphkgmcfpfeaaDoor.MS
