/- The document's share: ready, Ready. The lists fit in memory. -/
import Derived.Test.YtedkjbdkokdgdaaMDocD
import Derived.Test.YtedkjbdkokdgdaaMRising
namespace Go.Proofs.Ytedkjbdkokdgdaa.Sh
open Go Go.RowKit Go.Proofs.YtedkjbdkokdgdaaW.PrintWords Go.Proofs.YtedkjbdkokdgdaaW.PrintLast Go.Proofs.YtedkjbdkokdgdaaW.PrintMore Go.Proofs.Ytedkjbdkokdgdaa.QL
set_option linter.unusedSimpArgs false
set_option linter.unusedVariables false
set_option maxHeartbeats 2000000
set_option maxRecDepth 100000
/-- An answer is being put into its place. -/
structure Ins (id : Int) (out pre : List Int) (done : Bool) (k : Nat) : Prop where
  sorted : pre.Pairwise (· < ·)
  mem : ∀ x, x ∈ pre ↔ x ∈ out.take k ∨ (done = true ∧ x = id)
  lt : ∀ x ∈ pre, ∀ y ∈ out.drop k, x < y
  wait : done = false → ∀ x ∈ pre, x < id
  len : pre.length ≤ k + 1 ∧ (done = false → pre.length ≤ k)
theorem Ins.start (id : Int) (out : List Int) : Ins id out [] false 0 := ⟨List.Pairwise.nil, fun x => by simp, fun x h => (by cases h), fun _ x h => (by cases h), by simp⟩
theorem snoc_sorted {l : List Int} {y : Int} (h : l.Pairwise (· < ·)) (hy : ∀ x ∈ l, x < y) : (l ++ [y]).Pairwise (· < ·) :=
  List.pairwise_append.2 ⟨h, List.pairwise_singleton _ _, fun a ha b hb => by rw [List.mem_singleton.1 hb]; exact hy a ha⟩
section
variable {id : Int} {out pre : List Int} {done : Bool} {k : Nat}
theorem take_mem (hk : k < out.length) (x : Int) : x ∈ out.take (k + 1) ↔ x ∈ out.take k ∨ x = out[k] := by
  rw [List.take_succ_eq_append_getElem hk, List.mem_append, List.mem_singleton]
theorem drop_cons (hk : k < out.length) : out.drop k = out[k] :: out.drop (k + 1) := List.drop_eq_getElem_cons hk
theorem drop_gt (ho : out.Pairwise (· < ·)) (hk : k < out.length) : ∀ y ∈ out.drop (k + 1), out[k] < y := by
  have h := ho.drop (i := k)
  rw [drop_cons hk, List.pairwise_cons] at h
  exact h.1
theorem Ins.pass (h : Ins id out pre done k) (ho : out.Pairwise (· < ·)) (hn : id ∉ out) (hk : k < out.length) (hc : done = true ∨ ¬ id < out[k]) : Ins id out (pre ++ [out[k]]) done (k + 1) := by
  have hk1 : ∀ x ∈ pre, x < out[k] := fun x hx => h.lt x hx _ (by rw [drop_cons hk]; exact List.mem_cons_self)
  refine ⟨snoc_sorted h.sorted hk1, fun x => ?_, fun x hx y hy => ?_, fun hd x hx => ?_, ?_⟩
  · rw [List.mem_append, List.mem_singleton, h.mem, take_mem hk]
    constructor
    · rintro ((h | h) | h)
      · exact Or.inl (Or.inl h)
      · exact Or.inr h
      · exact Or.inl (Or.inr h)
    · rintro ((h | h) | h)
      · exact Or.inl (Or.inl h)
      · exact Or.inr h
      · exact Or.inl (Or.inr h)
  · have hd := drop_gt ho hk y hy
    rcases List.mem_append.1 hx with hx | hx
    · have := hk1 x hx; omega
    · rw [List.mem_singleton.1 hx]; exact hd
  · rcases List.mem_append.1 hx with hx | hx
    · exact h.wait hd x hx
    · rw [List.mem_singleton.1 hx]
      rcases hc with hc | hc
      · rw [hd] at hc; cases hc
      · have : out[k] ≠ id := fun e => hn (by rw [← e]; exact List.getElem_mem hk)
        omega
  · have := h.len
    rw [List.length_append, List.length_singleton]
    exact ⟨by omega, fun hd => by have := this.2 hd; omega⟩
theorem Ins.put (h : Ins id out pre false k) (ho : out.Pairwise (· < ·)) (hk : k < out.length) (hc : id < out[k]) : Ins id out (pre ++ [id] ++ [out[k]]) true (k + 1) := by
  have hk1 : ∀ x ∈ pre ++ [id], x < out[k] := fun x hx => by
    rcases List.mem_append.1 hx with hx | hx
    · exact h.lt x hx _ (by rw [drop_cons hk]; exact List.mem_cons_self)
    · rw [List.mem_singleton.1 hx]; exact hc
  refine ⟨snoc_sorted (snoc_sorted h.sorted (h.wait rfl)) hk1, fun x => ?_, fun x hx y hy => ?_, fun hd => (by cases hd), ?_⟩
  · rw [List.mem_append, List.mem_append, List.mem_singleton, List.mem_singleton, h.mem, take_mem hk]
    constructor
    · rintro ((( h | h) | h) | h)
      · exact Or.inl (Or.inl h)
      · cases h.1
      · exact Or.inr ⟨rfl, h⟩
      · exact Or.inl (Or.inr h)
    · rintro ((h | h) | h)
      · exact Or.inl (Or.inl (Or.inl h))
      · exact Or.inr h
      · exact Or.inl (Or.inr h.2)
  · have hd := drop_gt ho hk y hy
    rcases List.mem_append.1 hx with hx | hx
    · have := hk1 x hx; omega
    · rw [List.mem_singleton.1 hx]; exact hd
  · have := h.len.2 rfl
    rw [List.length_append, List.length_append, List.length_singleton, List.length_singleton]
    exact ⟨by omega, fun hd => by cases hd⟩
end
/-- The answers among the first i streams. -/
structure Got (D : List S72) (m : Int → Qu) (conn : Int) (l : List S50) (i : Nat) (out : List Int) : Prop where
  sorted : out.Pairwise (· < ·)
  mem : ∀ x, x ∈ out ↔ x ∈ (D.take i).map (·.f0) ∧ rdyB (m x) conn (leftL x l) = true
  len : out.length ≤ i
section
variable {D : List S72} {m : Int → Qu} {conn : Int} {l : List S50} {i : Nat} {out : List Int}
theorem Got.start (D : List S72) (m : Int → Qu) (conn : Int) (l : List S50) : Got D m conn l 0 [] := ⟨List.Pairwise.nil, fun x => by simp, Nat.le_refl _⟩
theorem take_f0 (hi : i < D.length) (x : Int) : x ∈ (D.take (i + 1)).map (·.f0) ↔ x ∈ (D.take i).map (·.f0) ∨ x = (D.getD i z72).f0 := by
  rw [List.take_succ_eq_append_getElem hi, List.map_append, List.mem_append, get_at hi]
  simp
theorem Got.skip (h : Got D m conn l i out) (hi : i < D.length) (hr : rdyB (m (D.getD i z72).f0) conn (leftL (D.getD i z72).f0 l) = false) : Got D m conn l (i + 1) out := by
  refine ⟨h.sorted, fun x => ?_, Nat.le_succ_of_le h.len⟩
  rw [h.mem, take_f0 hi]
  constructor
  · exact fun h => ⟨Or.inl h.1, h.2⟩
  · rintro ⟨h1 | h1, h2⟩
    · exact ⟨h1, h2⟩
    · rw [h1, hr] at h2; cases h2
theorem Got.fresh (h : Got D m conn l i out) (hd : DR D m) (hi : i < D.length) : (D.getD i z72).f0 ∉ out := by
  intro hm
  have h1 := ((h.mem _).1 hm).1
  rw [get_at hi] at h1
  have hnd := hd.nd
  have hs : D = D.take i ++ D[i] :: D.drop (i + 1) := by rw [← List.drop_eq_getElem_cons hi, List.take_append_drop]
  rw [hs, List.map_append, List.map_cons, List.nodup_append] at hnd
  exact hnd.2.2 _ h1 _ List.mem_cons_self rfl
theorem Got.add {pre : List Int} {done : Bool} (h : Got D m conn l i out) (hi : i < D.length) (hr : rdyB (m (D.getD i z72).f0) conn (leftL (D.getD i z72).f0 l) = true) (hp : Ins (D.getD i z72).f0 out pre done out.length) : Got D m conn l (i + 1) (if done = true then pre else pre ++ [(D.getD i z72).f0]) := by
  have hm : ∀ x, x ∈ out ∨ x = (D.getD i z72).f0 ↔ x ∈ (D.take (i + 1)).map (·.f0) ∧ rdyB (m x) conn (leftL x l) = true := fun x => by
    rw [h.mem, take_f0 hi]
    constructor
    · rintro (h | h)
      · exact ⟨Or.inl h.1, h.2⟩
      · exact ⟨Or.inr h, by rw [h]; exact hr⟩
    · rintro ⟨h1 | h1, h2⟩
      · exact Or.inl ⟨h1, h2⟩
      · exact Or.inr h1
  have hmem := hp.mem
  rw [List.take_length] at hmem
  have hlen := hp.len
  have := h.len
  cases done
  · rw [if_neg (by decide)]
    refine ⟨snoc_sorted hp.sorted (hp.wait rfl), fun x => ?_, ?_⟩
    · rw [← hm, List.mem_append, List.mem_singleton, hmem]
      simp
    · rw [List.length_append, List.length_singleton]
      have := hlen.2 rfl
      omega
  · rw [if_pos rfl]
    refine ⟨hp.sorted, fun x => ?_, by omega⟩
    rw [← hm, hmem]
    simp
theorem Got.all (h : Got D m conn l D.length out) (hd : DR D m) : RdyL m conn l out := by
  refine ⟨h.sorted, fun x => ?_⟩
  rw [h.mem, List.take_length]
  constructor
  · exact fun h => h.2
  · intro hr
    refine ⟨?_, hr⟩
    by_cases hx : x ∈ D.map (·.f0)
    · exact hx
    · rw [hd.no x hx, rdy_zero] at hr; cases hr
end
theorem ready1_calls (q B : Nat) (v : Value) (D : List S72) (m : Int → Qu) (id conn left : Int) (r : Bool) (w : World) (h : DocAt w q B v D) (hd : DR D m) (hr : rdyB (m id) conn left = r) : Calls Try.prog 35 #[.pointer (some ⟨q, 0, none⟩), .int .i64 id, .int .i64 conn, .int .i64 left] w fun e w' => e = .returned (.bool r) ∧ Below w.heap.size w w' := by
  have H := Aside0.mk h
  have HD := Aside0.mk hd
  obtain ⟨T, hT⟩ : ∃ T, (m id).t.size = T := ⟨_, rfl⟩
  obtain ⟨e, he⟩ : ∃ e, (m id).e = e := ⟨_, rfl⟩
  have HT := Aside0.mk hT
  have HE := Aside0.mk he
  have HR : Aside0 ((if T = 0 then e else decide (0 < conn) && decide (0 < left)) = r) := ⟨by
    unfold rdyB at hr
    rw [bare_sz, hT, he] at hr
    rw [← hr]
    by_cases h0 : T = 0 <;> simp [h0]⟩
  clear h hd hT he hr
  by_cases h0 : T = 0
  · have d1 : decide ((0 : Int) < (T : Int)) = false := decide_eq_false (by omega)
    have d2 : decide (0 < T) = false := decide_eq_false (by omega)
    rw [if_pos h0] at HR
    clear h0
    go_enter Try.func35, Try.ntmps35
    go_wp2_with (go_at_call 24; refine (waitsd_calls q B _ D m id _ H.out HD.out).mono ?_; rintro e w2 ⟨rfl, hb⟩; rw [HT.out, HE.out]; have L2 := Aside0.mk hb; clear hb)
    go_ret
    exact ⟨by rw [← HR.out]; rfl, L2.out⟩
  · have d1 : decide ((0 : Int) < (T : Int)) = true := decide_eq_true (by omega)
    have d2 : decide (0 < T) = true := decide_eq_true (by omega)
    rw [if_neg h0] at HR
    clear h0
    by_cases hc : 0 < conn
    · have d3 : decide (0 < conn) = true := decide_eq_true hc
      rw [d3, Bool.true_and] at HR
      clear hc
      go_enter Try.func35, Try.ntmps35
      go_wp2_with (go_at_call 24; refine (waitsd_calls q B _ D m id _ H.out HD.out).mono ?_; rintro e w2 ⟨rfl, hb⟩; rw [HT.out, HE.out]; have L2 := Aside0.mk hb; clear hb)
      go_ret
      exact ⟨by rw [← HR.out]; rfl, L2.out⟩
    · have d3 : decide (0 < conn) = false := decide_eq_false hc
      rw [d3, Bool.false_and] at HR
      clear hc
      go_enter Try.func35, Try.ntmps35
      go_wp2_with (go_at_call 24; refine (waitsd_calls q B _ D m id _ H.out HD.out).mono ?_; rintro e w2 ⟨rfl, hb⟩; rw [HT.out, HE.out]; have L2 := Aside0.mk hb; clear hb)
      go_ret
      exact ⟨by rw [← HR.out]; rfl, L2.out⟩
end Go.Proofs.Ytedkjbdkokdgdaa.Sh
