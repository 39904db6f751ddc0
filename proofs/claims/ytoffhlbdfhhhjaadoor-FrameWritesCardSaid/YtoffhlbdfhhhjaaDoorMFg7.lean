/- Frames as bytes: the builder's text, Write. The package's variable holds what the program lays. -/
import Derived.Test.YtoffhlbdfhhhjaaDoorMFg6
import Derived.RegionTactic
namespace Go.Proofs.YtoffhlbdfhhhjaaDoor.Fr
open Go Go.RowKit Go.Proofs.YtoffhlbdfhhhjaaDoorW.PrintWords Go.Proofs.YtoffhlbdfhhhjaaDoorW.PrintLast Go.Proofs.YtoffhlbdfhhhjaaDoorW.PrintMore Go.Proofs.YtoffhlbdfhhhjaaDoor.QL
set_option linter.unusedSimpArgs false
set_option linter.unusedVariables false
set_option maxHeartbeats 4000000
set_option maxRecDepth 100000
/-- All blocks stay but the row that the builder at b writes into. -/
def Others (b : Nat) (w w' : World) : Prop := w.heap.size ≤ w'.heap.size ∧ ∀ k, k < w.heap.size → (∀ p v, w.heap[b]? = some (.cells #[p, v] 84 (0, 0)) → v.ownBlock ≠ some k) → w'.heap[k]? = w.heap[k]?
theorem Others.of_below {b : Nat} {w w' : World} (h : Below w.heap.size w w') : Others b w w' := ⟨h.size, fun k hk _ => h.block k hk⟩
theorem textOf_nil (b : Nat) (p : Value) (w : World) (hb : w.heap[b]? = some (.cells #[p, .slice none 0 0] 84 (0, 0))) :
    Calls Tryd.prog 52 #[.pointer (some ⟨b, 0, none⟩)] w fun e w' => e = .returned (.string ⟨#[]⟩) ∧ Below w.heap.size w w' := by
  have c1 : w.drew.cell? ⟨b, 1, none⟩ = some (.slice none 0 0) := blk_cell hb 1
  have d1 := Lib.run_unsafeSliceData_nil (P := Tryd.prog) w.drew #[61] 119 0 0
  have d2 := Lib.run_unsafeString_none (P := Tryd.prog) w.drew 119 3 9 none
  have HB := Aside0.mk (below_drew (Below.refl w.heap.size w))
  go_enter Tryd.func52, Tryd.ntmps52
  go_wp2_with fail
  go_region
  all_goals (go_wp2_with fail; go_ret; exact ⟨rfl, HB.out⟩)
theorem textOf_cap (b g cap : Nat) (p : Value) (w : World) (hc : cap ≠ 0) (hb : w.heap[b]? = some (.cells #[p, .slice (some ⟨g, 0, none⟩) 0 cap] 84 (0, 0))) :
    Calls Tryd.prog 52 #[.pointer (some ⟨b, 0, none⟩)] w fun e w' => e = .returned (.string ⟨#[]⟩) ∧ Below w.heap.size w w' := by
  have c1 : w.drew.cell? ⟨b, 1, none⟩ = some (.slice (some ⟨g, 0, none⟩) 0 cap) := blk_cell hb 1
  have d1 := Lib.run_unsafeSliceData_row (P := Tryd.prog) w.drew #[61] 119 ⟨g, 0, none⟩ 0 cap hc
  have d2 := Lib.run_unsafeString_none (P := Tryd.prog) w.drew 119 3 9 (some ⟨g, 0, none⟩)
  have HB := Aside0.mk (below_drew (Below.refl w.heap.size w))
  clear hc
  go_enter Tryd.func52, Tryd.ntmps52
  go_wp2_with fail
  go_region
  all_goals (go_wp2_with fail; go_ret; exact ⟨rfl, HB.out⟩)
theorem textOf_full (b g cap : Nat) (p : Value) (l : List UInt8) (cur : Array Value) (fz : Nat × Nat) (w : World) (h0 : l ≠ []) (hl : l.length ≤ cap) (hm : cap ≤ maxLen) (hs : cur.size = cap) (hb : w.heap[b]? = some (.cells #[p, .slice (some ⟨g, 0, none⟩) l.length cap] 84 (0, 0))) (hg : w.heap[g]? = some (.cells cur 5 fz))
    (hcell : ∀ j x, l[j]? = some x → w.drew.cell? ((⟨g, 0, none⟩ : Addr).add j) = some (.int .u8 x.toNat)) :
    Calls Tryd.prog 52 #[.pointer (some ⟨b, 0, none⟩)] w fun e w' => e = .returned (.string ⟨l.toArray⟩) ∧ w' = w.drew.freeze ⟨g, 0, none⟩ l.length := by
  have hl0 : l.length ≠ 0 := by simpa using h0
  have c1 : w.drew.cell? ⟨b, 1, none⟩ = some (.slice (some ⟨g, 0, none⟩) l.length cap) := blk_cell hb 1
  have d1 := Lib.run_unsafeSliceData_row (P := Tryd.prog) w.drew #[61] 119 ⟨g, 0, none⟩ l.length cap (by omega)
  have hsh : w.drew.shape? g = some (5, cur.size) := by
    have h : w.drew.heap[g]? = some (.cells cur 5 fz) := hg
    simp [World.shape?, h]
  have d2 := Lib.run_unsafeString_row (P := Tryd.prog) w.drew 119 3 9 5 Tryd.underlying119 (by kernel_rfl) g cur.size hsh l h0 (by omega) (by unfold maxLen at hm; omega) hcell
  have h63 : l.length ≤ 9223372036854775807 := by unfold maxLen at hm; omega
  clear hcell hsh hl0 hm hl hs hg h0
  go_enter Tryd.func52, Tryd.ntmps52
  go_wp2_with fail
  go_region
  all_goals (go_wp2_with fail; go_ret; exact ⟨rfl, rfl⟩)
theorem textOf_zero (b g : Nat) (p : Value) (cur : Array Value) (fz : Nat × Nat) (w : World) (hb : w.heap[b]? = some (.cells #[p, .slice (some ⟨g, 0, none⟩) 0 0] 84 (0, 0))) (hg : w.heap[g]? = some (.cells cur 5 fz)) :
    Calls Tryd.prog 52 #[.pointer (some ⟨b, 0, none⟩)] w fun e w' => e = .returned (.string ⟨#[]⟩) ∧ Below w.heap.size w w' := by
  have c1 : w.drew.cell? ⟨b, 1, none⟩ = some (.slice (some ⟨g, 0, none⟩) 0 0) := blk_cell hb 1
  have hsh : w.drew.shape? g = some (5, cur.size) := by
    have h : w.drew.heap[g]? = some (.cells cur 5 fz) := hg
    simp [World.shape?, h]
  have d1 := Lib.run_unsafeSliceData_zero (P := Tryd.prog) w.drew #[61] 119 5 Tryd.underlying119 ⟨g, 0, none⟩ 0 (5, cur.size) hsh
  have c2 : (w.drew.alloc (.view ⟨g, 0, none⟩ 5)).cell? ⟨b, 1, none⟩ = some (.slice (some ⟨g, 0, none⟩) 0 0) := blk_cell (blk_alloc (w := w.drew) hb _) 1
  have c3 : (w.alloc (.view ⟨g, 0, none⟩ 5)).drew.cell? ⟨b, 1, none⟩ = some (.slice (some ⟨g, 0, none⟩) 0 0) := c2
  have c0 : w.cell? ⟨b, 1, none⟩ = some (.slice (some ⟨g, 0, none⟩) 0 0) := c1
  have d2 := fun W q => Lib.run_unsafeString_none (P := Tryd.prog) W 119 3 9 q
  have HB := Aside0.mk (below_drew (below_alloc (Below.refl w.heap.size w) (.view ⟨g, 0, none⟩ 5)))
  clear hsh hg
  go_enter Tryd.func52, Tryd.ntmps52
  go_wp2_with fail
  go_region
  all_goals (go_wp2_with fail; go_ret; exact ⟨rfl, HB.out⟩)
theorem freeze_at (w : World) (a : Addr) (n : Nat) : (w.freeze a n).heap.size = w.heap.size ∧ ∀ k, k ≠ a.block → (w.freeze a n).heap[k]? = w.heap[k]? := by
  unfold World.freeze
  split
  · exact ⟨rfl, fun _ _ => rfl⟩
  · refine ⟨Array.size_modify, fun k hk => ?_⟩
    show (w.heap.modify a.block _)[k]? = _
    rw [Array.getElem?_modify, if_neg (fun h => hk h.symm)]
/-- The text of a builder. -/
theorem textOf_calls (B b : Nat) (l : List UInt8) (w : World) (h : Bd B b l w) (hBw : B ≤ w.heap.size) :
    Calls Tryd.prog 52 #[.pointer (some ⟨b, 0, none⟩)] w fun e w' => e = .returned (.string ⟨l.toArray⟩) ∧ Below B w w' ∧ Others b w w' := by
  obtain ⟨p, v, hB, hb, hown⟩ : ∃ p v, B ≤ b ∧ w.heap[b]? = some (.cells #[p, v] 84 (0, 0)) ∧ w.ownsRowF B 5 1 v l.length (Lib.byteCells l) := by
    rcases h with ⟨hB, v, hb, ho, _⟩ | ⟨hB, v, hb, ho, _⟩
    · rw [Lib.byteCells_length] at ho; exact ⟨_, v, hB, hb, ho⟩
    · rw [Lib.byteCells_length] at ho; exact ⟨_, v, hB, hb, ho⟩
  have low : ∀ w', Below w.heap.size w w' → Below B w w' := fun w' k => below_lo k hBw
  rcases hown.2 with ⟨rfl, hz⟩ | ⟨g, cap, cur, fz, rfl, hbg, hg, hfz, hnc, hcm, hcs, htake⟩
  · obtain rfl : l = [] := List.eq_nil_of_length_eq_zero hz
    exact (textOf_nil b p w hb).mono fun _ _ ⟨h1, h2⟩ => ⟨h1, low _ h2, Others.of_below h2⟩
  · by_cases h0 : l = []
    · subst h0
      by_cases hc : cap = 0
      · subst hc
        exact (textOf_zero b g p cur fz w hb hg).mono fun _ _ ⟨h1, h2⟩ => ⟨h1, low _ h2, Others.of_below h2⟩
      · exact (textOf_cap b g cap p w hc hb).mono fun _ _ ⟨h1, h2⟩ => ⟨h1, low _ h2, Others.of_below h2⟩
    · refine (textOf_full b g cap p l cur fz w h0 hnc hcm (by omega) hb hg ?_).mono ?_
      · intro j x hx
        exact hown.cells (g := g) rfl j (.int .u8 x.toNat) (by simp [Lib.byteCells, hx])
      · rintro e w' ⟨h1, rfl⟩
        refine ⟨h1, Lib.below_freeze (below_drew (Below.refl B w)) (p := ⟨g, 0, none⟩) hbg _, ?_⟩
        have hz := freeze_at w.drew ⟨g, 0, none⟩ l.length
        refine ⟨by rw [hz.1]; exact Nat.le_refl _, fun k hk hne => ?_⟩
        exact hz.2 k (fun he => hne p _ hb (by rw [he]; rfl))
end Go.Proofs.YtoffhlbdfhhhjaaDoor.Fr
namespace Go.Proofs.YtoffhlbdfhhhjaaDoor.Fr
open Go Go.RowKit Go.Proofs.YtoffhlbdfhhhjaaDoorW.PrintWords Go.Proofs.YtoffhlbdfhhhjaaDoorW.PrintLast Go.Proofs.YtoffhlbdfhhhjaaDoorW.PrintMore Go.Proofs.YtoffhlbdfhhhjaaDoor.QL
set_option linter.unusedSimpArgs false
set_option linter.unusedVariables false
set_option maxHeartbeats 40000000
set_option maxRecDepth 100000
theorem right_calls (g : Nat) (f : Fr) (A : Option Addr) (c : Nat) (x : Bool) (w : World) (hf : At w g f A c) (hG : GL w) (hps : Kd.C k32 w A f.ps.length f.ps) (hx : rightB f = x) :
    Calls Tryd.prog 45 #[.pointer (some ⟨g, 0, none⟩)] w fun e w' => e = .returned (.bool x) ∧ Below w.heap.size w w' := by
  subst hx
  have hr : rightB f = (headB f && (!prioB f || inR f.wt 1 256) && (f.ty != 4 || parB f) && lenB f && numB f && sameB f) := rfl
  unfold headB at hr
  have hne : (Go.bits .andNot .i64 f.fl (kFl f.ty) == 0) = !(Go.bits .andNot .i64 f.fl (kFl f.ty) != 0) := by simp [bne]
  rw [hne] at hr
  cases h0 : inR f.ty 0 255
  · rw [h0] at hr
    rw [show rightB f = false from by rw [hr]; rfl]
    exact right_no0 g f A c w hf hG h0
  · cases h1 : (Go.bits .andNot .i64 f.fl (kFl f.ty) != 0)
    · cases h2 : inR f.st 0 2147483647
      · rw [h0, h1, h2] at hr
        rw [show rightB f = false from by rw [hr]; rfl]
        exact right_no2 g f A c w hf hG h0 h1 h2
      · cases h3 : stB f.ty f.st
        · rw [h0, h1, h2, h3] at hr
          rw [show rightB f = false from by rw [hr]; rfl]
          exact right_no3 g f A c w hf hG h0 h1 h2 h3
        · rw [h0, h1, h2, h3] at hr
          have h := right_yes g f A c w hf hG hps h0 h1 h2 h3
          rw [show rightB f = ((!prioB f || inR f.wt 1 256) && (f.ty != 4 || parB f) && lenB f && numB f && sameB f) from by rw [hr]; simp only [Bool.not_false, Bool.and_true, Bool.true_and]]
          exact h
    · rw [h0, h1] at hr
      rw [show rightB f = false from by rw [hr]; rfl]
      exact right_no1 g f A c w hf hG h0 h1
theorem len_keep (B b : Nat) (l : List UInt8) (w : World) (h : Bd B b l w) : Calls Tryd.prog 51 #[.pointer (some ⟨b, 0, none⟩)] w fun e w' => e = .returned (.int .i64 l.length) ∧ w = w' := (len_calls B b l w h).mono fun _ _ h => ⟨h.1, h.2.symm⟩
/-- What a right frame has. -/
theorem right_facts {f : Fr} (h : rightB f = true) : (0 ≤ f.ty ∧ f.ty ≤ 255) ∧ (prioB f = true → 1 ≤ f.wt ∧ f.wt ≤ 256) ∧ (0 ≤ f.pad ∧ f.pad ≤ 255) ∧ (0 ≤ f.dep ∧ f.dep ≤ 2147483647) := by
  unfold rightB headB numB at h
  simp only [Bool.and_eq_true] at h
  obtain ⟨⟨⟨⟨⟨⟨⟨⟨h1, h2⟩, h3⟩, h4⟩, h5⟩, h6⟩, h7⟩, ⟨⟨h8, h9⟩, h10⟩, h11⟩, h12⟩ := h
  refine ⟨inR_iff h1, fun hp => ?_, inR_iff h8, inR_iff h9⟩
  rw [hp] at h5
  exact inR_iff (by simpa using h5)
theorem repeat_calls (n : Nat) (v : Int) (hv : v = (n : Int)) (hn : n ≤ 255) (w : World) : Calls Tryd.prog 50 #[.string ⟨#[0]⟩, .int .i64 v] w fun e w' => e = .returned (.string ⟨(List.replicate n (0 : UInt8)).toArray⟩) ∧ Below w.heap.size w w' := by
  subst hv
  have h := Tryd.strings_Repeat ⟨#[0]⟩ n w (by omega) (by show 1 * n ≤ _; omega)
  have e : Lib.repeatL (⟨#[0]⟩ : ByteArray).data.toList n = List.replicate n 0 := by
    show Lib.repeatL [0] n = _
    clear h hn
    induction n with
    | zero => rfl
    | succ n ih => simp only [Lib.repeatL, List.replicate_succ] at *; first | rw [ih]; rfl | (rw [List.replicate_succ]; simp [ih])
  rw [e] at h
  exact h
/-- What the row of a builder is. -/
theorem Bd.row {B b : Nat} {l : List UInt8} {w : World} (h : Bd B b l w) : ∃ p v, w.heap[b]? = some (.cells #[p, v] 84 (0, 0)) ∧ ∀ k, v.ownBlock = some k → k < w.heap.size := by
  rcases h with ⟨_, v, hb, ho, _⟩ | ⟨_, v, hb, ho, _⟩
  · exact ⟨_, v, hb, fun k hk => (ho.lt k hk).2⟩
  · exact ⟨_, v, hb, fun k hk => (ho.lt k hk).2⟩
/-- Another builder's text is told: this one stays. -/
theorem Bd.others {B b a : Nat} {l : List UInt8} {w w' : World} {p v : Value} (h : Bd B b l w) (ha : w.heap[a]? = some (.cells #[p, v] 84 (0, 0))) (hv : ∀ k, v.ownBlock = some k → k < B) (ho : Others a w w') : Bd B b l w' := by
  have keep : ∀ k, B ≤ k → k < w.heap.size → w'.heap[k]? = w.heap[k]? := by
    intro k hk hlt
    refine ho.2 k hlt (fun p2 v2 h2 he => ?_)
    rw [ha] at h2
    injection h2 with h2
    injection h2 with h2 _ _
    have hvv : v = v2 := by
      have := congrArg (fun a : Array Value => a.toList) h2
      simp at this
      exact this.2
    rw [← hvv] at he
    have := hv k he
    omega
  have f : ∀ q, Lib.BuilderAtF 84 5 B b q (Lib.byteCells l) w → Lib.BuilderAtF 84 5 B b q (Lib.byteCells l) w' := by
    rintro q hq
    have hlt := hq.lt
    obtain ⟨hB, v2, hc, hown, hne⟩ := hq
    refine ⟨hB, v2, (keep b hB hlt).trans hc, ⟨hown.1, ?_⟩, hne⟩
    rcases hown.2 with hn | ⟨g, cap, cur, fz, he, hbg, hg, rest⟩
    · exact .inl hn
    · exact .inr ⟨g, cap, cur, fz, he, hbg, (keep g hbg (blk_lt hg)).trans hg, rest⟩
  exact h.elim (fun x => .inl (f _ x)) (fun x => .inr (f _ x))
theorem layB_len (f : Fr) (hd : f.da.size ≤ 140737488351232) (hp : f.ps.length * 16 ≤ 140737488351232) : (layB f).length ≤ 140737488351248 := by
  have h1 : f.da.data.toList.length = f.da.size := rfl
  have h2 := params_length f.ps
  have h3 := weight_length f
  unfold layB
  repeat' split
  all_goals simp only [List.length_append, be_length, h1, h2, h3, List.length_nil]
  all_goals omega
theorem Wr.of_below {B b : Nat} {w w1 : World} (h : Below w.heap.size w w1) (hB : B ≤ w.heap.size) : Wr B b w w1 := ⟨below_lo h hB, fun k o hk _ _ => blk_below hk h⟩
theorem write_calls (f : Fr) (A : Option Addr) (c : Nat) (w : World) (hG : GL w) (hps : Kd.C k32 w A f.ps.length f.ps) (hda : f.da.size ≤ 140737488351232) (hpl : f.ps.length * 16 ≤ 140737488351232) :
    Calls Tryd.prog 16 #[.agg #[.int .i64 f.ty, .int .i64 f.fl, .int .i64 f.st, .string f.da, .int .i64 f.pad, .int .i64 f.dep, .bool f.ex, .int .i64 f.wt, .int .i64 f.co, .int .i64 f.la, .slice A f.ps.length c]] w fun e w' => e = .returned (.tuple #[.string ⟨(wr f).2.toArray⟩, .int .i64 (wr f).1]) ∧ Below w.heap.size w w' := by
  have HG := Aside0.mk hG
  have HPS := Aside0.mk hps
  have HDA := Aside0.mk hda
  have HPL := Aside0.mk hpl
  have HB := Aside0.mk (Below.refl w.heap.size w)
  clear hG hps hda hpl
  go_enter Tryd.func16, Tryd.ntmps16
  go_upto_region 1 with fail
  obtain ⟨W1, hW1⟩ : ∃ W, w.alloc (.cells #[.int .i64 f.ty, .int .i64 f.fl, .int .i64 f.st, .string f.da, .int .i64 f.pad, .int .i64 f.dep, .bool f.ex, .int .i64 f.wt, .int .i64 f.co, .int .i64 f.la, .slice A f.ps.length c] 24) = W := ⟨_, rfl⟩
  obtain ⟨g, hg⟩ : ∃ x, w.heap.size = x := ⟨_, rfl⟩
  have X0 : Aside0 (At W1 g f A c) := ⟨by rw [← hW1, ← hg]; exact blk_new w _⟩
  have L0 : Aside0 (Below w.heap.size w W1) := ⟨by rw [← hW1]; exact below_alloc HB.out _⟩
  have EG : Aside0 (w.heap.size = g) := ⟨hg⟩
  rw [hW1, hg]
  clear hW1 hg
  obtain ⟨rb, hrb⟩ : ∃ x, rightB f = x := ⟨_, rfl⟩
  have HRB := Aside0.mk hrb
  clear hrb
  go_upto_if 7 with (go_at_call 45; refine (right_calls g f A c rb _ X0.out (HG.out.below L0.out) (Kd.C_below HPS.out L0.out) HRB.out).mono ?_; rintro e w2 ⟨rfl, hb⟩; have X2 := Aside0.mk (X0.out.low hb); have L2 := Aside0.mk (below_then L0.out L0.out.size hb); clear hb)
  cases rb
  · have HV : Aside0 (wr f = (60, [])) := ⟨by unfold wr; rw [HRB.out]; rfl⟩
    go_wp2_with fail
    go_ret2
    exact ⟨by rw [HV.out]; rfl, L2.out⟩
  · have hfc := right_facts HRB.out
    have HFC : Aside0 ((0 ≤ f.ty ∧ f.ty ≤ 255) ∧ (0 ≤ f.pad ∧ f.pad ≤ 255) ∧ ((f.ty = 1 ∧ has f.fl 32 = true ∨ f.ty = 2) → 0 ≤ f.dep ∧ f.dep ≤ 2147483647 ∧ 1 ≤ f.wt ∧ f.wt ≤ 256)) := ⟨hfc.1, hfc.2.2.1, fun hp => by
      have hpr : prioB f = true := by
        unfold prioB
        rcases hp with ⟨h1, h2⟩ | h1
        · rw [h1, h2]; rfl
        · rw [h1]; rfl
      exact ⟨hfc.2.2.2.1, hfc.2.2.2.2, (hfc.2.1 hpr).1, (hfc.2.1 hpr).2⟩⟩
    clear hfc
    go_upto_region 4 with fail
    obtain ⟨W3, hW3⟩ : ∃ W, w2.alloc (.cells #[.pointer none, .slice none 0 0] 84) = W := ⟨_, rfl⟩
    obtain ⟨b, hb⟩ : ∃ x, w2.heap.size = x := ⟨_, rfl⟩
    have H3 : Aside0 (Bd b b [] W3) := ⟨by rw [← hW3, ← hb]; exact Bd.new w2⟩
    have X3 : Aside0 (At W3 g f A c) := ⟨by rw [← hW3]; exact X2.out.low (below_alloc (Below.refl _ _) _)⟩
    have L3 : Aside0 (Below w.heap.size w W3) := ⟨by rw [← hW3]; exact below_then L2.out L2.out.size (below_alloc (Below.refl _ _) _)⟩
    have BLT : Aside0 (b < W3.heap.size) := ⟨by rw [← hW3, ← hb]; simp⟩
    have BW : Aside0 (w.heap.size ≤ b) := ⟨by rw [← hb]; exact L2.out.size⟩
    have NE : Aside0 (g ≠ b) := ⟨by rw [← hb]; have := blk_lt X2.out; omega⟩
    rw [hW3, hb]
    clear hW3 hb X0 L0 X2 L2
    obtain ⟨pb, hpb⟩ : ∃ x, padB f = x := ⟨_, rfl⟩
    have HPB := Aside0.mk hpb
    clear hpb
    go_upto_if 8 with (go_at_call 46; refine (padded_calls g f A c pb _ X3.out HPB.out).mono ?_; rintro e w8 ⟨rfl, rfl⟩)
    go_cut [2] from 9 to 11 (fun v2 wc => v2 = .string ⟨#[]⟩ ∧ Aside0 (Bd b b (if padB f = true then be 1 f.pad else []) wc) ∧ Aside0 (Wr b b W3 wc))
    case first =>
      as_aux_lemma =>
      cases pb
      · go_wp2_with fail
        go_meet
        case rel => exact ⟨rfl, ⟨by rw [HPB.out]; exact H3.out⟩, ⟨Wr.refl _ _ _⟩⟩
      · have z4 := X3.out.c4
        go_wp2_with (go_at_call 47; refine (put_n 1 b b [] f.pad _ _ H3.out rfl (by decide) (by simp) (Nat.le_of_lt BLT.out)).mono ?_; rintro e w4 ⟨rfl, h1, h2⟩; have H4 := Aside0.mk h1; have K4 := Aside0.mk h2; clear h1 h2)
        go_meet
        case rel => exact ⟨rfl, ⟨by rw [HPB.out]; simpa using H4.out⟩, K4⟩
    case rest =>
      obtain ⟨rfl, H1, KW⟩ := hcut
      obtain ⟨l1, hl1⟩ : ∃ l, (if padB f = true then be 1 f.pad else []) = l := ⟨_, rfl⟩
      have HL1 := Aside0.mk hl1
      have hl1n : l1.length ≤ 1 := by
        rw [← hl1]
        split
        · simp [be_length]
        · simp
      rw [hl1] at H1
      clear hl1 H3
      have X1 := Aside0.mk (X3.out.wr NE.out KW.out)
      have LC := Aside0.mk (L3.out.trans (below_lo KW.out.1 BW.out))
      have hdl : f.da.data.toList.length = f.da.size := rfl
      have HLEN1 : Aside0 (l1.length + f.da.size + 16 ≤ 140737488355328) := ⟨by have := HDA.out; omega⟩
      have HLEN2 : Aside0 (l1.length + 16 ≤ 140737488355328) := ⟨by omega⟩
      have HLEN8 : Aside0 (l1.length + 8 ≤ 140737488355328) := ⟨by omega⟩
      have HLEND : Aside0 (l1.length + f.da.size ≤ 140737488355328) := ⟨by have := HDA.out; omega⟩
      have HLENP : Aside0 (l1.length + f.ps.length * 6 + 16 ≤ 140737488355328) := ⟨by have := HPL.out; omega⟩
      clear hl1n hdl
      have hf0 := fldF0
      have z0 := X1.out.c0
      go_upto_region 6 with fail
      go_cut [2] from 12 to 16 (fun v2 wc => v2 = .string ⟨#[]⟩ ∧ Aside0 (Bd b b (l1 ++ layB f) wc) ∧ Aside0 (Wr b b W3 wc))
      case first =>
        as_aux_lemma =>
        have hf0 := fldF0
        have z0 := X1.out.c0
        by_cases h1 : f.ty = 1
        · have HTY := Aside0.mk h1
          have HLY : Aside0 (layB f = (if has f.fl 32 = true then weight f else []) ++ f.da.data.toList) := ⟨by unfold layB; rw [h1]; rfl⟩
          clear h1
          go_wp2_with (first
            | (go_at_call 48; refine (payloadOf_1 f.ty HTY.out _).mono ?_; rintro e w5 ⟨rfl, hb⟩; have H5 := Aside0.mk (H1.out.below hb); have X5 := Aside0.mk (X1.out.low hb); have L5 := Aside0.mk (below_then LC.out LC.out.size hb); have K5 := Aside0.mk (KW.out.trans (Wr.of_below hb (Nat.le_trans (Nat.le_of_lt BLT.out) KW.out.size))); clear hb)
            | (go_at_call 73; refine (layHeaders_calls b b g _ f A c _ H5.out X5.out NE.out (fun hp => HFC.out.2.2 (.inl ⟨HTY.out, hp⟩)) HLEN1.out (Nat.le_trans (Nat.le_of_lt BLT.out) K5.out.size)).mono ?_; rintro e w6 ⟨rfl, h1, h2⟩; have H6 := Aside0.mk h1; have K6 := Aside0.mk (K5.out.trans h2); clear h1 h2))
          go_meet
          case rel => exact ⟨rfl, ⟨by rw [HLY.out]; exact H6.out⟩, K6⟩
        · skip
          by_cases h2 : f.ty = 2
          · have HTY := Aside0.mk h2
            have HLY : Aside0 (layB f = weight f) := ⟨by unfold layB; rw [h2]; rfl⟩
            clear h2
            go_wp2_with (first
              | (go_at_call 48; refine (payloadOf_2 f.ty HTY.out _).mono ?_; rintro e w5 ⟨rfl, hb⟩; have H5 := Aside0.mk (H1.out.below hb); have X5 := Aside0.mk (X1.out.low hb); have L5 := Aside0.mk (below_then LC.out LC.out.size hb); have K5 := Aside0.mk (KW.out.trans (Wr.of_below hb (Nat.le_trans (Nat.le_of_lt BLT.out) KW.out.size))); clear hb)
              | (go_at_call 75; refine (layWeight_calls b b g _ f A c _ H5.out X5.out NE.out (HFC.out.2.2 (.inr HTY.out)).1 (HFC.out.2.2 (.inr HTY.out)).2.1 (HFC.out.2.2 (.inr HTY.out)).2.2.1 (HFC.out.2.2 (.inr HTY.out)).2.2.2 HLEN2.out (Nat.le_trans (Nat.le_of_lt BLT.out) K5.out.size)).mono ?_; rintro e w6 ⟨rfl, h1, h2⟩; have H6 := Aside0.mk h1; have K6 := Aside0.mk (K5.out.trans h2); clear h1 h2))
            go_meet
            case rel => exact ⟨rfl, ⟨by rw [HLY.out]; exact H6.out⟩, K6⟩
          · skip
            by_cases h3 : f.ty = 3
            · have HTY := Aside0.mk h3
              have HLY : Aside0 (layB f = be 4 f.co) := ⟨by unfold layB; rw [h3]; rfl⟩
              clear h3
              go_wp2_with (first
                | (go_at_call 48; refine (payloadOf_3 f.ty HTY.out _).mono ?_; rintro e w5 ⟨rfl, hb⟩; have H5 := Aside0.mk (H1.out.below hb); have X5 := Aside0.mk (X1.out.low hb); have L5 := Aside0.mk (below_then LC.out LC.out.size hb); have K5 := Aside0.mk (KW.out.trans (Wr.of_below hb (Nat.le_trans (Nat.le_of_lt BLT.out) KW.out.size))); clear hb)
                | (go_at_call 77; refine (layReset_calls b b g _ f A c _ H5.out X5.out HLEN8.out (Nat.le_trans (Nat.le_of_lt BLT.out) K5.out.size)).mono ?_; rintro e w6 ⟨rfl, h1, h2⟩; have H6 := Aside0.mk h1; have K6 := Aside0.mk (K5.out.trans h2); clear h1 h2))
              go_meet
              case rel => exact ⟨rfl, ⟨by rw [HLY.out]; exact H6.out⟩, K6⟩
            · skip
              by_cases h4 : f.ty = 4
              · have HTY := Aside0.mk h4
                have HLY : Aside0 (layB f = params f.ps) := ⟨by unfold layB; rw [h4]; rfl⟩
                clear h4
                go_wp2_with (first
                  | (go_at_call 48; refine (payloadOf_4 f.ty HTY.out _).mono ?_; rintro e w5 ⟨rfl, hb⟩; have H5 := Aside0.mk (H1.out.below hb); have X5 := Aside0.mk (X1.out.low hb); have L5 := Aside0.mk (below_then LC.out LC.out.size hb); have K5 := Aside0.mk (KW.out.trans (Wr.of_below hb (Nat.le_trans (Nat.le_of_lt BLT.out) KW.out.size))); clear hb)
                  | (go_at_call 79; refine (layParams_calls b b g _ f A c w _ H5.out X5.out NE.out HPS.out L5.out BW.out HLENP.out (Nat.le_trans (Nat.le_of_lt BLT.out) K5.out.size)).mono ?_; rintro e w6 ⟨rfl, h1, h2⟩; have H6 := Aside0.mk h1; have K6 := Aside0.mk (K5.out.trans h2); clear h1 h2))
                go_meet
                case rel => exact ⟨rfl, ⟨by rw [HLY.out]; exact H6.out⟩, K6⟩
              · skip
                by_cases h5 : f.ty = 5
                · have HTY := Aside0.mk h5
                  have HLY : Aside0 (layB f = be 4 f.la ++ f.da.data.toList) := ⟨by unfold layB; rw [h5]; rfl⟩
                  clear h5
                  go_wp2_with (first
                    | (go_at_call 48; refine (payloadOf_5 f.ty HTY.out _).mono ?_; rintro e w5 ⟨rfl, hb⟩; have H5 := Aside0.mk (H1.out.below hb); have X5 := Aside0.mk (X1.out.low hb); have L5 := Aside0.mk (below_then LC.out LC.out.size hb); have K5 := Aside0.mk (KW.out.trans (Wr.of_below hb (Nat.le_trans (Nat.le_of_lt BLT.out) KW.out.size))); clear hb)
                    | (go_at_call 81; refine (layPromise_calls b b g _ f A c _ H5.out X5.out NE.out HLEN1.out (Nat.le_trans (Nat.le_of_lt BLT.out) K5.out.size)).mono ?_; rintro e w6 ⟨rfl, h1, h2⟩; have H6 := Aside0.mk h1; have K6 := Aside0.mk (K5.out.trans h2); clear h1 h2))
                  go_meet
                  case rel => exact ⟨rfl, ⟨by rw [HLY.out]; exact H6.out⟩, K6⟩
                · skip
                  by_cases h6 : f.ty = 6
                  · have HTY := Aside0.mk h6
                    have HLY : Aside0 (layB f = f.da.data.toList) := ⟨by unfold layB; rw [h6]; rfl⟩
                    clear h6
                    go_wp2_with (first
                      | (go_at_call 48; refine (payloadOf_6 f.ty HTY.out _).mono ?_; rintro e w5 ⟨rfl, hb⟩; have H5 := Aside0.mk (H1.out.below hb); have X5 := Aside0.mk (X1.out.low hb); have L5 := Aside0.mk (below_then LC.out LC.out.size hb); have K5 := Aside0.mk (KW.out.trans (Wr.of_below hb (Nat.le_trans (Nat.le_of_lt BLT.out) KW.out.size))); clear hb)
                      | (go_at_call 83; refine (layData_calls b b g _ f A c _ H5.out X5.out HLEND.out (Nat.le_trans (Nat.le_of_lt BLT.out) K5.out.size)).mono ?_; rintro e w6 ⟨rfl, h1, h2⟩; have H6 := Aside0.mk h1; have K6 := Aside0.mk (K5.out.trans h2); clear h1 h2))
                    go_meet
                    case rel => exact ⟨rfl, ⟨by rw [HLY.out]; exact H6.out⟩, K6⟩
                  · skip
                    by_cases h7 : f.ty = 7
                    · have HTY := Aside0.mk h7
                      have HLY : Aside0 (layB f = be 4 f.la ++ be 4 f.co ++ f.da.data.toList) := ⟨by unfold layB; rw [h7]; rfl⟩
                      clear h7
                      go_wp2_with (first
                        | (go_at_call 48; refine (payloadOf_7 f.ty HTY.out _).mono ?_; rintro e w5 ⟨rfl, hb⟩; have H5 := Aside0.mk (H1.out.below hb); have X5 := Aside0.mk (X1.out.low hb); have L5 := Aside0.mk (below_then LC.out LC.out.size hb); have K5 := Aside0.mk (KW.out.trans (Wr.of_below hb (Nat.le_trans (Nat.le_of_lt BLT.out) KW.out.size))); clear hb)
                        | (go_at_call 85; refine (layGoAway_calls b b g _ f A c _ H5.out X5.out NE.out HLEN1.out (Nat.le_trans (Nat.le_of_lt BLT.out) K5.out.size)).mono ?_; rintro e w6 ⟨rfl, h1, h2⟩; have H6 := Aside0.mk h1; have K6 := Aside0.mk (K5.out.trans h2); clear h1 h2))
                      go_meet
                      case rel => exact ⟨rfl, ⟨by rw [HLY.out]; exact H6.out⟩, K6⟩
                    · skip
                      by_cases h8 : f.ty = 8
                      · have HTY := Aside0.mk h8
                        have HLY : Aside0 (layB f = be 4 f.la) := ⟨by unfold layB; rw [h8]; rfl⟩
                        clear h8
                        go_wp2_with (first
                          | (go_at_call 48; refine (payloadOf_8 f.ty HTY.out _).mono ?_; rintro e w5 ⟨rfl, hb⟩; have H5 := Aside0.mk (H1.out.below hb); have X5 := Aside0.mk (X1.out.low hb); have L5 := Aside0.mk (below_then LC.out LC.out.size hb); have K5 := Aside0.mk (KW.out.trans (Wr.of_below hb (Nat.le_trans (Nat.le_of_lt BLT.out) KW.out.size))); clear hb)
                          | (go_at_call 87; refine (layWindow_calls b b g _ f A c _ H5.out X5.out HLEN8.out (Nat.le_trans (Nat.le_of_lt BLT.out) K5.out.size)).mono ?_; rintro e w6 ⟨rfl, h1, h2⟩; have H6 := Aside0.mk h1; have K6 := Aside0.mk (K5.out.trans h2); clear h1 h2))
                        go_meet
                        case rel => exact ⟨rfl, ⟨by rw [HLY.out]; exact H6.out⟩, K6⟩
                      · skip
                        have HTY : Aside0 (f.ty < 1 ∨ 8 < f.ty) := ⟨by omega⟩
                        have HLY : Aside0 (layB f = f.da.data.toList) := ⟨by unfold layB; rw [if_neg h1, if_neg h2, if_neg h3, if_neg h4, if_neg h5, if_neg h7, if_neg h8]⟩
                        clear h1 h2 h3 h4 h5 h6 h7 h8
                        go_wp2_with (first
                          | (go_at_call 48; refine (payloadOf_else f.ty HTY.out _).mono ?_; rintro e w5 ⟨rfl, hb⟩; have H5 := Aside0.mk (H1.out.below hb); have X5 := Aside0.mk (X1.out.low hb); have L5 := Aside0.mk (below_then LC.out LC.out.size hb); have K5 := Aside0.mk (KW.out.trans (Wr.of_below hb (Nat.le_trans (Nat.le_of_lt BLT.out) KW.out.size))); clear hb)
                          | (go_at_call 83; refine (layData_calls b b g _ f A c _ H5.out X5.out HLEND.out (Nat.le_trans (Nat.le_of_lt BLT.out) K5.out.size)).mono ?_; rintro e w6 ⟨rfl, h1, h2⟩; have H6 := Aside0.mk h1; have K6 := Aside0.mk (K5.out.trans h2); clear h1 h2))
                        go_meet
                        case rel => exact ⟨rfl, ⟨by rw [HLY.out]; exact H6.out⟩, K6⟩
      case rest =>
        obtain ⟨rfl, H2, KW2⟩ := hcut
        clear H1 KW X1 LC hf0 z0 HLEN1 HLEN2 HLEN8 HLEND HLENP
        have XP := Aside0.mk (X3.out.wr NE.out KW2.out)
        have LP := Aside0.mk (L3.out.trans (below_lo KW2.out.1 BW.out))
        have BP := Aside0.mk (Nat.le_trans (Nat.le_of_lt BLT.out) KW2.out.size)
        obtain ⟨n, hn⟩ : ∃ n : Nat, f.pad = n := ⟨f.pad.toNat, by have := HFC.out.2.1.1; omega⟩
        have HN := Aside0.mk hn
        have HN2 : Aside0 (n ≤ 255) := ⟨by have := HFC.out.2.1.2; omega⟩
        have HPAY : Aside0 (payB f = (l1 ++ layB f) ++ List.replicate n 0) := ⟨by unfold payB; rw [HL1.out, hn]; rfl⟩
        have hll : (l1 ++ layB f).length ≤ 140737488351250 := by
          rw [List.length_append]
          have h1 := layB_len f HDA.out HPL.out
          have h2 : l1.length ≤ 1 := by rw [← HL1.out]; split <;> simp [be_length]
          omega
        obtain ⟨l2, hl2⟩ : ∃ l, l1 ++ layB f = l := ⟨_, rfl⟩
        rw [hl2] at H2 HPAY hll
        have HLL := Aside0.mk hll
        clear hl2 hn hll
        have z4 := XP.out.c4
        go_upto_region 8 with (first
          | (go_at_call 50; refine (repeat_calls n f.pad HN.out HN2.out _).mono ?_; rintro e w7 ⟨rfl, hb⟩; have H7 := Aside0.mk (H2.out.below hb); have X7 := Aside0.mk (XP.out.low hb); have L7 := Aside0.mk (below_then LP.out LP.out.size hb); have B7 := Aside0.mk (Nat.le_trans BP.out hb.size); clear hb)
          | (go_at_call 49; refine (text_calls b b l2 ⟨(List.replicate n (0 : UInt8)).toArray⟩ _ H7.out (by have h1 := HLL.out; have h2 := HN2.out; have h3 : (⟨(List.replicate n (0 : UInt8)).toArray⟩ : ByteArray).size = n := (by show (List.replicate n (0 : UInt8)).toArray.size = n; simp); omega) B7.out).mono ?_; rintro e w9 ⟨rfl, h1, h2⟩; have H9' := Aside0.mk h1; have X9 := Aside0.mk (X7.out.wr NE.out h2); have L9 := Aside0.mk (L7.out.trans (below_lo h2.1 BW.out)); have B9 := Aside0.mk (Nat.le_trans B7.out h2.size); clear h1 h2))
        have H9 : Aside0 (Bd b b (payB f) w9) := ⟨by
          have h := H9'.out
          rw [HPAY.out]
          exact h⟩
        have HPL2 : Aside0 ((payB f).length ≤ 140737488351600) := ⟨by rw [HPAY.out, List.length_append, List.length_replicate]; have h1 := HLL.out; have h2 := HN2.out; omega⟩
        clear z4 H9' H2 H7 X7 L7 B7 XP LP BP KW2 HPAY HLL HN HN2
        have HV : Aside0 (wr f = if 65536 < (payB f).length then (3, []) else (0, be 3 (payB f).length ++ be 1 f.ty ++ be 1 f.fl ++ be 4 f.st ++ payB f)) := ⟨by unfold wr; rw [if_pos HRB.out]⟩
        obtain ⟨P, hP⟩ : ∃ P, payB f = P := ⟨_, rfl⟩
        rw [hP] at H9 HPL2 HV
        clear hP
        have hp63 : P.length ≤ 9223372036854775807 := by have := HPL2.out; omega
        by_cases hlong : 65536 < P.length
        · have h1 : decide ((65536 : Int) < (P.length : Int)) = true := decide_eq_true (by omega)
          have h2 : decide (65536 < P.length) = true := decide_eq_true hlong
          have HV2 : Aside0 (wr f = (3, [])) := ⟨by rw [HV.out, if_pos hlong]⟩
          clear hlong
          go_wp2_with (go_at_call 51; have hlc := len_keep b b P _ H9.out; refine hlc.mono ?_; clear hlc; rintro e w10 ⟨rfl, hw⟩; subst hw)
          go_ret2
          exact ⟨by rw [HV2.out]; rfl, L9.out⟩
        · have h1 : decide ((65536 : Int) < (P.length : Int)) = false := decide_eq_false (by omega)
          have h2 : decide (65536 < P.length) = false := decide_eq_false hlong
          have HV2 : Aside0 (wr f = (0, be 3 P.length ++ be 1 f.ty ++ be 1 f.fl ++ be 4 f.st ++ P)) := ⟨by rw [HV.out, if_neg hlong]⟩
          have HLG : Aside0 (P.length ≤ 65536) := ⟨by omega⟩
          clear hlong
          go_upto_region 11 with (go_at_call 51; have hlc := len_keep b b P _ H9.out; refine hlc.mono ?_; clear hlc; rintro e w10 ⟨rfl, hw⟩; subst hw)
          obtain ⟨W10, hW10⟩ : ∃ W, w9.alloc (.cells #[.pointer none, .slice none 0 0] 84) = W := ⟨_, rfl⟩
          obtain ⟨b2, hb2⟩ : ∃ x, w9.heap.size = x := ⟨_, rfl⟩
          have LA : Aside0 (Below b2 w9 W10) := ⟨by rw [← hW10, ← hb2]; exact below_alloc (Below.refl _ _) _⟩
          have EB : Aside0 (w9.heap.size = b2) := ⟨hb2⟩
          have H10 : Aside0 (Bd b2 b2 [] W10) := ⟨by rw [← hW10, ← hb2]; exact Bd.new w9⟩
          have H9a : Aside0 (Bd b b P W10) := ⟨H9.out.below (by rw [EB.out]; exact LA.out)⟩
          have X10 : Aside0 (At W10 g f A c) := ⟨X9.out.low (by rw [EB.out]; exact LA.out)⟩
          have BL2 : Aside0 (b2 ≤ W10.heap.size) := ⟨by rw [← hb2]; exact LA.out.size⟩
          have NE2 : Aside0 (g ≠ b2) := ⟨by rw [← hb2]; have := blk_lt X9.out; omega⟩
          rw [hW10, hb2]
          clear hW10 hb2
          go_upto_region 12 with (first
            | (go_at_call 51; have hlc := len_keep b b P _ H9a.out; refine hlc.mono ?_; clear hlc; rintro e w10 ⟨rfl, hw⟩; subst hw)
            | (go_at_call 47; refine (put_n 3 b2 b2 [] (P.length : Int) _ _ H10.out rfl (by decide) (by simp) BL2.out).mono ?_; rintro e w11 ⟨rfl, h1, h2⟩; have H11 := Aside0.mk h1; have K11 := Aside0.mk h2; clear h1 h2))
          have z0 := (X10.out.wr NE2.out K11.out).c0
          go_upto_region 13 with (go_at_call 47; refine (put_n 1 b2 b2 _ f.ty _ _ H11.out rfl (by decide) (by simp [be_length]) (Nat.le_trans BL2.out K11.out.size)).mono ?_; rintro e w12 ⟨rfl, h1, h2⟩; have H12 := Aside0.mk h1; have K12 := Aside0.mk (K11.out.trans h2); clear h1 h2)
          clear z0
          have z1 := (X10.out.wr NE2.out K12.out).c1
          go_upto_region 14 with (go_at_call 47; refine (put_n 1 b2 b2 _ f.fl _ _ H12.out rfl (by decide) (by simp [be_length]) (Nat.le_trans BL2.out K12.out.size)).mono ?_; rintro e w13 ⟨rfl, h1, h2⟩; have H13 := Aside0.mk h1; have K13 := Aside0.mk (K12.out.trans h2); clear h1 h2)
          clear z1
          have z2 := (X10.out.wr NE2.out K13.out).c2
          go_upto_region 15 with (go_at_call 47; refine (put_n 4 b2 b2 _ f.st _ _ H13.out rfl (by decide) (by simp [be_length]) (Nat.le_trans BL2.out K13.out.size)).mono ?_; rintro e w14 ⟨rfl, h1, h2⟩; have H14 := Aside0.mk h1; have K14 := Aside0.mk (K13.out.trans h2); clear h1 h2)
          clear z2
          have LB : Aside0 (Below w9.heap.size w9 w14) := ⟨by rw [EB.out]; exact LA.out.trans K14.out.1⟩
          have H9b : Aside0 (Bd b b P w14) := ⟨H9.out.below LB.out⟩
          have H14L : Aside0 (Bd b2 b2 (be 3 P.length ++ be 1 f.ty ++ be 1 f.fl ++ be 4 f.st) w14) := ⟨by simpa using H14.out⟩
          have B14 : Aside0 (b ≤ w14.heap.size) := ⟨Nat.le_trans B9.out LB.out.size⟩
          have HOT : Aside0 (∀ w15, Others b w14 w15 → Bd b2 b2 (be 3 P.length ++ be 1 f.ty ++ be 1 f.fl ++ be 4 f.st) w15) := ⟨fun w15 ho => by
            obtain ⟨p, v, h1, h2⟩ := H9.out.row
            exact H14L.out.others (blk_below h1 LB.out) (fun k hk => by have := h2 k hk; rw [← EB.out]; exact this) ho⟩
          go_wp2_with (first
            | (go_at_call 52; (with_reducible refine (textOf_calls b b P _ H9b.out B14.out).mono ?_); rintro e w15 ⟨rfl, h1, h2⟩; have H15 := Aside0.mk (HOT.out _ h2); have L15 := Aside0.mk (Below.trans (below_lo LB.out B9.out) h1); have S15 := Aside0.mk h2.1; clear h1 h2)
            | (go_at_call 49; refine (text_calls b2 b2 _ ⟨P.toArray⟩ _ H15.out (by have h1 := HLG.out; have h3 : (⟨P.toArray⟩ : ByteArray).size = P.length := rfl; simp [be_length]; omega) (Nat.le_trans (Nat.le_trans BL2.out K14.out.size) S15.out)).mono ?_; rintro e w16 ⟨rfl, h1, h2⟩; have H16 := Aside0.mk h1; have L16 := Aside0.mk (L15.out.trans (below_lo h2.1 (by rw [← EB.out]; exact B9.out))); have S16 := Aside0.mk (Nat.le_trans S15.out h2.size); clear h1 h2)
            | (go_at_call 52; refine (string_calls b2 b2 _ _ H16.out (Nat.le_trans (Nat.le_trans BL2.out K14.out.size) S16.out)).mono ?_; rintro e w17 ⟨rfl, h1, h2⟩; have L17 := Aside0.mk (L16.out.trans (below_lo h2.1 (by rw [← EB.out]; exact B9.out))); clear h1 h2))
          go_ret2
          exact ⟨by rw [HV2.out]; rfl, L9.out.trans (below_lo L17.out BW.out)⟩
end Go.Proofs.YtoffhlbdfhhhjaaDoor.Fr
