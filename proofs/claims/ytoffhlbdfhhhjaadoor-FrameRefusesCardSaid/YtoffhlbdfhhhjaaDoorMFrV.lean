/- Frames out of bytes: how much stands ahead, and what a type takes. The frame lies in a block of the call's own. -/
import Derived.Test.YtoffhlbdfhhhjaaDoorMFrU
import Derived.Test.YtoffhlbdfhhhjaaDoorMFrH
namespace Go.Proofs.YtoffhlbdfhhhjaaDoor.Fr
open Go Go.RowKit Go.Proofs.YtoffhlbdfhhhjaaDoorW.PrintWords Go.Proofs.YtoffhlbdfhhhjaaDoorW.PrintLast Go.Proofs.YtoffhlbdfhhhjaaDoorW.PrintMore Go.Proofs.YtoffhlbdfhhhjaaDoor.QL
set_option linter.unusedSimpArgs false
set_option linter.unusedVariables false
set_option maxHeartbeats 40000000
set_option maxRecDepth 100000
/-- The bytes ahead of the data. -/
def aheadI (f : Fr) : Int := (if has f.fl 8 = true ∧ has (kFl f.ty) 8 = true ∧ f.ty < 10 then 1 else 0) + (if f.ty = 1 ∧ has f.fl 32 = true then 5 else if f.ty = 5 then 4 else 0)
theorem ahead_calls (g : Nat) (f : Fr) (A : Option Addr) (c : Nat) (x : Int) (w : World) (hf : At w g f A c) (hG : GL w) (h0 : 0 ≤ f.ty) (hx : aheadI f = x) : Calls Tryd.prog 60 #[.pointer (some ⟨g, 0, none⟩)] w fun e w' => e = .returned (.int .i64 x) ∧ Below w.heap.size w w' := by
  have HF := Aside0.mk hf
  have HG := Aside0.mk hG
  have H0 := Aside0.mk h0
  have HB := Aside0.mk (Below.refl w.heap.size w)
  have z0 := hf.c0
  have z1 := hf.c1
  have hfl := fld0
  obtain ⟨k, hk⟩ : ∃ k, kFl f.ty = k := ⟨_, rfl⟩
  have HK := Aside0.mk hk
  unfold aheadI at hx
  rw [hk] at hx
  have hA : ((has f.fl 8 = false ∧ (if has f.fl 8 = true ∧ has k 8 = true ∧ f.ty < 10 then (1 : Int) else 0) = 0) ∨ (has f.fl 8 = true ∧ has k 8 = false ∧ (if has f.fl 8 = true ∧ has k 8 = true ∧ f.ty < 10 then (1 : Int) else 0) = 0)) ∨ ((has f.fl 8 = true ∧ has k 8 = true ∧ decide (f.ty < 10) = false ∧ (if has f.fl 8 = true ∧ has k 8 = true ∧ f.ty < 10 then (1 : Int) else 0) = 0) ∨ (has f.fl 8 = true ∧ has k 8 = true ∧ decide (f.ty < 10) = true ∧ (if has f.fl 8 = true ∧ has k 8 = true ∧ f.ty < 10 then (1 : Int) else 0) = 1)) := by
    cases h8 : has f.fl 8
    · exact .inl (.inl ⟨rfl, if_neg (by simp)⟩)
    · cases k8 : has k 8
      · exact .inl (.inr ⟨rfl, rfl, if_neg (by simp)⟩)
      · by_cases ht : f.ty < 10
        · exact .inr (.inr ⟨rfl, rfl, decide_eq_true ht, if_pos ⟨rfl, rfl, ht⟩⟩)
        · exact .inr (.inl ⟨rfl, rfl, decide_eq_false ht, if_neg (by simp [ht])⟩)
  have hC : (((f.ty == 1) = true ∧ has f.fl 32 = true ∧ (if f.ty = 1 ∧ has f.fl 32 = true then (5 : Int) else if f.ty = 5 then 4 else 0) = 5) ∨ ((f.ty == 1) = true ∧ has f.fl 32 = false ∧ (f.ty == 5) = false ∧ (if f.ty = 1 ∧ has f.fl 32 = true then (5 : Int) else if f.ty = 5 then 4 else 0) = 0)) ∨ (((f.ty == 1) = false ∧ (f.ty == 5) = true ∧ (if f.ty = 1 ∧ has f.fl 32 = true then (5 : Int) else if f.ty = 5 then 4 else 0) = 4) ∨ ((f.ty == 1) = false ∧ (f.ty == 5) = false ∧ (if f.ty = 1 ∧ has f.fl 32 = true then (5 : Int) else if f.ty = 5 then 4 else 0) = 0)) := by
    by_cases h1 : f.ty = 1
    · cases h32 : has f.fl 32
      · exact .inl (.inr ⟨by rw [h1]; rfl, rfl, by rw [h1]; rfl, by rw [if_neg (by simp), if_neg (by omega)]⟩)
      · exact .inl (.inl ⟨by rw [h1]; rfl, rfl, if_pos ⟨h1, rfl⟩⟩)
    · have e1 : (f.ty == 1) = false := beq_eq_false_iff_ne.mpr h1
      by_cases h5 : f.ty = 5
      · exact .inr (.inl ⟨e1, by rw [h5]; rfl, by rw [if_neg (fun h => h1 h.1), if_pos h5]⟩)
      · exact .inr (.inr ⟨e1, beq_eq_false_iff_ne.mpr h5, by rw [if_neg (fun h => h1 h.1), if_neg h5]⟩)
  clear hf hG h0 hk
  rcases hA with (⟨a1, ea⟩ | ⟨a1, a2, ea⟩) | (⟨a1, a2, a3, ea⟩ | ⟨a1, a2, a3, ea⟩)
  all_goals
    rw [ea] at hx
    clear ea
    have a1' : (Go.bits .and .i64 f.fl 8 != 0) = _ := a1
    clear a1
    first
      | (have a2' : (Go.bits .and .i64 k 8 != 0) = _ := a2
         clear a2)
      | skip
    rcases hC with (⟨c1, c2, ec⟩ | ⟨c1, c2, c3, ec⟩) | (⟨c1, c2, ec⟩ | ⟨c1, c2, ec⟩)
    all_goals
      rw [ec] at hx
      clear ec
      have HX := Aside0.mk hx
      clear hx
      first
        | (have c2' : (Go.bits .and .i64 f.fl 32 != 0) = _ := c2
           clear c2)
        | skip
      go_enter Tryd.func60, Tryd.ntmps60
      go_wp2_with (go_at_call 58; refine (kindOf_calls f.ty k _ _ HG.out H0.out HK.out rfl).mono ?_; rintro e w5 ⟨rfl, hb⟩; have z0' := (HF.out.below (blk_lt HF.out) hb).c0; have z1' := (HF.out.below (blk_lt HF.out) hb).c1; have HB5 := Aside0.mk hb; clear hb)
      go_ret
      exact ⟨by rw [← HX.out]; rfl, by first | exact HB5.out | exact HB.out⟩
theorem ent74 (args : Array Value) (W : World) : (callFunc 74 args).run Tryd.prog W = .ok (.enter 74 args) W := enters_ Tryd.func74 (by kernel_rfl) rfl args W
theorem ent76 (args : Array Value) (W : World) : (callFunc 76 args).run Tryd.prog W = .ok (.enter 76 args) W := enters_ Tryd.func76 (by kernel_rfl) rfl args W
theorem ent78 (args : Array Value) (W : World) : (callFunc 78 args).run Tryd.prog W = .ok (.enter 78 args) W := enters_ Tryd.func78 (by kernel_rfl) rfl args W
theorem ent80 (args : Array Value) (W : World) : (callFunc 80 args).run Tryd.prog W = .ok (.enter 80 args) W := enters_ Tryd.func80 (by kernel_rfl) rfl args W
theorem ent82 (args : Array Value) (W : World) : (callFunc 82 args).run Tryd.prog W = .ok (.enter 82 args) W := enters_ Tryd.func82 (by kernel_rfl) rfl args W
theorem ent84 (args : Array Value) (W : World) : (callFunc 84 args).run Tryd.prog W = .ok (.enter 84 args) W := enters_ Tryd.func84 (by kernel_rfl) rfl args W
theorem ent86 (args : Array Value) (W : World) : (callFunc 86 args).run Tryd.prog W = .ok (.enter 86 args) W := enters_ Tryd.func86 (by kernel_rfl) rfl args W
theorem ent88 (args : Array Value) (W : World) : (callFunc 88 args).run Tryd.prog W = .ok (.enter 88 args) W := enters_ Tryd.func88 (by kernel_rfl) rfl args W
theorem ent89 (args : Array Value) (W : World) : (callFunc 89 args).run Tryd.prog W = .ok (.enter 89 args) W := enters_ Tryd.func89 (by kernel_rfl) rfl args W
/-- What a frame of the type takes of its payload; none: it is refused. -/
def takes (f : Fr) (p : ByteArray) : Option Fr :=
  if f.ty = 1 then some (headersF f p)
  else if f.ty = 2 then (if p.size = 5 then some (wtF f p) else none)
  else if f.ty = 3 then (if p.size = 4 then some { f with co := num p } else none)
  else if f.ty = 4 then (if p.size % 6 = 0 ∧ ¬ (has f.fl 1 = true ∧ 0 < p.size) then some { f with ps := pars (p.size / 6) p.data.toList } else none)
  else if f.ty = 5 then some (promiseF f p)
  else if f.ty = 6 then (if p.size = 8 then some { f with da := p } else none)
  else if f.ty = 7 then (if 8 ≤ p.size then some (goAwayF f p) else none)
  else if f.ty = 8 then (if p.size = 4 then some { f with la := num p % 2147483648 } else none)
  else some { f with da := p }
/-- What taking leaves: the frame it tells, or one of the same type and stream. -/
def Taken (w0 : World) (g : Nat) (f : Fr) (p : ByteArray) (x : Bool) (e : Ending) (w' : World) : Prop :=
  e = .returned (.bool x) ∧ ∃ f' A c, TInv w0 w' g f' A c ∧ f'.ty = f.ty ∧ f'.st = f.st ∧ (x = true → takes f p = some f' ∧ Kd.R k32 32 w' w0.heap.size (fun k => k ≠ g) (.slice A f'.ps.length c) f'.ps)
/-- Which function takes, and what it leaves. -/
def Takes (w0 w : World) (g N M : Nat) (f : Fr) (p : ByteArray) (x : Bool) : Prop :=
  (∀ W, Calls Tryd.prog 48 #[.int .i64 f.ty] W fun e w' => e = .returned (.agg #[.func (.func M) #[] #[], .func (.func N) #[] #[]]) ∧ Below W.heap.size W w') ∧
  (∀ w1, Below w.heap.size w w1 → Calls Tryd.prog N #[.pointer (some ⟨g, 0, none⟩), .string p] w1 (Taken w0 g f p x)) ∧
  (∀ (args : Array Value) (W : World), (callFunc N args).run Tryd.prog W = .ok (.enter N args) W)
theorem takes_yes {w0 w : World} {g N M : Nat} {f f' : Fr} {p : ByteArray} {x : Bool} (hx : (takes f p).isSome = x) (hr : takes f p = some f') (hp : ∀ W, Calls Tryd.prog 48 #[.int .i64 f.ty] W fun e w' => e = .returned (.agg #[.func (.func M) #[] #[], .func (.func N) #[] #[]]) ∧ Below W.heap.size W w') (hc : ∀ (args : Array Value) (W : World), (callFunc N args).run Tryd.prog W = .ok (.enter N args) W) (hty : f'.ty = f.ty) (hst : f'.st = f.st)
    (h : ∀ w1, Below w.heap.size w w1 → Calls Tryd.prog N #[.pointer (some ⟨g, 0, none⟩), .string p] w1 fun e w' => e = .returned (.bool true) ∧ ∃ A c, TInv w0 w' g f' A c ∧ Kd.R k32 32 w' w0.heap.size (fun k => k ≠ g) (.slice A f'.ps.length c) f'.ps) : Takes w0 w g N M f p x := by
  rw [hr] at hx
  subst hx
  refine ⟨hp, fun w1 hb => (h w1 hb).mono ?_, hc⟩
  rintro e w' ⟨rfl, A, c, ht, hk⟩
  exact ⟨rfl, f', A, c, ht, hty, hst, fun _ => ⟨hr, hk⟩⟩
theorem takes_yes0 {w0 w : World} {g N M : Nat} {f f' : Fr} {p : ByteArray} {x : Bool} (hx : (takes f p).isSome = x) (hr : takes f p = some f') (hp : ∀ W, Calls Tryd.prog 48 #[.int .i64 f.ty] W fun e w' => e = .returned (.agg #[.func (.func M) #[] #[], .func (.func N) #[] #[]]) ∧ Below W.heap.size W w') (hc : ∀ (args : Array Value) (W : World), (callFunc N args).run Tryd.prog W = .ok (.enter N args) W) (hty : f'.ty = f.ty) (hst : f'.st = f.st) (hnil : f'.ps = [])
    (h : ∀ w1, Below w.heap.size w w1 → Calls Tryd.prog N #[.pointer (some ⟨g, 0, none⟩), .string p] w1 fun e w' => e = .returned (.bool true) ∧ TInv w0 w' g f' none 0) : Takes w0 w g N M f p x := by
  refine takes_yes hx hr hp hc hty hst fun w1 hb => (h w1 hb).mono ?_
  rintro e w' ⟨rfl, ht⟩
  refine ⟨rfl, none, 0, ht, ?_⟩
  rw [hnil]
  exact Kd.R_nil _ _ _ _ _
theorem takes_no {w0 w : World} {g N M : Nat} {f : Fr} {p : ByteArray} {x : Bool} (hx : (takes f p).isSome = x) (hr : takes f p = none) (hp : ∀ W, Calls Tryd.prog 48 #[.int .i64 f.ty] W fun e w' => e = .returned (.agg #[.func (.func M) #[] #[], .func (.func N) #[] #[]]) ∧ Below W.heap.size W w') (hc : ∀ (args : Array Value) (W : World), (callFunc N args).run Tryd.prog W = .ok (.enter N args) W)
    (h : ∀ w1, Below w.heap.size w w1 → Calls Tryd.prog N #[.pointer (some ⟨g, 0, none⟩), .string p] w1 fun e w' => e = .returned (.bool false) ∧ ∃ f', f'.ty = f.ty ∧ f'.st = f.st ∧ TInv w0 w' g f' none 0) : Takes w0 w g N M f p x := by
  rw [hr] at hx
  subst hx
  refine ⟨hp, fun w1 hb => (h w1 hb).mono ?_, hc⟩
  rintro e w' ⟨rfl, f', h1, h2, h3⟩
  exact ⟨rfl, f', none, 0, h3, h1, h2, fun h => absurd h (by simp)⟩
theorem same_no {w0 w' : World} {g : Nat} {f : Fr} {e : Ending} (h : e = .returned (.bool false) ∧ TInv w0 w' g f none 0) : e = .returned (.bool false) ∧ ∃ f', f'.ty = f.ty ∧ f'.st = f.st ∧ TInv w0 w' g f' none 0 := ⟨h.1, f, rfl, rfl, h.2⟩
theorem take_any (g : Nat) (f : Fr) (p : ByteArray) (x : Bool) (w0 w : World) (hT : TInv w0 w g f none 0) (hnil : f.ps = []) (h63 : p.size ≤ 65536) (h1 : f.ty = 1 → has f.fl 32 = true → 5 ≤ p.size) (h5 : f.ty = 5 → 4 ≤ p.size) (hx : (takes f p).isSome = x) : ∃ N M, Takes w0 w g N M f p x := by
  have hs : p.size ≤ 9223372036854775807 := by omega
  by_cases t1 : f.ty = 1
  · refine ⟨74, 73, takes_yes0 (f' := headersF f p) hx (by unfold takes; rw [if_pos t1]) (payloadOf_1 _ t1) ent74 (by unfold headersF; split <;> rfl) (by unfold headersF; split <;> rfl) (by unfold headersF; split <;> exact hnil) fun w1 hb => takeHeaders_calls g f none 0 p w0 w1 (hT.below hb).own (hT.below hb).low hT.ge (h1 t1)⟩
  by_cases t2 : f.ty = 2
  · by_cases hc : p.size = 5
    · exact ⟨76, 75, takes_yes0 (f' := wtF f p) hx (by unfold takes; rw [if_neg t1, if_pos t2, if_pos hc]) (payloadOf_2 _ t2) ent76 rfl rfl hnil fun w1 hb => takePriority_yes g f none 0 p w0 w1 (hT.below hb).own (hT.below hb).low hT.ge hc⟩
    · exact ⟨76, 75, takes_no hx (by unfold takes; rw [if_neg t1, if_pos t2, if_neg hc]) (payloadOf_2 _ t2) ent76 fun w1 hb => (takePriority_no g f none 0 p w0 w1 (hT.below hb).own (hT.below hb).low hT.ge hc).mono fun _ _ => same_no⟩
  by_cases t3 : f.ty = 3
  · by_cases hc : p.size = 4
    · exact ⟨78, 77, takes_yes0 (f' := { f with co := num p }) hx (by unfold takes; rw [if_neg t1, if_neg t2, if_pos t3, if_pos hc]) (payloadOf_3 _ t3) ent78 rfl rfl hnil fun w1 hb => takeReset_yes g f none 0 p w0 w1 (hT.below hb).own (hT.below hb).low hT.ge hc⟩
    · exact ⟨78, 77, takes_no hx (by unfold takes; rw [if_neg t1, if_neg t2, if_pos t3, if_neg hc]) (payloadOf_3 _ t3) ent78 fun w1 hb => takeReset_no g f none 0 p w0 w1 (hT.below hb).own (hT.below hb).low hT.ge hc hs⟩
  by_cases t4 : f.ty = 4
  · by_cases hc : p.size % 6 = 0 ∧ ¬ (has f.fl 1 = true ∧ 0 < p.size)
    · refine ⟨80, 79, takes_yes (f' := { f with ps := pars (p.size / 6) p.data.toList }) hx (by unfold takes; rw [if_neg t1, if_neg t2, if_neg t3, if_pos t4, if_pos hc]) (payloadOf_4 _ t4) ent80 rfl rfl fun w1 hb => (takeParams_yes g f p (p.size / 6) w0 w1 (hT.below hb).own hnil (hT.below hb).low hT.ge (by omega) ?_ h63).mono ?_⟩
      · cases hh : has f.fl 1
        · exact .inl rfl
        · refine .inr ?_
          have := hc.2
          rw [hh] at this
          simp only [true_and] at this
          omega
      · rintro e w' ⟨rfl, A, c, hp⟩
        refine ⟨rfl, A, c, hp.inv, ?_⟩
        have h := hp.row
        show Kd.R k32 32 w' w0.heap.size (fun k => k ≠ g) (.slice A (pars (p.size / 6) p.data.toList).length c) (pars (p.size / 6) p.data.toList)
        rw [pars_length]
        exact h
    · refine ⟨80, 79, takes_no hx (by unfold takes; rw [if_neg t1, if_neg t2, if_neg t3, if_pos t4, if_neg hc]) (payloadOf_4 _ t4) ent80 fun w1 hb => (takeParams_no g f none 0 p w0 w1 (hT.below hb).own (hT.below hb).low hT.ge ?_ hs).mono fun _ _ => same_no⟩
      by_cases h6 : p.size % 6 = 0
      · exact .inr (Classical.byContradiction fun h => hc ⟨h6, h⟩)
      · exact .inl (eq_false h6)
  by_cases t5 : f.ty = 5
  · exact ⟨82, 81, takes_yes0 (f' := promiseF f p) hx (by unfold takes; rw [if_neg t1, if_neg t2, if_neg t3, if_neg t4, if_pos t5]) (payloadOf_5 _ t5) ent82 rfl rfl hnil fun w1 hb => takePromise_calls g f none 0 p w0 w1 (hT.below hb).own (hT.below hb).low hT.ge (h5 t5)⟩
  by_cases t6 : f.ty = 6
  · by_cases hc : p.size = 8
    · exact ⟨84, 83, takes_yes0 (f' := { f with da := p }) hx (by unfold takes; rw [if_neg t1, if_neg t2, if_neg t3, if_neg t4, if_neg t5, if_pos t6, if_pos hc]) (payloadOf_6 _ t6) ent84 rfl rfl hnil fun w1 hb => takePing_calls g f none 0 p w0 w1 (hT.below hb).own (hT.below hb).low hT.ge true (by rw [hc]; rfl) hs⟩
    · exact ⟨84, 83, takes_no hx (by unfold takes; rw [if_neg t1, if_neg t2, if_neg t3, if_neg t4, if_neg t5, if_pos t6, if_neg hc]) (payloadOf_6 _ t6) ent84 fun w1 hb => (takePing_calls g f none 0 p w0 w1 (hT.below hb).own (hT.below hb).low hT.ge false (beq_eq_false_iff_ne.mpr (by omega)) hs).mono fun _ _ h => ⟨h.1, { f with da := p }, rfl, rfl, h.2⟩⟩
  by_cases t7 : f.ty = 7
  · by_cases hc : 8 ≤ p.size
    · exact ⟨86, 85, takes_yes0 (f' := goAwayF f p) hx (by unfold takes; rw [if_neg t1, if_neg t2, if_neg t3, if_neg t4, if_neg t5, if_neg t6, if_pos t7, if_pos hc]) (payloadOf_7 _ t7) ent86 rfl rfl hnil fun w1 hb => takeGoAway_yes g f none 0 p w0 w1 (hT.below hb).own (hT.below hb).low hT.ge hc⟩
    · exact ⟨86, 85, takes_no hx (by unfold takes; rw [if_neg t1, if_neg t2, if_neg t3, if_neg t4, if_neg t5, if_neg t6, if_pos t7, if_neg hc]) (payloadOf_7 _ t7) ent86 fun w1 hb => (takeGoAway_no g f none 0 p w0 w1 (hT.below hb).own (hT.below hb).low hT.ge (by omega)).mono fun _ _ => same_no⟩
  by_cases t8 : f.ty = 8
  · by_cases hc : p.size = 4
    · exact ⟨88, 87, takes_yes0 (f' := { f with la := num p % 2147483648 }) hx (by unfold takes; rw [if_neg t1, if_neg t2, if_neg t3, if_neg t4, if_neg t5, if_neg t6, if_neg t7, if_pos t8, if_pos hc]) (payloadOf_8 _ t8) ent88 rfl rfl hnil fun w1 hb => takeWindow_yes g f none 0 p w0 w1 (hT.below hb).own (hT.below hb).low hT.ge hc⟩
    · exact ⟨88, 87, takes_no hx (by unfold takes; rw [if_neg t1, if_neg t2, if_neg t3, if_neg t4, if_neg t5, if_neg t6, if_neg t7, if_pos t8, if_neg hc]) (payloadOf_8 _ t8) ent88 fun w1 hb => (takeWindow_no g f none 0 p w0 w1 (hT.below hb).own (hT.below hb).low hT.ge hc).mono fun _ _ => same_no⟩
  exact ⟨89, 83, takes_yes0 (f' := { f with da := p }) hx (by unfold takes; rw [if_neg t1, if_neg t2, if_neg t3, if_neg t4, if_neg t5, if_neg t6, if_neg t7, if_neg t8]) (payloadOf_else _ (by omega)) ent89 rfl rfl hnil fun w1 hb => takeData_calls g f none 0 p w0 w1 (hT.below hb).own (hT.below hb).low hT.ge⟩
end Go.Proofs.YtoffhlbdfhhhjaaDoor.Fr
