/- The table of streams: its map of pointers, its streams, told as a function of the numbers. Each statement has its own conditions. -/
import Derived.Test.YtagkncjdohljgaaDoorQLx1
import Derived.Test.YtagkncjdohljgaaDoorWMore
import Derived.Maps.OwnOps
import Derived.Maps.OwnSet
import Derived.Maps.RangeWalk
namespace Go.Proofs.YtagkncjdohljgaaDoor.St
open Go Go.RowKit Go.Proofs.YtagkncjdohljgaaDoorW.PrintWords Go.Proofs.YtagkncjdohljgaaDoorW.PrintLast Go.Proofs.YtagkncjdohljgaaDoorW.PrintMore
set_option linter.unusedSimpArgs false
set_option linter.unusedVariables false
set_option maxHeartbeats 2000000
set_option maxRecDepth 100000
def PD : Option Nat → DataW Unit
  | some b => .lit (.int .i64 (b : Int))
  | none => .lit (.bool false)
theorem PD_inj {p q : Option Nat} (h : PD p = PD q) : p = q := by
  cases p with
  | none => cases q with
    | none => rfl
    | some b => unfold PD at h; injection h with h; cases h
  | some a => cases q with
    | none => unfold PD at h; injection h with h; cases h
    | some b => unfold PD at h; injection h with h; injection h with _ h; exact congrArg some (Int.ofNat.inj h)
def pv : Option Nat → Value
  | some b => .pointer (some ⟨b, 0, none⟩)
  | none => .pointer none
/-- How an element reads: a pointer as its block's number. -/
def rdP : Value → Option (DataW Unit × List MemPlace)
  | .pointer none => some (PD none, [])
  | .pointer (some ⟨b, 0, none⟩) => some (PD (some b), [])
  | _ => none
theorem rdP_val (o : Option Nat) : rdP (pv o) = some (PD o, []) := by cases o <;> rfl
theorem rdP_inv {v : Value} {z : DataW Unit × List MemPlace} (h : rdP v = some z) : ∃ o, v = pv o ∧ z = (PD o, []) := by
  unfold rdP at h
  split at h
  · exact ⟨none, rfl, (Option.some.inj h).symm⟩
  · rename_i b
    exact ⟨some b, rfl, (Option.some.inj h).symm⟩
  · cases h
theorem KK : Maps.Keyed Tryd.prog 2 := Maps.int_keyed Tryd.underlying2
def W64 (n : Int) : Prop := -9223372036854775808 ≤ n ∧ n ≤ 9223372036854775807
theorem wf_of {n : Int} (h : W64 n) : (Lit.int .i64 n).wf = true := by
  obtain ⟨h1, h2⟩ := h
  simp [Lit.wf, IntKind.min, IntKind.max, IntKind.signed, IntKind.bits]
  omega
theorem of_wf {n : Int} (h : (Lit.int .i64 n).wf = true) : W64 n := by
  simp [Lit.wf, IntKind.min, IntKind.max, IntKind.signed, IntKind.bits] at h
  unfold W64
  omega
theorem key_of {id : Int} (h : W64 id) : keyOf Tryd.prog 2 (.int .i64 id) = some (.int .i64 id) := Maps.keyOf_int_mk Tryd.underlying2 (wf_of h)
theorem isKey (id : Int) : WideAt.IsKeyLit (.int .i64 id) := trivial
def updP {α : Type} (m : Int → Option α) (id : Int) (q : α) : Int → Option α := fun i => if i = id then some q else m i
theorem updP_same {α : Type} (m : Int → Option α) (id : Int) (q : α) : updP m id q id = some q := if_pos rfl
theorem updP_ne {α : Type} (m : Int → Option α) (id : Int) (q : α) {i : Int} (h : i ≠ id) : updP m id q i = m i := if_neg h
/-- Block b of w is a map of at most n entries that holds the pointers pt. -/
structure MP (w : World) (b n : Nat) (pt : Int → Option Nat) : Prop where
  own : ∃ D : DataW Unit, w.ownsMap Tryd.prog 2 rdP b n D ∧ (∀ id : Int, W64 id → D.atKey (.int .i64 id) (PD none) = PD (pt id)) ∧ ∀ id : Int, W64 id → Maps.has D (.int .i64 id) = true → pt id ≠ none
  sup : ∀ id, pt id ≠ none → 1 ≤ id ∧ id ≤ 2147483647
section
variable {w w' : World} {b n : Nat} {pt : Int → Option Nat}
theorem MP.lt (h : MP w b n pt) : b < w.heap.size := by obtain ⟨D, h1, _⟩ := h.own; exact h1.lt
theorem MP.kept {row : Option Nat} (h : MP w b n pt) (hg : w.grownBy w' row) (hne : some b ≠ row) : MP w' b n pt := by
  obtain ⟨D, h1, h2⟩ := h.own
  exact ⟨⟨D, h1.kept hg hne, h2⟩, h.sup⟩
theorem grown_of (hb : Below w.heap.size w w') : w.grownBy w' none := ⟨hb.os, hb.tape, hb.output, hb.size, fun i hi _ => hb.block i hi⟩
theorem MP.low (h : MP w b n pt) (hb : Below w.heap.size w w') : MP w' b n pt := h.kept (grown_of hb) (by simp)
theorem MP.mono (h : MP w b n pt) {n' : Nat} (hn : n ≤ n') : MP w b n' pt := by
  obtain ⟨D, h1, h2⟩ := h.own
  exact ⟨⟨D, h1.mono hn, h2⟩, h.sup⟩
theorem MP.made (w : World) : MP (w.alloc (.map #[] 0)) w.heap.size 0 (fun _ => none) :=
  ⟨⟨_, World.ownsMap_made w _ _ _, fun id _ => rfl, fun id _ h => (by cases h)⟩, fun id h => absurd rfl h⟩
theorem zero71 (w : World) : (zeroValue 71).run Tryd.prog w = .ok (pv none) w := by kernel_rfl
theorem MP.look (h : MP w b n pt) {id : Int} (hid : W64 id) : (Instr.lookup 59 (.map (some b)) (.int .i64 id) false).run Tryd.prog w = .ok (pv (pt id)) w := by
  obtain ⟨D, h1, h2⟩ := h.own
  obtain ⟨v, ps, hrun, hv⟩ := h1.lookup KK Tryd.underlying59 (zero71 w) (rdP_val _) (key_of hid)
  rw [h2.1 id hid] at hv
  obtain ⟨q, rfl, hz⟩ := rdP_inv hv
  obtain rfl := PD_inj (congrArg Prod.fst hz)
  exact hrun
theorem MP.look0 (h : MP w b n pt) {id : Int} (hid : W64 id) (e : pt id = none) : (Instr.lookup 59 (.map (some b)) (.int .i64 id) false).run Tryd.prog w = .ok (.pointer none) w := by
  have h1 := h.look hid
  rw [e] at h1
  exact h1
theorem MP.look1 (h : MP w b n pt) {id : Int} {x : Nat} (hid : W64 id) (e : pt id = some x) : (Instr.lookup 59 (.map (some b)) (.int .i64 id) false).run Tryd.prog w = .ok (.pointer (some ⟨x, 0, none⟩)) w := by
  have h1 := h.look hid
  rw [e] at h1
  exact h1
theorem MP.put (h : MP w b n pt) (hn : n < maxLen) {id : Int} (h1 : 1 ≤ id) (h2 : id ≤ 2147483647) (q : Nat) : ∃ w', (Instr.mapUpdate 59 (.map (some b)) (.int .i64 id) (.pointer (some ⟨q, 0, none⟩))).run Tryd.prog w = .ok () w' ∧ MP w' b (n + 1) (updP pt id q) ∧ w.grownBy w' (some b) := by
  obtain ⟨D, g1, g2⟩ := h.own
  obtain ⟨w', hrun, ho, hg⟩ := g1.update KK Tryd.underlying59 hn (key_of (id := id) ⟨by omega, by omega⟩) (rdP_val (some q))
  refine ⟨w', hrun, ⟨⟨_, ho, fun i hi => ?_, fun i hi hh => ?_⟩, fun i hi => ?_⟩, hg⟩
  · by_cases e : i = id
    · subst e
      rw [updP_same, Maps.atKey_put_same g1.isMap (isKey _)]
    · rw [updP_ne _ _ _ e, Maps.atKey_put_other (by simp; exact e), g2.1 i hi]
  · by_cases e : i = id
    · subst e
      rw [updP_same]
      simp
    · rw [updP_ne _ _ _ e]
      rw [Maps.has_put_other (by simp; exact e)] at hh
      exact g2.2 i hi hh
  · by_cases e : i = id
    · omega
    · rw [updP_ne _ _ _ e] at hi
      exact h.sup i hi
theorem MP.kind (h : MP w b n pt) {cs : Array Value} {t : TypeId} {f : Nat × Nat} : w.heap[b]? ≠ some (.cells cs t f) := fun e => by
  obtain ⟨D, ⟨es, clock, hb, _⟩, _⟩ := h.own
  rw [hb] at e
  cases e
theorem MP.move (h : MP w b n pt) (e : w'.heap[b]? = w.heap[b]?) (hs : w.heap.size ≤ w'.heap.size) : MP w' b n pt := by
  obtain ⟨D, h1, h2⟩ := h.own
  refine ⟨⟨D, ?_, h2⟩, h.sup⟩
  obtain ⟨es, clock, hb, hr⟩ := h1
  exact ⟨es, clock, e.trans hb, hr⟩
end
/-- But for blocks of S, w' is w and what is new. -/
structure Fr (w w' : World) (S : Nat → Prop) : Prop where
  os : w'.os = w.os
  tape : w'.tape = w.tape
  output : w'.output = w.output
  size : w.heap.size ≤ w'.heap.size
  block : ∀ k, k < w.heap.size → ¬ S k → w'.heap[k]? = w.heap[k]?
theorem Fr.refl (w : World) (S : Nat → Prop) : Fr w w S := ⟨rfl, rfl, rfl, Nat.le_refl _, fun _ _ _ => rfl⟩
theorem Fr.of_below {w w' : World} (h : Below w.heap.size w w') (S : Nat → Prop) : Fr w w' S := ⟨h.os, h.tape, h.output, h.size, fun k hk _ => h.block k hk⟩
theorem Fr.of_grown {w w' : World} {row : Option Nat} (h : w.grownBy w' row) {S : Nat → Prop} (hs : ∀ k, row = some k → S k) : Fr w w' S := ⟨h.os, h.tape, h.output, h.size, fun k hk hn => h.block k hk (fun e => hn (hs k e.symm))⟩
theorem Fr.then_ {w w1 w2 : World} {S S2 : Nat → Prop} (h : Fr w w1 S) (k : Fr w1 w2 S2) (hs : ∀ k, S2 k → S k ∨ w.heap.size ≤ k) : Fr w w2 S :=
  ⟨k.os.trans h.os, k.tape.trans h.tape, k.output.trans h.output, Nat.le_trans h.size k.size, fun j hj hn => (k.block j (Nat.lt_of_lt_of_le hj h.size) (fun e => by rcases hs j e with h1 | h1; exact hn h1; omega)).trans (h.block j hj hn)⟩
theorem Fr.low {w w1 w2 : World} {S : Nat → Prop} (h : Fr w w1 S) (k : Below w1.heap.size w1 w2) : Fr w w2 S := h.then_ (Fr.of_below k (fun _ => False)) (fun _ e => e.elim)
theorem Fr.below {B : Nat} {w0 w w1 : World} {S : Nat → Prop} (h : Below B w0 w) (hB : B ≤ w.heap.size) (k : Fr w w1 S) (hs : ∀ k, S k → B ≤ k) : Below B w0 w1 :=
  ⟨k.os.trans h.os, k.tape.trans h.tape, k.output.trans h.output, Nat.le_trans h.size k.size, fun j hj => (k.block j (Nat.lt_of_lt_of_le hj hB) (fun e => by have := hs j e; omega)).trans (h.block j hj)⟩
theorem Fr.blk {w w1 : World} {S : Nat → Prop} {b : Nat} {o : Obj} (k : Fr w w1 S) (h : w.heap[b]? = some o) (hb : ¬ S b) : w1.heap[b]? = some o := (k.block b (Array.getElem?_eq_some_iff.1 h).1 hb).trans h
/-- A stream that was born. -/
structure Sx where
  s : Int
  c : Bool
deriving DecidableEq
/-- A table. -/
structure Tb where
  cl : Bool
  m : Int → Option Sx
  l0 : Int
  l1 : Int
def Tb.new (c : Bool) : Tb := ⟨c, fun _ => none, 0, 0⟩
def Tb.last (T : Tb) (id : Int) : Int := if id % 2 = 1 then T.l1 else T.l0
def In31 (id : Int) : Prop := 1 ≤ id ∧ id ≤ 2147483647
instance (id : Int) : Decidable (In31 id) := inferInstanceAs (Decidable (_ ∧ _))
def Tb.stt (T : Tb) (id : Int) : Int := if In31 id then (match T.m id with | some x => x.s | none => if T.last id < id then 0 else 6) else 6
def Tb.cut (T : Tb) (id : Int) : Bool := match T.m id with | some x => x.c | none => false
/-- What is always so. -/
structure TbOk (T : Tb) : Prop where
  b0 : 0 ≤ T.l0 ∧ T.l0 ≤ 2147483647
  b1 : 0 ≤ T.l1 ∧ T.l1 ≤ 2147483647
  at_ : ∀ id x, T.m id = some x → 1 ≤ id ∧ id ≤ T.last id ∧ 1 ≤ x.s ∧ x.s ≤ 6
  e0 : T.l0 % 2 = 0 ∧ (T.l0 = 0 ∨ T.m T.l0 ≠ none)
  e1 : T.l1 = 0 ∨ (T.l1 % 2 = 1 ∧ T.m T.l1 ≠ none)
theorem TbOk.new (c : Bool) : TbOk (Tb.new c) := ⟨⟨Int.le_refl 0, (by decide : (0 : Int) ≤ 2147483647)⟩, ⟨Int.le_refl 0, (by decide : (0 : Int) ≤ 2147483647)⟩, fun id x h => (by cases h), ⟨rfl, Or.inl rfl⟩, Or.inl rfl⟩
theorem TbOk.in31 {T : Tb} (h : TbOk T) {id : Int} {x : Sx} (hx : T.m id = some x) : In31 id := by
  obtain ⟨h1, h2, _⟩ := h.at_ id x hx
  have := h.b0
  have := h.b1
  unfold Tb.last at h2
  refine ⟨h1, ?_⟩
  split at h2 <;> omega
/-- The table T at p; its blocks are of S, all from base on. -/
structure TAt (w : World) (base : Nat) (S : Nat → Prop) (p : Nat) (T : Tb) : Prop where
  ex : ∃ mb pt, w.heap[p]? = some (.cells #[.bool T.cl, .map (some mb), .int .i64 T.l0, .int .i64 T.l1] 61 (0, 0)) ∧ MP w mb (T.l0 + T.l1).toNat pt ∧ (∀ id, T.m id = none → pt id = none) ∧ (∀ id x, T.m id = some x → ∃ b, pt id = some b ∧ w.heap[b]? = some (.cells #[.int .i64 x.s, .bool x.c] 73 (0, 0)) ∧ S b) ∧ (∀ i j b, pt i = some b → pt j = some b → i = j) ∧ S mb
  sp : S p
  bd : ∀ k, S k → base ≤ k ∧ k < w.heap.size
  ok : TbOk T
section
variable {w w' : World} {base p : Nat} {S S2 : Nat → Prop} {T : Tb}
theorem TAt.fr (h : TAt w base S p T) (k : Fr w w' S2) (hs : ∀ k, S k → ¬ S2 k) : TAt w' base S p T := by
  obtain ⟨mb, pt, hb, hm, hn, hx, hi, hmb⟩ := h.ex
  exact ⟨⟨mb, pt, k.blk hb (hs _ h.sp), hm.move (k.block mb (h.bd _ hmb).2 (hs _ hmb)) k.size, hn, fun id x e => by
    obtain ⟨b, e1, e2, e3⟩ := hx id x e
    exact ⟨b, e1, k.blk e2 (hs _ e3), e3⟩, hi, hmb⟩, h.sp, fun j hj => ⟨(h.bd j hj).1, Nat.lt_of_lt_of_le (h.bd j hj).2 k.size⟩, h.ok⟩
theorem TAt.low (h : TAt w base S p T) (hb : Below w.heap.size w w') : TAt w' base S p T := h.fr (Fr.of_below hb (fun _ => False)) (fun _ _ e => e)
end
/-- New. -/
theorem new_calls (w : World) (cl : Bool) (base : Nat) (hbase : base ≤ w.heap.size) : Calls Tryd.prog 8 #[.bool cl] w fun e w' => ∃ p S, e = .returned (.pointer (some ⟨p, 0, none⟩)) ∧ TAt w' base S p (Tb.new cl) ∧ (∀ k, S k → w.heap.size ≤ k) ∧ Below w.heap.size w w' := by
  have HB := Aside0.mk hbase
  have hmm := @run_makeMap Tryd.prog
  clear hbase
  go_enter Tryd.func8, Tryd.ntmps8
  go_wp2_with fail
  go_ret
  have e : (w.alloc (.map #[] 0)).heap.size = w.heap.size + 1 := World.size_alloc _ _
  have hb : Below w.heap.size w ((w.alloc (.map #[] 0)).alloc (.cells #[.bool cl, .map (some w.heap.size), .int .i64 0, .int .i64 0] 61)) := below_alloc (below_alloc (Below.refl _ _) _) _
  refine ⟨w.heap.size + 1, fun k => k = w.heap.size ∨ k = w.heap.size + 1, rfl, ⟨⟨w.heap.size, fun _ => none, by rw [← e]; exact blk_new _ _, (MP.made w).low (below_alloc (Below.refl _ _) _), fun _ _ => rfl, fun _ _ h => (by cases h), fun _ _ _ h => (by cases h), Or.inl rfl⟩, Or.inr rfl, fun k hk => ?_, TbOk.new cl⟩, fun k hk => by omega, hb⟩
  rw [World.size_alloc, e]
  have := HB.out
  omega
theorem right_calls (p : Nat) (id : Int) (w : World) : Calls Tryd.prog 33 #[.pointer (some ⟨p, 0, none⟩), .int .i64 id] w fun e w' => e = .returned (.bool (decide (In31 id))) ∧ w = w' := by
  by_cases h1 : 1 ≤ id
  · have d1 : decide (1 ≤ id) = true := decide_eq_true h1
    by_cases h2 : id ≤ 2147483647
    · have d2 : decide (id ≤ 2147483647) = true := decide_eq_true h2
      have HR : Aside0 (decide (In31 id) = true) := ⟨decide_eq_true ⟨h1, h2⟩⟩
      clear h1 h2
      go_enter Tryd.func33, Tryd.ntmps33
      go_wp2_with fail
      go_ret
      exact ⟨by rw [HR.out]; rfl, rfl⟩
    · have d2 : decide (id ≤ 2147483647) = false := decide_eq_false h2
      have HR : Aside0 (decide (In31 id) = false) := ⟨decide_eq_false fun h => h2 h.2⟩
      clear h1 h2
      go_enter Tryd.func33, Tryd.ntmps33
      go_wp2_with fail
      go_ret
      exact ⟨by rw [HR.out]; rfl, rfl⟩
  · have d1 : decide (1 ≤ id) = false := decide_eq_false h1
    have HR : Aside0 (decide (In31 id) = false) := ⟨decide_eq_false fun h => h1 h.1⟩
    clear h1
    go_enter Tryd.func33, Tryd.ntmps33
    go_wp2_with fail
    go_ret
    exact ⟨by rw [HR.out]; rfl, rfl⟩
theorem par {id : Int} (h : 1 ≤ id) : (id % 2 = 0 ∧ Int.tmod id 2 = 0) ∨ (id % 2 = 1 ∧ Int.tmod id 2 = 1) := by
  have e : Int.tmod id 2 = id % 2 := Int.tmod_eq_emod_of_nonneg (by omega)
  rw [e]
  omega
theorem state_calls (base : Nat) (S : Nat → Prop) (p : Nat) (T : Tb) (id : Int) (w : World) (h : TAt w base S p T) (hid : W64 id) : Calls Tryd.prog 13 #[.pointer (some ⟨p, 0, none⟩), .int .i64 id] w fun e w' => e = .returned (.int .i64 (T.stt id)) ∧ w = w' := by
  obtain ⟨mb, pt, hb, hm, hn, hx, _, _⟩ := h.ex
  have HM := Aside0.mk hm
  have z1 := blk_cell hb 1
  have z2 := blk_cell hb 2
  have z3 := blk_cell hb 3
  by_cases hI : In31 id
  · rcases ho : T.m id with _ | x
    · have hl := hm.look0 hid (hn id ho)
      by_cases hlt : T.last id < id
      · have HR : Aside0 (T.stt id = 0) := ⟨by unfold Tb.stt; rw [if_pos hI, ho]; exact if_pos hlt⟩
        rcases par hI.1 with ⟨p1, p2⟩ | ⟨p1, p2⟩
        · have d1 : decide (T.l0 < id) = true := decide_eq_true (by unfold Tb.last at hlt; rwa [if_neg (by omega)] at hlt)
          clear hm hn hx hlt p1
          go_enter Tryd.func13, Tryd.ntmps13
          go_wp2_with (go_at_call 33; refine (right_calls p id _).mono ?_; rintro e w1 ⟨rfl, rfl⟩; rw [decide_eq_true hI])
          go_ret
          exact ⟨by rw [HR.out]; rfl, rfl⟩
        · have d1 : decide (T.l1 < id) = true := decide_eq_true (by unfold Tb.last at hlt; rwa [if_pos (by omega)] at hlt)
          clear hm hn hx hlt p1
          go_enter Tryd.func13, Tryd.ntmps13
          go_wp2_with (go_at_call 33; refine (right_calls p id _).mono ?_; rintro e w1 ⟨rfl, rfl⟩; rw [decide_eq_true hI])
          go_ret
          exact ⟨by rw [HR.out]; rfl, rfl⟩
      · have HR : Aside0 (T.stt id = 6) := ⟨by unfold Tb.stt; rw [if_pos hI, ho]; exact if_neg hlt⟩
        rcases par hI.1 with ⟨p1, p2⟩ | ⟨p1, p2⟩
        · have d1 : decide (T.l0 < id) = false := decide_eq_false (by unfold Tb.last at hlt; rwa [if_neg (by omega)] at hlt)
          clear hm hn hx hlt p1
          go_enter Tryd.func13, Tryd.ntmps13
          go_wp2_with (go_at_call 33; refine (right_calls p id _).mono ?_; rintro e w1 ⟨rfl, rfl⟩; rw [decide_eq_true hI])
          go_ret
          exact ⟨by rw [HR.out]; rfl, rfl⟩
        · have d1 : decide (T.l1 < id) = false := decide_eq_false (by unfold Tb.last at hlt; rwa [if_pos (by omega)] at hlt)
          clear hm hn hx hlt p1
          go_enter Tryd.func13, Tryd.ntmps13
          go_wp2_with (go_at_call 33; refine (right_calls p id _).mono ?_; rintro e w1 ⟨rfl, rfl⟩; rw [decide_eq_true hI])
          go_ret
          exact ⟨by rw [HR.out]; rfl, rfl⟩
    · obtain ⟨b, hpt, hbb, _⟩ := hx id x ho
      have hl := hm.look1 hid hpt
      have y0 := blk_cell hbb 0
      have HR : Aside0 (T.stt id = x.s) := ⟨by unfold Tb.stt; rw [if_pos hI, ho]⟩
      clear hm hn hx
      go_enter Tryd.func13, Tryd.ntmps13
      go_wp2_with (go_at_call 33; refine (right_calls p id _).mono ?_; rintro e w1 ⟨rfl, rfl⟩; rw [decide_eq_true hI])
      go_ret
      exact ⟨by rw [HR.out]; rfl, rfl⟩
  · have HR : Aside0 (T.stt id = 6) := ⟨by unfold Tb.stt; rw [if_neg hI]⟩
    clear hm hn hx
    go_enter Tryd.func13, Tryd.ntmps13
    go_wp2_with (go_at_call 33; refine (right_calls p id _).mono ?_; rintro e w1 ⟨rfl, rfl⟩; rw [decide_eq_false hI])
    go_ret
    exact ⟨by rw [HR.out]; rfl, rfl⟩
theorem cut_calls (base : Nat) (S : Nat → Prop) (p : Nat) (T : Tb) (id : Int) (w : World) (h : TAt w base S p T) (hid : W64 id) : Calls Tryd.prog 17 #[.pointer (some ⟨p, 0, none⟩), .int .i64 id] w fun e w' => e = .returned (.bool (T.cut id)) ∧ w = w' := by
  obtain ⟨mb, pt, hb, hm, hn, hx, _, _⟩ := h.ex
  have z1 := blk_cell hb 1
  rcases ho : T.m id with _ | x
  · have hl := hm.look0 hid (hn id ho)
    have HR : Aside0 (T.cut id = false) := ⟨by unfold Tb.cut; rw [ho]⟩
    clear hm hn hx
    go_enter Tryd.func17, Tryd.ntmps17
    go_wp2_with fail
    go_ret
    exact ⟨by rw [HR.out]; rfl, rfl⟩
  · obtain ⟨b, hpt, hbb, _⟩ := hx id x ho
    have hl := hm.look1 hid hpt
    have y1 := blk_cell hbb 1
    have HR : Aside0 (T.cut id = x.c) := ⟨by unfold Tb.cut; rw [ho]⟩
    clear hm hn hx
    go_enter Tryd.func17, Tryd.ntmps17
    go_wp2_with fail
    go_ret
    exact ⟨by rw [HR.out]; rfl, rfl⟩
def Tb.kd (T : Tb) (loc : Bool) : Int := if loc = T.cl then 1 else 0
theorem kind_calls (base : Nat) (S : Nat → Prop) (p : Nat) (T : Tb) (loc : Bool) (w : World) (h : TAt w base S p T) : Calls Tryd.prog 42 #[.pointer (some ⟨p, 0, none⟩), .bool loc] w fun e w' => e = .returned (.int .i64 (T.kd loc)) ∧ w = w' := by
  obtain ⟨mb, pt, hb, _⟩ := h.ex
  have z0 := blk_cell hb 0
  unfold Tb.kd
  obtain ⟨c, hc⟩ : ∃ c, T.cl = c := ⟨_, rfl⟩
  rw [hc] at z0 ⊢
  clear hc hb h
  cases c <;> cases loc
  all_goals
    go_enter Tryd.func42, Tryd.ntmps42
    go_wp2_with fail
    go_ret
    exact ⟨rfl, rfl⟩
def Tb.lastk (T : Tb) (loc : Bool) : Int := if loc = T.cl then T.l1 else T.l0
theorem last_calls (base : Nat) (S : Nat → Prop) (p : Nat) (T : Tb) (loc : Bool) (w : World) (h : TAt w base S p T) : Calls Tryd.prog 26 #[.pointer (some ⟨p, 0, none⟩), .bool loc] w fun e w' => e = .returned (.int .i64 (T.lastk loc)) ∧ Below w.heap.size w w' := by
  have H := Aside0.mk h
  obtain ⟨mb, pt, hb, _⟩ := h.ex
  have z2 := blk_cell hb 2
  have z3 := blk_cell hb 3
  clear h hb
  unfold Tb.lastk
  by_cases e : loc = T.cl
  · rw [if_pos e]
    have HK : Aside0 (T.kd loc = 1) := ⟨if_pos e⟩
    clear e
    go_enter Tryd.func26, Tryd.ntmps26
    go_upto_region 1 with fail
    have qk : ∀ k, Calls Tryd.prog 42 #[.pointer (some ⟨p, 0, none⟩), .bool loc] (w.drewN k) fun e w'' => e = .returned (.int .i64 1) ∧ ∃ m, w'' = w.drewN m := fun k => (kind_calls base S p T loc _ (H.out.low (pw_below_drewN (Below.refl _ _) k))).mono fun e w' h => ⟨by rw [h.1, HK.out], k, h.2.symm⟩
    have QK := Aside0.mk qk
    clear qk
    go_quiet ((go_at_call 42; with_reducible exact QK.out _))
    go_wp2_with fail
    go_ret
    exact ⟨rfl, pw_below_drewN (Below.refl _ _) _⟩
  · rw [if_neg e]
    have HK : Aside0 (T.kd loc = 0) := ⟨if_neg e⟩
    clear e
    go_enter Tryd.func26, Tryd.ntmps26
    go_upto_region 1 with fail
    have qk : ∀ k, Calls Tryd.prog 42 #[.pointer (some ⟨p, 0, none⟩), .bool loc] (w.drewN k) fun e w'' => e = .returned (.int .i64 0) ∧ ∃ m, w'' = w.drewN m := fun k => (kind_calls base S p T loc _ (H.out.low (pw_below_drewN (Below.refl _ _) k))).mono fun e w' h => ⟨by rw [h.1, HK.out], k, h.2.symm⟩
    have QK := Aside0.mk qk
    clear qk
    go_quiet ((go_at_call 42; with_reducible exact QK.out _))
    go_wp2_with fail
    go_ret
    exact ⟨rfl, pw_below_drewN (Below.refl _ _) _⟩
def Tb.next (T : Tb) : Int × Bool := if T.lastk true = 0 then (if T.cl = true then (1, true) else (2, true)) else if 2147483647 < T.lastk true + 2 then (0, false) else (T.lastk true + 2, true)
theorem TbOk.lk {T : Tb} (h : TbOk T) (loc : Bool) : 0 ≤ T.lastk loc ∧ T.lastk loc ≤ 2147483647 := by
  unfold Tb.lastk
  split
  · exact h.b1
  · exact h.b0
theorem next_calls (base : Nat) (S : Nat → Prop) (p : Nat) (T : Tb) (w : World) (h : TAt w base S p T) : Calls Tryd.prog 25 #[.pointer (some ⟨p, 0, none⟩)] w fun e w' => e = .returned (.tuple #[.int .i64 T.next.1, .bool T.next.2]) ∧ Below w.heap.size w w' := by
  have H := Aside0.mk h
  have hk := h.ok.lk true
  obtain ⟨k, hkk⟩ : ∃ k, T.lastk true = k := ⟨_, rfl⟩
  have HKK := Aside0.mk hkk
  rw [hkk] at hk
  have hw : wrap64 (k + 2) = k + 2 := by unfold wrap64; omega
  unfold Tb.next
  rw [hkk]
  clear h hkk
  by_cases h0 : k = 0
  · have e0 : (k == 0) = true := beq_iff_eq.mpr h0
    have HKD : Aside0 (T.kd true = if T.cl = true then 1 else 0) := ⟨by unfold Tb.kd; cases T.cl <;> rfl⟩
    rw [if_pos h0]
    clear h0
    cases hc : T.cl
    · rw [hc] at HKD
      go_enter Tryd.func25, Tryd.ntmps25
      go_wp2_with (first | (go_at_call 26; refine (last_calls base S p T true _ H.out).mono ?_; rintro e w1 ⟨rfl, hb⟩; rw [HKK.out]; have HB := Aside0.mk hb; clear hb) | (go_at_call 42; refine (kind_calls base S p T true _ (H.out.low HB.out)).mono ?_; rintro e w2 ⟨rfl, rfl⟩; rw [HKD.out]))
      go_ret2
      exact ⟨rfl, HB.out⟩
    · rw [hc] at HKD
      go_enter Tryd.func25, Tryd.ntmps25
      go_wp2_with (first | (go_at_call 26; refine (last_calls base S p T true _ H.out).mono ?_; rintro e w1 ⟨rfl, hb⟩; rw [HKK.out]; have HB := Aside0.mk hb; clear hb) | (go_at_call 42; refine (kind_calls base S p T true _ (H.out.low HB.out)).mono ?_; rintro e w2 ⟨rfl, rfl⟩; rw [HKD.out]))
      go_ret2
      exact ⟨rfl, HB.out⟩
  · have e0 : (k == 0) = false := beq_eq_false_iff_ne.mpr h0
    rw [if_neg h0]
    clear h0
    by_cases h1 : 2147483647 < k + 2
    · have d1 : decide (2147483647 < k + 2) = true := decide_eq_true h1
      rw [if_pos h1]
      clear h1 hk
      go_enter Tryd.func25, Tryd.ntmps25
      go_wp2_with (go_at_call 26; refine (last_calls base S p T true _ H.out).mono ?_; rintro e w1 ⟨rfl, hb⟩; rw [HKK.out]; have HB := Aside0.mk hb; clear hb)
      go_ret2
      exact ⟨rfl, HB.out⟩
    · have d1 : decide (2147483647 < k + 2) = false := decide_eq_false h1
      rw [if_neg h1]
      clear h1 hk
      go_enter Tryd.func25, Tryd.ntmps25
      go_wp2_with (go_at_call 26; refine (last_calls base S p T true _ H.out).mono ?_; rintro e w1 ⟨rfl, hb⟩; rw [HKK.out]; have HB := Aside0.mk hb; clear hb)
      go_ret2
      refine ⟨?_, HB.out⟩
      show Ending.returned (.tuple #[.int .i64 (wrap64 (k + 2)), .bool true]) = _
      rw [hw]
end Go.Proofs.YtagkncjdohljgaaDoor.St
