/- Two tables side by side; a script's steps as a kind of values; append keeps what it appends to. Each statement has its own conditions. -/
import Derived.Test.YtagkncjdohljgaaDoorMFirst
namespace Go.Proofs.YtagkncjdohljgaaDoor.QL
open Go Go.RowKit Go.Proofs.YtagkncjdohljgaaDoorW.PrintWords Go.Proofs.YtagkncjdohljgaaDoorW.PrintLast
structure S30 where
  f0 : Bool
  f1 : Int
  f2 : Bool
  f3 : Int
def z30 : S30 := ⟨false, 0, false, 0⟩
def k30 : Kd S30 := Kd.iso (Kd.pair Kd.bool (Kd.pair (Kd.int .i64) (Kd.pair Kd.bool (Kd.int .i64)))) (fun x : S30 => (x.f0, x.f1, x.f2, x.f3))
theorem k30_open {w : World} {x : S30} {cs : List Value} (h : k30.K w x cs) : cs = [.bool x.f0, .int .i64 x.f1, .bool x.f2, .int .i64 x.f3] := by
  obtain ⟨_, _, rfl, rfl, ⟨_, _, rfl, rfl, ⟨_, _, rfl, rfl, rfl⟩⟩⟩ := h
  rfl
def rd_T30 (xs : List S30) (i : Int) : S30 := xs.getD i.toNat z30
theorem at_T30 {w : World} {A : Option Addr} {n : Nat} {xs : List S30} (h : Kd.C k30 w A n xs) (i : Int) (h0 : 0 ≤ i) (h1 : i < n) : ∃ ad, A = some ad ∧ w.cell? (ad.add (i.toNat * 4)) = some (.bool (rd_T30 xs i).f0) ∧ w.cell? ⟨(ad.add (i.toNat * 4)).block, (ad.add (i.toNat * 4)).off + 1, none⟩ = some (.int .i64 (rd_T30 xs i).f1) ∧ w.cell? ⟨(ad.add (i.toNat * 4)).block, (ad.add (i.toNat * 4)).off + 2, none⟩ = some (.bool (rd_T30 xs i).f2) ∧ w.cell? ⟨(ad.add (i.toNat * 4)).block, (ad.add (i.toNat * 4)).off + 3, none⟩ = some (.int .i64 (rd_T30 xs i).f3) := by
  obtain ⟨ad, c, e, _, hK, hc0⟩ := Kd.C_get h z30 i h0 h1
  have hc : ∀ j u, c[j]? = some u → w.cell? (ad.add (i.toNat * 4 + j)) = some u := hc0
  obtain rfl := k30_open hK
  exact ⟨ad, e, hc 0 _ rfl, by rw [← add_field _ _ 1 (by omega)]; exact hc 1 _ rfl, by rw [← add_field _ _ 2 (by omega)]; exact hc 2 _ rfl, by rw [← add_field _ _ 3 (by omega)]; exact hc 3 _ rfl⟩
end Go.Proofs.YtagkncjdohljgaaDoor.QL
namespace Go.Proofs.YtagkncjdohljgaaDoor.St
open Go Go.RowKit Go.Proofs.YtagkncjdohljgaaDoorW.PrintWords Go.Proofs.YtagkncjdohljgaaDoorW.PrintLast Go.Proofs.YtagkncjdohljgaaDoorW.PrintMore Go.Proofs.YtagkncjdohljgaaDoor.QL
set_option linter.unusedSimpArgs false
set_option linter.unusedVariables false
set_option maxHeartbeats 2000000
set_option maxRecDepth 100000
theorem rd30_get {l : List S30} {i : Nat} (h : i < l.length) : rd_T30 l (i : Int) = l[i] := by
  unfold rd_T30
  rw [Int.toNat_natCast, List.getD_eq_getElem?_getD, List.getElem?_eq_getElem h]
  rfl
/-- Two tables that share nothing. -/
structure Tw (w : World) (base : Nat) (S1 : Nat → Prop) (p1 : Nat) (T1 : Tb) (S2 : Nat → Prop) (p2 : Nat) (T2 : Tb) : Prop where
  a : TAt w base S1 p1 T1
  b : TAt w base S2 p2 T2
  ap : ∀ k, S1 k → ¬ S2 k
section
variable {w w' : World} {base p1 p2 : Nat} {S1 S2 : Nat → Prop} {T1 T1' T2 : Tb}
theorem Tw.swap (h : Tw w base S1 p1 T1 S2 p2 T2) : Tw w base S2 p2 T2 S1 p1 T1 := ⟨h.b, h.a, fun k h2 h1 => h.ap k h1 h2⟩
theorem Tw.low (h : Tw w base S1 p1 T1 S2 p2 T2) (hb : Below w.heap.size w w') : Tw w' base S1 p1 T1 S2 p2 T2 := ⟨h.a.low hb, h.b.low hb, h.ap⟩
theorem Tw.act (h : Tw w base S1 p1 T1 S2 p2 T2) (hd : DoPost w w' base S1 p1 T1') : ∃ S', Tw w' base S' p1 T1' S2 p2 T2 ∧ Fr w w' S1 := by
  obtain ⟨S', h1, h2, h3⟩ := hd
  refine ⟨S', ⟨h1, h.b.fr h2 (fun k hk e => h.ap k e hk), fun k hk e => ?_⟩, h2⟩
  rcases h3 k hk with h4 | h4
  · exact h.ap k h4 e
  · have := (h.b.bd k e).2
    omega
/-- Nothing below base changes. -/
theorem Tw.below {w0 : World} {B : Nat} (h : Tw w base S1 p1 T1 S2 p2 T2) (hF : Fr w w' S1) (hb : Below B w0 w) (hB : B ≤ w.heap.size) (hbb : B ≤ base) : Below B w0 w' :=
  Fr.below hb hB hF (fun k hk => Nat.le_trans hbb (h.a.bd k hk).1)
end
theorem sorted_ext : ∀ {a b : List Int}, a.Pairwise (· < ·) → b.Pairwise (· < ·) → (∀ x, x ∈ a ↔ x ∈ b) → a = b
  | [], [], _, _, _ => rfl
  | [], y :: b, _, _, h => absurd ((h y).2 (List.mem_cons_self ..)) (by simp)
  | x :: a, [], _, _, h => absurd ((h x).1 (List.mem_cons_self ..)) (by simp)
  | x :: a, y :: b, ha, hb, h => by
    have ha' := List.pairwise_cons.1 ha
    have hb' := List.pairwise_cons.1 hb
    have e : x = y := by
      rcases List.mem_cons.1 ((h x).1 (List.mem_cons_self ..)) with e | e
      · exact e
      · rcases List.mem_cons.1 ((h y).2 (List.mem_cons_self ..)) with e2 | e2
        · exact e2.symm
        · have := hb'.1 x e
          have := ha'.1 y e2
          omega
    subst e
    refine congrArg _ (sorted_ext ha'.2 hb'.2 fun z => ?_)
    have hz := h z
    rw [List.mem_cons, List.mem_cons] at hz
    constructor
    · intro hm
      rcases hz.1 (Or.inr hm) with e | e
      · have := ha'.1 z hm; omega
      · exact e
    · intro hm
      rcases hz.2 (Or.inr hm) with e | e
      · have := hb'.1 z hm; omega
      · exact e
theorem LivL.uniq {T : Tb} {a b : List Int} (h : LivL T a) (k : LivL T b) : a = b := sorted_ext h.1 k.1 (fun x => (h.2 x).trans (k.2 x).symm)
theorem live_len {T : Tb} {a : List Int} (ho : TbOk T) (h : LivL T a) : a.length ≤ 4294967294 := by
  have h1 : ∀ x ∈ a, 1 ≤ x ∧ x ≤ 2147483647 := fun x hx => by
    have h2 := (h.2 x).1 hx
    unfold Tb.liveB at h2
    rcases hm : T.m x with _ | y
    · rw [hm] at h2; cases h2
    · exact ho.in31 hm
  have h2 : ∀ (l : List Int) (lo : Int), l.Pairwise (· < ·) → (∀ x ∈ l, lo ≤ x ∧ x ≤ 2147483647) → lo ≤ 2147483648 → (l.length : Int) ≤ 2147483648 - lo := by
    intro l
    induction l with
    | nil => intro lo _ _ h; simp; omega
    | cons x l ih =>
      intro lo hs hb _
      have hc := List.pairwise_cons.1 hs
      have hx := hb x (List.mem_cons_self ..)
      have := ih (x + 1) hc.2 (fun y hy => ⟨by have := hc.1 y hy; omega, (hb y (List.mem_cons_of_mem _ hy)).2⟩) (by omega)
      rw [List.length_cons]
      omega
  have := h2 a 1 h.1 h1 (by omega)
  omega
theorem C_cuti {w : World} {A : Option Addr} {xs ys : List Int} (h : Kd.C (Kd.int .i64) w A (xs ++ ys).length (xs ++ ys)) : Kd.C (Kd.int .i64) w A xs.length xs := by
  refine ⟨rfl, by have := h.2.1; rw [List.length_append] at this; omega, fun h0 => ?_⟩
  obtain ⟨ad, e, hc⟩ := h.2.2 (by rw [List.length_append]; omega)
  refine ⟨ad, e, fun j p hp => hc j p ?_⟩
  have hj := (List.getElem?_eq_some_iff.1 hp).1
  rw [List.getElem?_append_left hj]
  exact hp
theorem info2' : ∃ i0, Tryd.prog.info? 2 = some i0 ∧ i0.zero = some (.int .i64 0) ∧ i0.size = 1 ∧ i0.bytes = 8 := by
  have h := info2
  cases e : Tryd.prog.info? 2 with
  | none => rw [e] at h; cases h
  | some i0 =>
    rw [e] at h
    have h := Option.some.inj h
    exact ⟨i0, rfl, congrArg (fun x => x.1) h, congrArg (fun x => x.2.1) h, congrArg (fun x => x.2.2) h⟩
/-- append, where its run is known. -/
theorem wpList_append_run {P : Program} {ops : Array Oper} {rest : List Oper} {o : Oper} {a : Act} {Q : Exit → Act → World → Prop} {w w' : World} {v y v' : Value} (hgd : o.guard = none) (s x : Operand) (t : TypeId)
    (ho : o.op = .call { callee := .builtin .append, args := #[s, x], argTypes := #[t, t] }) (hs : a.eval s = v) (hx : a.eval x = y)
    (hr : (Builtin.append_ #[t, t] o.type #[v, y]).run P w = .ok v' w') (h : wpList P ops Q rest (a.put o.dst v') w') : wpList P ops Q (o :: rest) a w := by
  refine wpList_plain hgd fun K hK => ?_
  unfold Oper.wp execOp
  simp only [ho, resolve, invoke, builtin, Sem.run_bind, Sem.run_pure, Result.andThen_ok, List.map_toArray, List.map_cons, List.map_nil, hs, hx, hr]
  exact hK _ _ h
/-- append of one number keeps the row that it appends to, whether it grows in place or not. -/
theorem append_keeps {W0 : World} {base : Nat} {ok : Nat → Prop} {v : Value} {xs : List Int} (x : Int) (h : Kd.R (Kd.int .i64) 2 W0 base ok v xs) (hn : (xs.length + 1) * 8 ≤ 140737488355328) (hbase : base ≤ W0.heap.size) :
    ∃ v' w', (Builtin.append_ #[28, 28] 28 #[v, .slice (some ⟨W0.heap.size, 0, none⟩) 1 1]).run Tryd.prog (W0.alloc (.cells #[.int .i64 x] 2)) = .ok v' w' ∧ Kd.R (Kd.int .i64) 2 w' base (fun _ => True) v' (xs ++ [x]) ∧ Below base W0 w' ∧ W0.grownBy w' v.ownBlock ∧ ∀ A n c, v = .slice A n c → Kd.C (Kd.int .i64) w' A n xs := by
  obtain ⟨i0, hi, hz, hs, hb⟩ := info2'
  have hba : Below W0.heap.size W0 (W0.alloc (.cells #[.int .i64 x] 2)) := below_alloc (Below.refl _ _) _
  have hR := Kd.R_below h hba
  have hown := Kd.own_of_R hR
  have hnews : ∀ j u, ([Value.int .i64 x] : List Value)[j]? = some u → (W0.alloc (.cells #[.int .i64 x] 2)).cell? ((⟨W0.heap.size, 0, none⟩ : Addr).add j) = some u := cell_one_new W0 (.int .i64 x) 2
  obtain ⟨v', w', hrun, ho, hg, _, hat⟩ := run_append_own_at (P := Tryd.prog) (W0.alloc (.cells #[.int .i64 x] 2)) base 28 28 2 i0 (.int .i64 0) 1 8 Tryd.underlying28 hi hz hs hb rfl (by omega) v xs.length (encs (Value.int .i64) xs) hown ⟨W0.heap.size, 0, none⟩ 1 1 [.int .i64 x] rfl hnews (fun u hu => by rw [List.mem_singleton.1 hu]; rfl) (by unfold maxLen; omega) hn (by have := hba.size; omega)
  have hgg : W0.grownBy w' v.ownBlock := ⟨hg.os.trans hba.os, hg.tape.trans hba.tape, hg.output.trans hba.output, Nat.le_trans hba.size hg.size, fun k hk hne => (hg.block k (Nat.lt_of_lt_of_le hk hba.size) hne).trans (hba.block k hk)⟩
  have hR' : Kd.R (Kd.int .i64) 2 w' base (fun _ => True) v' (xs ++ [x]) := Kd.R_of_own (by rw [List.length_append, List.length_singleton, encs_append]; exact ho) (fun _ _ => trivial)
  refine ⟨v', w', hrun, hR', ?_, hgg, fun A n c e => ?_⟩
  · exact ⟨hgg.os, hgg.tape, hgg.output, hgg.size, fun k hk => hgg.block k (by omega) (fun e => by have := Kd.R_base h k e.symm; omega)⟩
  · subst e
    rcases hown.2 with ⟨e, h0⟩ | ⟨g, cap, cur, e, hbg, hhg, hnc, hcm, hcs, htake⟩
    · injection e with e1 e2 e3
      subst e2
      obtain rfl : xs = [] := List.length_eq_zero_iff.1 h0
      exact ⟨rfl, Nat.zero_le _, fun h => absurd h (by omega)⟩
    · injection e with e1 e2 e3
      subst e1; subst e2; subst e3
      by_cases hroom : xs.length + 1 ≤ c
      · have hr := run_append_room (P := Tryd.prog) (W0.alloc (.cells #[.int .i64 x] 2)) 28 28 2 i0 Tryd.underlying28 hi g xs.length c cur hhg ⟨W0.heap.size, 0, none⟩ 1 1 [.int .i64 x] (by rw [hs]; rfl) hnews (fun u hu => by rw [List.mem_singleton.1 hu]; rfl) hroom (by rw [hs, hcs]; simp; omega)
        rw [hr] at hrun
        injection hrun with hv hw
        have hC := Kd.R_reads hR'
        obtain ⟨A2, c2, ev, _, hC2⟩ := hC
        rw [← hv] at ev
        injection ev with ev1 _ _
        subst ev1
        exact C_cuti hC2
      · have hr := run_append_grow (P := Tryd.prog) (W0.alloc (.cells #[.int .i64 x] 2)) 28 28 2 i0 (.int .i64 0) Tryd.underlying28 hi hz ⟨g, 0, none⟩ xs.length c (encs (Value.int .i64) xs) (by rw [hs, encs_length, Nat.mul_one]) (hown.cells (g := g) rfl) ⟨W0.heap.size, 0, none⟩ 1 1 [.int .i64 x] (by rw [hs]; rfl) hnews (by omega) (by omega) (growslice_fits (by omega) (by rw [hb]; exact hn))
        rw [hr] at hrun
        injection hrun with hv hw
        have hC := (Kd.R_reads' hR).2.2
        rw [← hw]
        exact Kd.C_below hC (below_alloc (below_drew (Below.refl _ _)) _)
end Go.Proofs.YtagkncjdohljgaaDoor.St
