/- The document's share (heraldref20): its row in memory told by what waits at each stream; New, at, Waits. No condition. -/
import Derived.Test.YtedkjbdkokdgdaaMRefuses
import Derived.Test.YtedkjbdkokdgdaaMOps
import Derived.Test.YtedkjbdkokdgdaaMWholeA
import Derived.LoopN
import Derived.BigQuiet
import Derived.WalkSpells
namespace Go.Proofs.Ytedkjbdkokdgdaa.QL
open Go Go.RowKit Go.Proofs.YtedkjbdkokdgdaaW.PrintWords Go.Proofs.YtedkjbdkokdgdaaW.PrintLast
structure S72 where
  f0 : Int
  f1 : ByteArray
  f2 : Bool
  f3 : Bool
def z72 : S72 := ⟨0, ByteArray.empty, false, false⟩
def k72 : Kd S72 := Kd.iso (Kd.pair (Kd.int .i64) (Kd.pair Kd.string (Kd.pair Kd.bool Kd.bool))) (fun x : S72 => (x.f0, x.f1, x.f2, x.f3))
theorem k72_open {w : World} {x : S72} {cs : List Value} (h : k72.K w x cs) : cs = [.int .i64 x.f0, .string x.f1, .bool x.f2, .bool x.f3] := by
  obtain ⟨_, _, rfl, rfl, ⟨_, _, rfl, rfl, ⟨_, _, rfl, rfl, rfl⟩⟩⟩ := h
  rfl
theorem k72_openM {w : World} {base : Nat} {ok : Nat → Prop} {x : S72} {cs : List Value} (h : k72.M w base ok x cs) : cs = [.int .i64 x.f0, .string x.f1, .bool x.f2, .bool x.f3] := by
  obtain ⟨_, _, rfl, rfl, ⟨_, _, rfl, rfl, ⟨_, _, rfl, rfl, rfl⟩⟩⟩ := h
  rfl
theorem k72_mkM (w : World) (base : Nat) (ok : Nat → Prop) (x : S72) : k72.M w base ok x [.int .i64 x.f0, .string x.f1, .bool x.f2, .bool x.f3] := ⟨[.int .i64 x.f0], _, rfl, rfl, ⟨[.string x.f1], _, rfl, rfl, ⟨[.bool x.f2], [.bool x.f3], rfl, rfl, rfl⟩⟩⟩
def rd_T72 (xs : List S72) (i : Int) : S72 := xs.getD i.toNat z72
theorem at_T72 {w : World} {A : Option Addr} {n : Nat} {xs : List S72} (h : Kd.C k72 w A n xs) (i : Nat) (h1 : i < n) (x : S72) (hx : xs.getD i z72 = x) : ∃ ad, A = some ad ∧ w.cell? (ad.add (i * 4)) = some (.int .i64 x.f0) ∧ w.cell? ⟨(ad.add (i * 4)).block, (ad.add (i * 4)).off + 1, none⟩ = some (.string x.f1) ∧ w.cell? ⟨(ad.add (i * 4)).block, (ad.add (i * 4)).off + 2, none⟩ = some (.bool x.f2) ∧ w.cell? ⟨(ad.add (i * 4)).block, (ad.add (i * 4)).off + 3, none⟩ = some (.bool x.f3) := by
  obtain ⟨ad, c, e, _, hK, hc0⟩ := Kd.C_get h z72 (i : Int) (by omega) (by omega)
  rw [Int.toNat_natCast] at hK hc0
  have hc : ∀ j u, c[j]? = some u → w.cell? (ad.add (i * 4 + j)) = some u := hc0
  rw [hx] at hK
  obtain rfl := k72_open hK
  exact ⟨ad, e, hc 0 _ rfl, by rw [← add_field _ _ 1 (by omega)]; exact hc 1 _ rfl, by rw [← add_field _ _ 2 (by omega)]; exact hc 2 _ rfl, by rw [← add_field _ _ 3 (by omega)]; exact hc 3 _ rfl⟩
end Go.Proofs.Ytedkjbdkokdgdaa.QL
namespace Go.Proofs.Ytedkjbdkokdgdaa.Sh
open Go Go.RowKit Go.Proofs.YtedkjbdkokdgdaaW.PrintWords Go.Proofs.YtedkjbdkokdgdaaW.PrintLast Go.Proofs.YtedkjbdkokdgdaaW.PrintMore Go.Proofs.Ytedkjbdkokdgdaa.QL
set_option linter.unusedSimpArgs false
set_option linter.unusedVariables false
set_option maxHeartbeats 2000000
set_option maxRecDepth 100000
theorem info72 : (Try.prog.info? 72).map (fun i => (i.zero, i.size, i.bytes)) = some (some (.agg #[.int .i64 0, .string ByteArray.empty, .bool false, .bool false]), 4, 32) := by kernel_rfl
/-- Only blocks of S, and new ones, are other than they were. -/
structure Fr (w w' : World) (S : Nat → Prop) : Prop where
  os : w'.os = w.os
  tape : w'.tape = w.tape
  output : w'.output = w.output
  size : w.heap.size ≤ w'.heap.size
  block : ∀ k, k < w.heap.size → ¬ S k → w'.heap[k]? = w.heap[k]?
theorem Fr.refl (w : World) (S : Nat → Prop) : Fr w w S := ⟨rfl, rfl, rfl, Nat.le_refl _, fun _ _ _ => rfl⟩
theorem Fr.of_below {w w' : World} (h : Below w.heap.size w w') (S : Nat → Prop) : Fr w w' S := ⟨h.os, h.tape, h.output, h.size, fun k hk _ => h.block k hk⟩
theorem Fr.of_grown {w w' : World} {row : Option Nat} (h : w.grownBy w' row) {S : Nat → Prop} (hs : ∀ k, row = some k → S k) : Fr w w' S := ⟨h.os, h.tape, h.output, h.size, fun k hk hn => h.block k hk (fun e => hn (hs k e.symm))⟩
theorem Fr.then_ {w w1 w2 : World} {S S2 : Nat → Prop} (h : Fr w w1 S) (k : Fr w1 w2 S2) (hs : ∀ k, S2 k → S k ∨ w.heap.size ≤ k) : Fr w w2 S :=
  ⟨k.os.trans h.os, k.tape.trans h.tape, k.output.trans h.output, Nat.le_trans h.size k.size, fun i hi hn => (k.block i (Nat.lt_of_lt_of_le hi h.size) (fun e => by rcases hs i e with e | e; exact hn e; omega)).trans (h.block i hi hn)⟩
theorem Fr.low {w w1 w2 : World} {S : Nat → Prop} (h : Fr w w1 S) (k : Below w1.heap.size w1 w2) : Fr w w2 S := h.then_ (Fr.of_below k (fun _ => False)) (fun _ e => e.elim)
theorem Fr.below {B : Nat} {w0 w w1 : World} {S : Nat → Prop} (h : Below B w0 w) (hB : B ≤ w.heap.size) (k : Fr w w1 S) (hs : ∀ k, S k → B ≤ k) : Below B w0 w1 :=
  ⟨k.os.trans h.os, k.tape.trans h.tape, k.output.trans h.output, Nat.le_trans h.size k.size, fun i hi => (k.block i (by omega) (fun e => by have := hs i e; omega)).trans (h.block i hi)⟩
theorem MQ.move {w w' : World} {b n : Nat} {m : Int → Qu} (h : MQ w b n m) (e : w'.heap[b]? = w.heap[b]?) (hs : w.heap.size ≤ w'.heap.size) : MQ w' b n m := by
  obtain ⟨D, ⟨es, clock, hb, hr⟩, h2⟩ := h.own
  exact ⟨⟨D, ⟨es, clock, e.trans hb, hr⟩, h2⟩, h.sup⟩
theorem ShAt.fr {w w' : World} {p mb n : Nat} {m : Int → Qu} {S : Nat → Prop} (h : ShAt w p mb n m) (k : Fr w w' S) (h1 : ¬ S p) (h2 : ¬ S mb) : ShAt w' p mb n m :=
  ⟨(k.block p (blk_lt h.blk) h1).trans h.blk, h.mq.move (k.block mb h.mq.lt h2) k.size⟩
/-- The document's share lies at block q; v: its list, D: what the list holds. -/
structure DocAt (w : World) (q B : Nat) (v : Value) (D : List S72) : Prop where
  blk : w.heap[q]? = some (.cells #[v] 63 (0, 0))
  row : Kd.R k72 72 w B (fun _ => True) v D
section
variable {w w' : World} {q B : Nat} {v : Value} {D : List S72}
theorem DocAt.ne (h : DocAt w q B v D) : some q ≠ v.ownBlock := Kd.R_ne h.row h.blk (by decide)
theorem DocAt.fr {S : Nat → Prop} (h : DocAt w q B v D) (k : Fr w w' S) (h1 : ¬ S q) (h2 : ∀ g, v.ownBlock = some g → ¬ S g) : DocAt w' q B v D :=
  ⟨(k.block q (blk_lt h.blk) h1).trans h.blk, Kd.R_mono (Kd.R_step (Kd.R_tight rfl h.row) (fun g hg hlt => k.block g hlt (h2 g hg.symm))) (fun _ _ => trivial)⟩
theorem DocAt.low (h : DocAt w q B v D) (hb : Below w.heap.size w w') : DocAt w' q B v D := h.fr (Fr.of_below hb (fun _ => False)) (fun e => e) (fun _ _ e => e)
end
/-- The list tells the same as the function. -/
structure DR (D : List S72) (m : Int → Qu) : Prop where
  nd : (D.map (·.f0)).Nodup
  at_ : ∀ x ∈ D, In31 x.f0 ∧ m x.f0 = ⟨x.f1, x.f2, x.f2 && !x.f3⟩ ∧ (x.f3 = true → x.f2 = true ∧ x.f1.size = 0)
  no : ∀ id, id ∉ D.map (·.f0) → m id = Qu.zero
/-- Where the stream is told. -/
def PosR (D : List S72) (id : Int) (r : Int) : Prop := (r = -1 ∧ id ∉ D.map (·.f0)) ∨ ∃ i : Nat, r = (i : Int) ∧ i < D.length ∧ (D.getD i z72).f0 = id
theorem DR.pos {D : List S72} {m : Int → Qu} (h : DR D m) {id : Int} {i : Nat} (hi : i < D.length) (he : (D.getD i z72).f0 = id) : In31 id ∧ m id = ⟨(D.getD i z72).f1, (D.getD i z72).f2, (D.getD i z72).f2 && !(D.getD i z72).f3⟩ ∧ ((D.getD i z72).f3 = true → (D.getD i z72).f2 = true ∧ (D.getD i z72).f1.size = 0) := by
  have hm : D.getD i z72 ∈ D := by rw [List.getD_eq_getElem?_getD, List.getElem?_eq_getElem hi]; exact List.getElem_mem hi
  subst he
  exact h.at_ _ hm
theorem DR.empty : DR [] (fun _ => Qu.zero) := ⟨List.nodup_nil, fun x h => (by cases h), fun _ _ => rfl⟩
theorem newd_calls (w : World) (B : Nat) (hB : B ≤ w.heap.size) : Calls Try.prog 13 #[] w fun e w' => ∃ q, e = .returned (.pointer (some ⟨q, 0, none⟩)) ∧ DocAt w' q B (.slice none 0 0) [] ∧ w.heap.size ≤ q ∧ Below w.heap.size w w' := by
  have HB := Aside0.mk (Below.refl w.heap.size w)
  have HBB := Aside0.mk hB
  clear hB
  go_enter Try.func13, Try.ntmps13
  go_wp2_with fail
  go_ret
  exact ⟨w.heap.size, rfl, ⟨blk_new _ _, Kd.R_nil _ _ _ _ _⟩, Nat.le_refl _, below_alloc HB.out _⟩
theorem at_calls (q B : Nat) (v : Value) (D : List S72) (id : Int) (w : World) (h : DocAt w q B v D) : Calls Try.prog 31 #[.pointer (some ⟨q, 0, none⟩), .int .i64 id] w fun e w' => (∃ r, e = .returned (.int .i64 r) ∧ PosR D id r) ∧ w = w' := by
  obtain ⟨A, c, rfl, hc, hC⟩ := Kd.R_reads h.row
  have z0 := blk_cell h.blk 0
  have HC := Aside0.mk hC
  clear hc hC h
  go_enter Try.func31, Try.ntmps31
  go_wp2
  go_loop [5] (fun v => ∃ i : Nat, v = .int .i64 (i : Int) ∧ Aside0 (i ≤ D.length) ∧ Aside0 (∀ j, j < i → (D.getD j z72).f0 ≠ id)) (fun v => ((D.length : Int) - intOf v).toNat)
  case atStart => exact ⟨0, rfl, ⟨Nat.zero_le _⟩, ⟨fun j hj => absurd hj (Nat.not_lt_zero j)⟩⟩
  case round =>
    obtain ⟨i, rfl, HI, HJ⟩ := hrel
    by_cases hi : i < D.length
    · have d1 : decide ((i : Int) < (D.length : Int)) = true := decide_eq_true (by omega)
      have d2 : decide (i < D.length) = true := decide_eq_true hi
      have hw1 : wrap64 ((i : Int) + 1) = ((i + 1 : Nat) : Int) := by have := HC.out.2.1; unfold wrap64; omega
      obtain ⟨x, hx⟩ : ∃ x, D.getD i z72 = x := ⟨_, rfl⟩
      obtain ⟨ad, rfl, x0, x1, x2, x3⟩ := at_T72 HC.out i hi x hx
      have HX := Aside0.mk hx
      have HM := Aside0.mk hi
      have q0 : (0 : Int) ≤ (i : Int) := by omega
      have q1 : (i : Int) < (D.length : Int) := by omega
      clear hx hi x1 x2 x3
      by_cases he : x.f0 = id
      · have e1 : (x.f0 == id) = true := beq_iff_eq.mpr he
        have HE := Aside0.mk he
        clear he
        go_wp2
        go_ret
        exact ⟨⟨_, rfl, Or.inr ⟨i, rfl, HM.out, by rw [HX.out]; exact HE.out⟩⟩, rfl⟩
      · have e1 : (x.f0 == id) = false := beq_eq_false_iff_ne.mpr he
        have HE := Aside0.mk he
        clear he
        go_wp2
        go_round
        case rel => exact ⟨i + 1, congrArg (Value.int .i64) hw1, ⟨by have := HM.out; omega⟩, ⟨fun j hj => by
          rcases Nat.lt_succ_iff_lt_or_eq.1 hj with h | rfl
          · exact HJ.out j h
          · rw [HX.out]; exact HE.out⟩⟩
        case measure =>
          rw [hw1]
          show ((D.length : Int) - ((i + 1 : Nat) : Int)).toNat < ((D.length : Int) - (i : Int)).toNat
          have := HM.out
          omega
    · have d1 : decide ((i : Int) < (D.length : Int)) = false := decide_eq_false (by omega)
      have d2 : decide (i < D.length) = false := decide_eq_false hi
      have HE : Aside0 (i = D.length) := ⟨by have := HI.out; omega⟩
      clear hi
      go_wp2
      go_ret
      refine ⟨⟨_, rfl, Or.inl ⟨rfl, fun hm => ?_⟩⟩, rfl⟩
      obtain ⟨x, hx, hxe⟩ := List.mem_map.1 hm
      obtain ⟨j, hj, hje⟩ := List.mem_iff_getElem.1 hx
      refine HJ.out j (by rw [HE.out]; exact hj) ?_
      rw [List.getD_eq_getElem?_getD, List.getElem?_eq_getElem hj]
      show D[j].f0 = id
      rw [hje]
      exact hxe
theorem waitsd_calls (q B : Nat) (v : Value) (D : List S72) (m : Int → Qu) (id : Int) (w : World) (h : DocAt w q B v D) (hd : DR D m) : Calls Try.prog 24 #[.pointer (some ⟨q, 0, none⟩), .int .i64 id] w fun e w' => e = .returned (.tuple #[.int .i64 ((m id).t.size : Int), .bool (m id).e]) ∧ Below w.heap.size w w' := by
  have HB := Aside0.mk (Below.refl w.heap.size w)
  have H := Aside0.mk h
  have HD := Aside0.mk hd
  obtain ⟨M, hM⟩ : ∃ M, m id = M := ⟨_, rfl⟩
  rw [hM]
  have HM := Aside0.mk hM
  clear h hd hM
  go_enter Try.func24, Try.ntmps24
  go_upto_region 2 with (go_at_call 31; refine (at_calls q B v D id _ H.out).mono ?_; rintro e w1 ⟨⟨r, rfl, hp⟩, rfl⟩; have HP := Aside0.mk hp; clear hp)
  rcases HP.out with ⟨rfl, hn⟩ | ⟨i, rfl, hi, he⟩
  · obtain rfl : M = Qu.zero := HM.out.symm.trans (HD.out.no id hn)
    clear hn HP
    go_wp2_with fail
    go_ret2
    exact ⟨rfl, HB.out⟩
  · have hp := (HD.out.pos hi he).2.1
    obtain ⟨x, hx⟩ : ∃ x, D.getD i z72 = x := ⟨_, rfl⟩
    rw [hx] at hp
    have HE := Aside0.mk (HM.out.symm.trans hp)
    clear hp
    obtain ⟨A, c, rfl, hc, hC⟩ := Kd.R_reads H.out.row
    have z0 := blk_cell H.out.blk 0
    obtain ⟨ad, rfl, x0, x1, x2, x3⟩ := at_T72 hC i hi x hx
    have q0 : (0 : Int) ≤ (i : Int) := by omega
    have q1 : (i : Int) < (D.length : Int) := by omega
    have d1 : decide ((i : Int) < 0) = false := decide_eq_false (by omega)
    clear hx he hi hc hC x0 HP
    obtain ⟨y2, hy2⟩ : ∃ y, x.f2 = y := ⟨_, rfl⟩
    obtain ⟨y3, hy3⟩ : ∃ y, x.f3 = y := ⟨_, rfl⟩
    rw [hy2] at x2
    rw [hy3] at x3
    rw [hy2, hy3] at HE
    clear hy2 hy3
    go_upto_region 4 with fail
    cases y2
    · go_big_quiet (fail)
      go_wp2_with fail
      go_ret2
      exact ⟨by rw [HE.out]; rfl, pw_below_drewN HB.out nq⟩
    · go_big_quiet (fail)
      go_wp2_with fail
      go_ret2
      exact ⟨by rw [HE.out]; rfl, pw_below_drewN HB.out nq⟩
end Go.Proofs.Ytedkjbdkokdgdaa.Sh
