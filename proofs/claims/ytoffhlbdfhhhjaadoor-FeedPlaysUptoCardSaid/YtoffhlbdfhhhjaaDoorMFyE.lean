/- The document's Next: behind the preface. The feed lies in a block of its own; its text fits. -/
import Derived.Test.YtoffhlbdfhhhjaaDoorMFyD
import Derived.Test.YtoffhlbdfhhhjaaDoorMFgR
namespace Go.Proofs.YtoffhlbdfhhhjaaDoor.Fr
open Go Go.RowKit Go.Proofs.YtoffhlbdfhhhjaaDoorW.PrintWords Go.Proofs.YtoffhlbdfhhhjaaDoorW.PrintLast Go.Proofs.YtoffhlbdfhhhjaaDoorW.PrintMore Go.Proofs.YtoffhlbdfhhhjaaDoor.QL
set_option linter.unusedSimpArgs false
set_option linter.unusedVariables false
set_option maxHeartbeats 40000000
set_option maxRecDepth 100000
/-- What the document's Next holds while it runs. -/
structure YI (w W : World) (g g2 g4 : Nat) (f : Dc) (x : Fr) (A : Option Addr) (c : Nat) (code st : Int) : Prop where
  fd : DAt W g f
  b2 : At W g2 x A c
  b4 : W.heap[g4]? = some (.cells #[.int .i64 code, .int .i64 st] 35 (0, 0))
  chg : Chg g w W
  gw : g < w.heap.size
  ne : w.heap.size ≤ g2 ∧ g2 < g4
section
variable {w W W1 : World} {g g2 g4 : Nat} {f f' : Dc} {x x' : Fr} {A A' : Option Addr} {c c' : Nat} {code st code' st' : Int}
theorem YI.below (r : YI w W g g2 g4 f x A c code st) (hb : Below W.heap.size W W1) : YI w W1 g g2 g4 f x A c code st :=
  ⟨r.fd.low hb, r.b2.low hb, blk_below r.b4 hb, r.chg.trans (Chg.of hb), r.gw, r.ne⟩
theorem YI.feed (r : YI w W g g2 g4 f x A c code st) (h : DAt W1 g f') (hb : Chg g W W1) : YI w W1 g g2 g4 f' x A c code st := by
  have hn := r.ne
  have hw := r.gw
  exact ⟨h, hb.blk r.b2 (by omega), hb.blk r.b4 (by omega), r.chg.trans hb, r.gw, r.ne⟩
theorem YI.row2 (r : YI w W g g2 g4 f x A c code st) (h : W1.heap[g2]? = some (.cells (x'.cells A' c') 24 (0, 0))) (ho : ∀ k : Nat, k ≠ g2 → W1.heap[k]? = W.heap[k]?) (hb : ∀ B w, Below B w W → B ≤ g2 → Below B w W1) : YI w W1 g g2 g4 f x' A' c' code st := by
  have hn := r.ne
  have hw := r.gw
  exact ⟨(ho g (by omega)).trans r.fd, h, (ho g4 (by omega)).trans r.b4, r.chg.blkset (k := g2) (by omega) ho (hb _ _ (Below.refl _ _) (by omega)), r.gw, r.ne⟩
theorem YI.row4 (r : YI w W g g2 g4 f x A c code st) (h : W1.heap[g4]? = some (.cells #[.int .i64 code', .int .i64 st'] 35 (0, 0))) (ho : ∀ k : Nat, k ≠ g4 → W1.heap[k]? = W.heap[k]?) (hb : ∀ B w, Below B w W → B ≤ g4 → Below B w W1) : YI w W1 g g2 g4 f x A c code' st' := by
  have hn := r.ne
  have hw := r.gw
  exact ⟨(ho g (by omega)).trans r.fd, (ho g2 (by omega)).trans r.b2, h, r.chg.blkset (k := g4) (by omega) ho (hb _ _ (Below.refl _ _) (by omega)), r.gw, r.ne⟩
end
/-- .. behind the reading: two blocks more, and the row of params. -/
structure YX (w W : World) (g g2 g4 g6 g8 : Nat) (f : Dc) (x : Fr) (A : Option Addr) (c : Nat) (code st : Int) (x6 : Fr) (A6 : Option Addr) (c6 : Nat) (code8 st8 : Int) (A7 : Option Addr) (c7 : Nat) (ps : List S32) : Prop where
  i : YI w W g g2 g4 f x A c code st
  b6 : At W g6 x6 A6 c6
  b8 : W.heap[g8]? = some (.cells #[.int .i64 code8, .int .i64 st8] 35 (0, 0))
  kr : Kd.R k32 32 W w.heap.size (fun k => g4 < k ∧ k ≠ g6 ∧ k ≠ g8) (.slice A7 ps.length c7) ps
  nx : g4 < g6 ∧ g4 < g8 ∧ g6 ≠ g8
section
variable {w W W1 : World} {g g2 g4 g6 g8 : Nat} {f f' : Dc} {x x' x6 x6' : Fr} {A A' A6 A6' A7 : Option Addr} {c c' c6 c6' c7 : Nat} {code st code' st' code8 st8 code8' st8' : Int} {ps : List S32}
theorem YX.below (r : YX w W g g2 g4 g6 g8 f x A c code st x6 A6 c6 code8 st8 A7 c7 ps) (hb : Below W.heap.size W W1) : YX w W1 g g2 g4 g6 g8 f x A c code st x6 A6 c6 code8 st8 A7 c7 ps :=
  ⟨r.i.below hb, r.b6.low hb, blk_below r.b8 hb, Kd.R_below r.kr hb, r.nx⟩
theorem YX.feed (r : YX w W g g2 g4 g6 g8 f x A c code st x6 A6 c6 code8 st8 A7 c7 ps) (h : DAt W1 g f') (hb : Chg g W W1) : YX w W1 g g2 g4 g6 g8 f' x A c code st x6 A6 c6 code8 st8 A7 c7 ps := by
  have hn := r.i.ne
  have hw := r.i.gw
  have hx := r.nx
  exact ⟨r.i.feed h hb, hb.blk r.b6 (by omega), hb.blk r.b8 (by omega), Kd.R_step r.kr (fun k hk hl => hb.block k hl (by omega)), r.nx⟩
theorem YX.row2 (r : YX w W g g2 g4 g6 g8 f x A c code st x6 A6 c6 code8 st8 A7 c7 ps) (h : W1.heap[g2]? = some (.cells (x'.cells A' c') 24 (0, 0))) (ho : ∀ k : Nat, k ≠ g2 → W1.heap[k]? = W.heap[k]?) (hb : ∀ B w, Below B w W → B ≤ g2 → Below B w W1) : YX w W1 g g2 g4 g6 g8 f x' A' c' code st x6 A6 c6 code8 st8 A7 c7 ps := by
  have hn := r.i.ne
  have hx := r.nx
  exact ⟨r.i.row2 h ho hb, (ho g6 (by omega)).trans r.b6, (ho g8 (by omega)).trans r.b8, Kd.R_step r.kr (fun k hk _ => ho k (by omega)), r.nx⟩
theorem YX.row4 (r : YX w W g g2 g4 g6 g8 f x A c code st x6 A6 c6 code8 st8 A7 c7 ps) (h : W1.heap[g4]? = some (.cells #[.int .i64 code', .int .i64 st'] 35 (0, 0))) (ho : ∀ k : Nat, k ≠ g4 → W1.heap[k]? = W.heap[k]?) (hb : ∀ B w, Below B w W → B ≤ g4 → Below B w W1) : YX w W1 g g2 g4 g6 g8 f x A c code' st' x6 A6 c6 code8 st8 A7 c7 ps := by
  have hn := r.i.ne
  have hx := r.nx
  exact ⟨r.i.row4 h ho hb, (ho g6 (by omega)).trans r.b6, (ho g8 (by omega)).trans r.b8, Kd.R_step r.kr (fun k hk _ => ho k (by omega)), r.nx⟩
theorem YX.row6 (r : YX w W g g2 g4 g6 g8 f x A c code st x6 A6 c6 code8 st8 A7 c7 ps) (h : W1.heap[g6]? = some (.cells (x6'.cells A6' c6') 24 (0, 0))) (ho : ∀ k : Nat, k ≠ g6 → W1.heap[k]? = W.heap[k]?) (hb : ∀ B w, Below B w W → B ≤ g6 → Below B w W1) : YX w W1 g g2 g4 g6 g8 f x A c code st x6' A6' c6' code8 st8 A7 c7 ps := by
  have hn := r.i.ne
  have hw := r.i.gw
  have hx := r.nx
  have hi : YI w W1 g g2 g4 f x A c code st := ⟨(ho g (by omega)).trans r.i.fd, (ho g2 (by omega)).trans r.i.b2, (ho g4 (by omega)).trans r.i.b4, r.i.chg.blkset (k := g6) (by omega) ho (hb _ _ (Below.refl _ _) (by omega)), r.i.gw, r.i.ne⟩
  exact ⟨hi, h, (ho g8 (by omega)).trans r.b8, Kd.R_step r.kr (fun k hk _ => ho k (by omega)), r.nx⟩
theorem YX.row8 (r : YX w W g g2 g4 g6 g8 f x A c code st x6 A6 c6 code8 st8 A7 c7 ps) (h : W1.heap[g8]? = some (.cells #[.int .i64 code8', .int .i64 st8'] 35 (0, 0))) (ho : ∀ k : Nat, k ≠ g8 → W1.heap[k]? = W.heap[k]?) (hb : ∀ B w, Below B w W → B ≤ g8 → Below B w W1) : YX w W1 g g2 g4 g6 g8 f x A c code st x6 A6 c6 code8' st8' A7 c7 ps := by
  have hn := r.i.ne
  have hw := r.i.gw
  have hx := r.nx
  have hi : YI w W1 g g2 g4 f x A c code st := ⟨(ho g (by omega)).trans r.i.fd, (ho g2 (by omega)).trans r.i.b2, (ho g4 (by omega)).trans r.i.b4, r.i.chg.blkset (k := g8) (by omega) ho (hb _ _ (Below.refl _ _) (by omega)), r.i.gw, r.i.ne⟩
  exact ⟨hi, (ho g6 (by omega)).trans r.b6, h, Kd.R_step r.kr (fun k hk _ => ho k (by omega)), r.nx⟩
end
/-- The first region of a piece of code. -/
def hd7 : Code → Option Nat
  | .region n _ _ => some n
  | .seq a _ => hd7 a
  | .block _ c => hd7 c
  | .loop c => hd7 c
  | _ => none
/-- The statement that begins with a region, and what follows it. -/
def split7 (n : Nat) : Code → Option (Code × Code)
  | .seq a b => if hd7 a = some n then some (a, b) else split7 n b
  | _ => none
noncomputable def c13 : Code := ((Tryd.f40.body.bind (split7 13)).getD (.skip, .skip)).1
noncomputable def d13 : Code := ((Tryd.f40.body.bind (split7 13)).getD (.skip, .skip)).2
theorem rest7 (g g2 g4 : Nat) (f : Dc) (w W : World) (HS : Aside0 (f.b.size ≤ 9223372036854775807)) (I0 : Aside0 (YI w W g g2 g4 f Fr.zero none 0 0 0)) (F : Dc × Nx) (HF : Aside0 (restD f = F)) (K : Act → World → Prop) (hK : ∀ a w', Code.wp Tryd.prog d13 (bodyPost Tryd.prog Tryd.f40 fun e w' => NyPost g w F e w') a w' → K a w') (u1 u3 u5 u6 u7 u8 u9 u10 u11 u12 u13 u14 u15 u16 u17 u18 u19 u20 u21 u22 u23 u24 u25 u26 u27 u28 u29 u30 u31 u32 u33 u34 u35 u36 u37 u38 u39 u40 u41 u42 u43 u44 u45 u46 u47 u48 u49 u50 u51 u52 u53 u54 u55 u56 u57 u58 u59 u60 u61 u62 u63 u64 u65 u66 u67 u68 u69 u70 u71 u72 u73 u74 u75 u76 u77 u78 u79 u80 u81 u82 u83 u84 u85 u86 u87 u88 u89 u90 u91 u92 u93 u94 u95 u96 u97 u98 u99 u100 u101 u102 u103 u104 u105 u106 u107 u108 u109 u110 u111 u112 u113 u114 u115 u116 u117 u118 u119 u120 u121 u122 u123 u124 u125 u126 u127 u128 u129 : Value) :
    Code.wp Tryd.prog c13 (Exit.then K (bodyPost Tryd.prog Tryd.f40 fun e w' => NyPost g w F e w')) ⟨#[.pointer (some ⟨g, 0, none⟩), u1, .pointer (some ⟨g2, 0, none⟩), u3, .pointer (some ⟨g4, 0, none⟩), u5, u6, u7, u8, u9, u10, u11, u12, u13, u14, u15, u16, u17, u18, u19, u20, u21, u22, u23, u24, u25, u26, u27, u28, u29, u30, u31, u32, u33, u34, u35, u36, u37, u38, u39, u40, u41, u42, u43, u44, u45, u46, u47, u48, u49, u50, u51, u52, u53, u54, u55, u56, u57, u58, u59, u60, u61, u62, u63, u64, u65, u66, u67, u68, u69, u70, u71, u72, u73, u74, u75, u76, u77, u78, u79, u80, u81, u82, u83, u84, u85, u86, u87, u88, u89, u90, u91, u92, u93, u94, u95, u96, u97, u98, u99, u100, u101, u102, u103, u104, u105, u106, u107, u108, u109, u110, u111, u112, u113, u114, u115, u116, u117, u118, u119, u120, u121, u122, u123, u124, u125, u126, u127, u128, u129], []⟩ W := by
  conv at hK => intro a w'; arg 1; arg 2; whnf
  have HKK := Aside0.mk hK
  clear hK
  conv => arg 2; whnf
  try dsimp only
  obtain ⟨R, hR⟩ : ∃ R, rdF f.b f.most = R := ⟨_, rfl⟩
  have HRD := Aside0.mk hR
  have HNO := Aside0.mk (rdF_no f.b f.most)
  have HNN := Aside0.mk (rdF_none f.b f.most)
  rw [hR] at HNO HNN
  have hrf := HF.out
  unfold restD at hrf
  rw [hR] at hrf
  have HRF := Aside0.mk hrf
  clear hR hrf
  refine start_ (n := 18) (S := fun w' => w'.cell? ⟨g, 2, none⟩ = some (.string f.b) ∧ w'.cell? ⟨g, 1, none⟩ = some (.int .i64 f.most) ∧ YI w w' g g2 g4 f Fr.zero none 0 0 0) (ds := [15, 17]) #[false, false, false, false, false, false, false, false, false, false, false, false, false, false, false, false, false, false] (by kernel_rfl) rfl rfl ⟨(I0.out.below (below_drew (Below.refl _ _))).fd.c2, (I0.out.below (below_drew (Below.refl _ _))).fd.c1, (I0.out.below (below_drew (Below.refl _ _)))⟩ (fun hHeld => ?_)
  refine pure_ (i := 0) (N := some 72) (v := ?_) (a' := ?_) #[true, false, false, false, false, false, false, false, false, false, false, false, false, false, false, false, false, false] rfl rfl (by kernel_rfl) (fun _ _ _ h => h) (Or.inl ⟨by rfl, ?_⟩) ?_ ?_
  rotate_left
  · intro w'
    go_simp
    with_reducible rfl
  rotate_left
  · simp only [Act.put, List.setIfInBounds_toArray, List.set_cons_zero, List.set_cons_succ, i64_w, i32_w]
    rfl
  refine pure_ (i := 1) (N := some 73) (v := ?_) (a' := ?_) #[true, true, false, false, false, false, false, false, false, false, false, false, false, false, false, false, false, false] rfl rfl (by kernel_rfl) (fun _ _ _ h => h) (Or.inl ⟨by rfl, ?_⟩) ?_ ?_
  rotate_left
  · intro w'
    go_simp
    with_reducible rfl
  rotate_left
  · simp only [Act.put, List.setIfInBounds_toArray, List.set_cons_zero, List.set_cons_succ, i64_w, i32_w]
    rfl
  refine pure_ (i := 2) (N := some 74) (v := ?_) (a' := ?_) #[true, true, true, false, false, false, false, false, false, false, false, false, false, false, false, false, false, false] rfl rfl (by kernel_rfl) (fun _ _ _ h => h) (Or.inl ⟨by rfl, ?_⟩) ?_ ?_
  rotate_left
  · intro w'
    go_simp
    with_reducible rfl
  rotate_left
  · simp only [Act.put, List.setIfInBounds_toArray, List.set_cons_zero, List.set_cons_succ, i64_w, i32_w]
    rfl
  refine pure_ (i := 4) (N := some 76) (v := ?_) (a' := ?_) #[true, true, true, false, true, false, false, false, false, false, false, false, false, false, false, false, false, false] rfl rfl (by kernel_rfl) (fun _ _ _ h => h) (Or.inl ⟨by rfl, ?_⟩) ?_ ?_
  rotate_left
  · intro w'
    go_simp
    with_reducible rfl
  rotate_left
  · simp only [Act.put, List.setIfInBounds_toArray, List.set_cons_zero, List.set_cons_succ, i64_w, i32_w]
    rfl
  refine pure_ (i := 5) (N := some 77) (v := ?_) (a' := ?_) #[true, true, true, false, true, true, false, false, false, false, false, false, false, false, false, false, false, false] rfl rfl (by kernel_rfl) (fun _ _ _ h => h) (Or.inl ⟨by rfl, ?_⟩) ?_ ?_
  rotate_left
  · intro w'
    go_simp
    with_reducible rfl
  rotate_left
  · simp only [Act.put, List.setIfInBounds_toArray, List.set_cons_zero, List.set_cons_succ, i64_w, i32_w]
    rfl
  refine pure_ (i := 6) (N := some 78) (v := ?_) (a' := ?_) #[true, true, true, false, true, true, true, false, false, false, false, false, false, false, false, false, false, false] rfl rfl (by kernel_rfl) (fun _ _ _ h => h) (Or.inl ⟨by rfl, ?_⟩) ?_ ?_
  rotate_left
  · intro w'
    go_simp
    with_reducible rfl
  rotate_left
  · simp only [Act.put, List.setIfInBounds_toArray, List.set_cons_zero, List.set_cons_succ, i64_w, i32_w]
    rfl
  refine take_ (i := 3) (N := some 75) (v := ?_) (a' := ?_) #[true, true, true, true, true, true, true, false, false, false, false, false, false, false, false, false, false, false] rfl rfl (by kernel_rfl) (fun _ _ _ h => h) (Or.inl ⟨by rfl, ?_⟩) hHeld ?_ ?_
  rotate_left
  · rintro w' ⟨s0, s1, s2⟩
    go_simp
    with_reducible rfl
  rotate_left
  · simp only [Act.put, List.setIfInBounds_toArray, List.set_cons_zero, List.set_cons_succ, i64_w, i32_w]
    rfl
  refine take_ (i := 7) (N := some 79) (v := ?_) (a' := ?_) #[true, true, true, true, true, true, true, true, false, false, false, false, false, false, false, false, false, false] rfl rfl (by kernel_rfl) (fun _ _ _ h => h) (Or.inl ⟨by rfl, ?_⟩) hHeld ?_ ?_
  rotate_left
  · rintro w' ⟨s0, s1, s2⟩
    go_simp
    with_reducible rfl
  rotate_left
  · simp only [Act.put, List.setIfInBounds_toArray, List.set_cons_zero, List.set_cons_succ, i64_w, i32_w]
    rfl
  refine join_ (σ := Nat × Nat × Option Addr × Nat) 3 #[true, true, true, true, true, true, true, true, true, true, true, true, true, true, true, false, false, false] (fun s => [(80, .tuple #[.agg #[.int .i64 R.fr.ty, .int .i64 R.fr.fl, .int .i64 R.fr.st, .string R.fr.da, .int .i64 R.fr.pad, .int .i64 R.fr.dep, .bool R.fr.ex, .int .i64 R.fr.wt, .int .i64 R.fr.co, .int .i64 R.fr.la, .slice s.2.2.1 R.fr.ps.length s.2.2.2], .int .i64 R.no, .agg #[.int .i64 R.code, .int .i64 R.st]]), (71, .tuple #[.agg #[.int .i64 R.fr.ty, .int .i64 R.fr.fl, .int .i64 R.fr.st, .string R.fr.da, .int .i64 R.fr.pad, .int .i64 R.fr.dep, .bool R.fr.ex, .int .i64 R.fr.wt, .int .i64 R.fr.co, .int .i64 R.fr.la, .slice s.2.2.1 R.fr.ps.length s.2.2.2], .int .i64 R.no, .agg #[.int .i64 R.code, .int .i64 R.st]]), (81, .agg #[.int .i64 R.fr.ty, .int .i64 R.fr.fl, .int .i64 R.fr.st, .string R.fr.da, .int .i64 R.fr.pad, .int .i64 R.fr.dep, .bool R.fr.ex, .int .i64 R.fr.wt, .int .i64 R.fr.co, .int .i64 R.fr.la, .slice s.2.2.1 R.fr.ps.length s.2.2.2]), (82, .int .i64 R.no), (83, .agg #[.int .i64 R.code, .int .i64 R.st]), (6, .pointer (some ⟨s.1, 0, none⟩)), (8, .pointer (some ⟨s.2.1, 0, none⟩))]) (fun s w' => YX w w' g g2 g4 s.1 s.2.1 f Fr.zero none 0 0 0 Fr.zero none 0 0 0 s.2.2.1 s.2.2.2 R.fr.ps) ?_ ?_
  rotate_left
  · intro hCont
    refine three_ (i := 8) (j := 13) (k := 14) (Ni := some 80) (Nj := some 6) (Nk := some 8) #[true, true, true, true, true, true, true, true, true, false, false, false, false, false, false, false, false, false] #[true, true, true, true, true, true, true, true, false, false, false, false, false, true, false, false, false, false] #[true, true, true, true, true, true, true, true, false, false, false, false, false, false, true, false, false, false] rfl rfl rfl rfl rfl rfl (by kernel_rfl) (by decide) (by decide) (by decide) (fun K hK => ?_) (fun K hK => ?_) (fun K hK => ?_)
    · skip
      refine goes_ Tryd.func21 (by kernel_rfl) rfl #[.string f.b, .int .i64 f.most] (by rfl) rfl rfl (by simp only [List.map_toArray, List.map_cons, List.map_nil]; rfl) ?_
      with_reducible refine (readR_calls f.b f.most _ HS.out).mono ?_
      rintro e w7 hrd
      rw [HRD.out] at hrd
      obtain ⟨A7, c7, rfl, hr7, hb⟩ := hrd
      have hE : ((W.drew)).heap.size = W.heap.size + 0 := by rfl
      have hE7 := hb.size
      have hB4 := blk_lt I0.out.b4
      have KR_1 : Aside0 (Kd.R k32 32 w7 w.heap.size (fun k => W.heap.size + 0 ≤ k ∧ k < w7.heap.size) (.slice A7 R.fr.ps.length c7) R.fr.ps) := ⟨Kd.R_lower (Kd.R_mono (Kd.R_bound hr7) (fun k hk => ⟨by rw [← hE]; exact hk.2.1, hk.2.2.1⟩)) hHeld.2.2.chg.size⟩
      have HE7 : Aside0 (W.heap.size + 0 ≤ w7.heap.size ∧ g4 < W.heap.size) := ⟨by rw [← hE]; exact hE7, hB4⟩
      clear hE hE7 hB4
      unfold Fr.cells
      refine ⟨_, rfl, ?_⟩
      refine hK.out _ _ ⟨(hHeld.2.2.below hb).fd.c2, (hHeld.2.2.below hb).fd.c1, hHeld.2.2.below hb⟩ (fun hHeld => ?_)
      clear hK K
      refine norm_ (a' := ?_) ?_ ?_
      rotate_left
      · show Act.put _ (some 80) _ = _
        simp only [Act.put, List.setIfInBounds_toArray, List.set_cons_zero, List.set_cons_succ, i64_w, i32_w]
        rfl
      refine pure_ (i := 9) (N := some 71) (v := ?_) (a' := ?_) #[true, true, true, true, true, true, true, true, true, true, false, false, false, false, false, false, false, false] rfl rfl (by kernel_rfl) (fun _ _ _ h => h) (Or.inl ⟨by rfl, ?_⟩) ?_ ?_
      rotate_left
      · intro w'
        go_simp
        with_reducible rfl
      rotate_left
      · simp only [Act.put, List.setIfInBounds_toArray, List.set_cons_zero, List.set_cons_succ, i64_w, i32_w]
        rfl
      refine pure_ (i := 10) (N := some 81) (v := ?_) (a' := ?_) #[true, true, true, true, true, true, true, true, true, true, true, false, false, false, false, false, false, false] rfl rfl (by kernel_rfl) (fun _ _ _ h => h) (Or.inl ⟨by rfl, ?_⟩) ?_ ?_
      rotate_left
      · intro w'
        go_simp
        with_reducible rfl
      rotate_left
      · simp only [Act.put, List.setIfInBounds_toArray, List.set_cons_zero, List.set_cons_succ, i64_w, i32_w]
        rfl
      refine pure_ (i := 11) (N := some 82) (v := ?_) (a' := ?_) #[true, true, true, true, true, true, true, true, true, true, true, true, false, false, false, false, false, false] rfl rfl (by kernel_rfl) (fun _ _ _ h => h) (Or.inl ⟨by rfl, ?_⟩) ?_ ?_
      rotate_left
      · intro w'
        go_simp
        with_reducible rfl
      rotate_left
      · simp only [Act.put, List.setIfInBounds_toArray, List.set_cons_zero, List.set_cons_succ, i64_w, i32_w]
        rfl
      refine pure_ (i := 12) (N := some 83) (v := ?_) (a' := ?_) #[true, true, true, true, true, true, true, true, true, true, true, true, true, false, false, false, false, false] rfl rfl (by kernel_rfl) (fun _ _ _ h => h) (Or.inl ⟨by rfl, ?_⟩) ?_ ?_
      rotate_left
      · intro w'
        go_simp
        with_reducible rfl
      rotate_left
      · simp only [Act.put, List.setIfInBounds_toArray, List.set_cons_zero, List.set_cons_succ, i64_w, i32_w]
        rfl
      refine two_ (i := 13) (j := 14) (Ni := some 6) (Nj := some 8) #[true, true, true, true, true, true, true, true, true, true, true, true, true, true, false, false, false, false] #[true, true, true, true, true, true, true, true, true, true, true, true, true, false, true, false, false, false] rfl rfl rfl rfl (by kernel_rfl) (by decide) (by decide) (fun K hK => ?_) (fun K hK => ?_)
      · skip
        refine value_ (w1 := ?_) (v := ?_) (by rfl) rfl ?_ ?_
        rotate_left 2
        · go_simp
          constructor
          · rfl
          · rfl
        have KR_2 : Aside0 (Kd.R k32 32 (w7.alloc (.cells #[.int .i64 0, .int .i64 0, .int .i64 0, .string ⟨#[]⟩, .int .i64 0, .int .i64 0, .bool false, .int .i64 0, .int .i64 0, .int .i64 0, .slice none 0 0] 24)) w.heap.size (fun k => W.heap.size + 0 ≤ k ∧ k < w7.heap.size) (.slice A7 R.fr.ps.length c7) R.fr.ps) := ⟨Kd.R_below KR_1.out (below_alloc (Below.refl _ _) _)⟩
        have B13_2 : Aside0 (At (w7.alloc (.cells #[.int .i64 0, .int .i64 0, .int .i64 0, .string ⟨#[]⟩, .int .i64 0, .int .i64 0, .bool false, .int .i64 0, .int .i64 0, .int .i64 0, .slice none 0 0] 24)) (w7.heap.size) Fr.zero none 0) := ⟨by have h := zero_new w7; exact h⟩
        refine hK.out _ _ ⟨(hHeld.2.2.below (below_alloc (Below.refl _ _) _)).fd.c2, (hHeld.2.2.below (below_alloc (Below.refl _ _) _)).fd.c1, hHeld.2.2.below (below_alloc (Below.refl _ _) _)⟩ (fun hHeld => ?_)
        clear hK K
        refine norm_ (a' := ?_) ?_ ?_
        rotate_left
        · show Act.put _ (some 6) _ = _
          simp only [Act.put, List.setIfInBounds_toArray, List.set_cons_zero, List.set_cons_succ, i64_w, i32_w]
          rfl
        refine one_ (i := 14) (N := some 8) #[true, true, true, true, true, true, true, true, true, true, true, true, true, true, true, false, false, false] rfl rfl (by kernel_rfl) (by decide) (fun K hK => ?_)
        refine value_ (w1 := ?_) (v := ?_) (by rfl) rfl ?_ ?_
        rotate_left 2
        · go_simp
          constructor
          · rfl
          · rfl
        have KR_3 : Aside0 (Kd.R k32 32 ((w7.alloc (.cells #[.int .i64 0, .int .i64 0, .int .i64 0, .string ⟨#[]⟩, .int .i64 0, .int .i64 0, .bool false, .int .i64 0, .int .i64 0, .int .i64 0, .slice none 0 0] 24)).alloc (.cells #[.int .i64 0, .int .i64 0] 35)) w.heap.size (fun k => W.heap.size + 0 ≤ k ∧ k < w7.heap.size) (.slice A7 R.fr.ps.length c7) R.fr.ps) := ⟨Kd.R_below KR_2.out (below_alloc (Below.refl _ _) _)⟩
        have B13_3 : Aside0 (At ((w7.alloc (.cells #[.int .i64 0, .int .i64 0, .int .i64 0, .string ⟨#[]⟩, .int .i64 0, .int .i64 0, .bool false, .int .i64 0, .int .i64 0, .int .i64 0, .slice none 0 0] 24)).alloc (.cells #[.int .i64 0, .int .i64 0] 35)) (w7.heap.size) Fr.zero none 0) := ⟨blk_below B13_2.out (below_alloc (Below.refl _ _) _)⟩
        have B14_3 : Aside0 (((w7.alloc (.cells #[.int .i64 0, .int .i64 0, .int .i64 0, .string ⟨#[]⟩, .int .i64 0, .int .i64 0, .bool false, .int .i64 0, .int .i64 0, .int .i64 0, .slice none 0 0] 24)).alloc (.cells #[.int .i64 0, .int .i64 0] 35)).heap[w7.heap.size + 1]? = some (.cells #[.int .i64 0, .int .i64 0] 35 (0, 0))) := ⟨by have h := blk_new (w7.alloc (.cells #[.int .i64 0, .int .i64 0, .int .i64 0, .string ⟨#[]⟩, .int .i64 0, .int .i64 0, .bool false, .int .i64 0, .int .i64 0, .int .i64 0, .slice none 0 0] 24)) (.cells #[.int .i64 0, .int .i64 0] 35); simp only [World.size_alloc] at h; exact h⟩
        refine hK.out _ _ ⟨(hHeld.2.2.below (below_alloc (Below.refl _ _) _)).fd.c2, (hHeld.2.2.below (below_alloc (Below.refl _ _) _)).fd.c1, hHeld.2.2.below (below_alloc (Below.refl _ _) _)⟩ (fun hHeld => ?_)
        clear hK K
        refine norm_ (a' := ?_) ?_ ?_
        rotate_left
        · show Act.put _ (some 8) _ = _
          simp only [Act.put, List.setIfInBounds_toArray, List.set_cons_zero, List.set_cons_succ, i64_w, i32_w]
          rfl
        exact norm_ (by simp only [putAll, Act.put, List.setIfInBounds_toArray, List.set_cons_zero, List.set_cons_succ]) (hCont (w7.heap.size, w7.heap.size + 1, A7, c7) _ ⟨hHeld.2.2, B13_3.out, B14_3.out, Kd.R_mono KR_3.out (fun k hk => by have hk1 : W.heap.size + 0 ≤ k ∧ k < w7.heap.size := hk; have := HE7.out; show g4 < k ∧ k ≠ w7.heap.size ∧ k ≠ w7.heap.size + 1; omega), by have := HE7.out; show g4 < w7.heap.size ∧ g4 < w7.heap.size + 1 ∧ w7.heap.size ≠ w7.heap.size + 1; omega⟩)
      · skip
        refine value_ (w1 := ?_) (v := ?_) (by rfl) rfl ?_ ?_
        rotate_left 2
        · go_simp
          constructor
          · rfl
          · rfl
        have KR_2 : Aside0 (Kd.R k32 32 (w7.alloc (.cells #[.int .i64 0, .int .i64 0] 35)) w.heap.size (fun k => W.heap.size + 0 ≤ k ∧ k < w7.heap.size) (.slice A7 R.fr.ps.length c7) R.fr.ps) := ⟨Kd.R_below KR_1.out (below_alloc (Below.refl _ _) _)⟩
        have B14_2 : Aside0 ((w7.alloc (.cells #[.int .i64 0, .int .i64 0] 35)).heap[w7.heap.size]? = some (.cells #[.int .i64 0, .int .i64 0] 35 (0, 0))) := ⟨by have h := blk_new w7 (.cells #[.int .i64 0, .int .i64 0] 35); exact h⟩
        refine hK.out _ _ ⟨(hHeld.2.2.below (below_alloc (Below.refl _ _) _)).fd.c2, (hHeld.2.2.below (below_alloc (Below.refl _ _) _)).fd.c1, hHeld.2.2.below (below_alloc (Below.refl _ _) _)⟩ (fun hHeld => ?_)
        clear hK K
        refine norm_ (a' := ?_) ?_ ?_
        rotate_left
        · show Act.put _ (some 8) _ = _
          simp only [Act.put, List.setIfInBounds_toArray, List.set_cons_zero, List.set_cons_succ, i64_w, i32_w]
          rfl
        refine one_ (i := 13) (N := some 6) #[true, true, true, true, true, true, true, true, true, true, true, true, true, true, true, false, false, false] rfl rfl (by kernel_rfl) (by decide) (fun K hK => ?_)
        refine value_ (w1 := ?_) (v := ?_) (by rfl) rfl ?_ ?_
        rotate_left 2
        · go_simp
          constructor
          · rfl
          · rfl
        have KR_3 : Aside0 (Kd.R k32 32 ((w7.alloc (.cells #[.int .i64 0, .int .i64 0] 35)).alloc (.cells #[.int .i64 0, .int .i64 0, .int .i64 0, .string ⟨#[]⟩, .int .i64 0, .int .i64 0, .bool false, .int .i64 0, .int .i64 0, .int .i64 0, .slice none 0 0] 24)) w.heap.size (fun k => W.heap.size + 0 ≤ k ∧ k < w7.heap.size) (.slice A7 R.fr.ps.length c7) R.fr.ps) := ⟨Kd.R_below KR_2.out (below_alloc (Below.refl _ _) _)⟩
        have B14_3 : Aside0 (((w7.alloc (.cells #[.int .i64 0, .int .i64 0] 35)).alloc (.cells #[.int .i64 0, .int .i64 0, .int .i64 0, .string ⟨#[]⟩, .int .i64 0, .int .i64 0, .bool false, .int .i64 0, .int .i64 0, .int .i64 0, .slice none 0 0] 24)).heap[w7.heap.size]? = some (.cells #[.int .i64 0, .int .i64 0] 35 (0, 0))) := ⟨blk_below B14_2.out (below_alloc (Below.refl _ _) _)⟩
        have B13_3 : Aside0 (At ((w7.alloc (.cells #[.int .i64 0, .int .i64 0] 35)).alloc (.cells #[.int .i64 0, .int .i64 0, .int .i64 0, .string ⟨#[]⟩, .int .i64 0, .int .i64 0, .bool false, .int .i64 0, .int .i64 0, .int .i64 0, .slice none 0 0] 24)) (w7.heap.size + 1) Fr.zero none 0) := ⟨by have h := zero_new (w7.alloc (.cells #[.int .i64 0, .int .i64 0] 35)); simp only [World.size_alloc] at h; exact h⟩
        refine hK.out _ _ ⟨(hHeld.2.2.below (below_alloc (Below.refl _ _) _)).fd.c2, (hHeld.2.2.below (below_alloc (Below.refl _ _) _)).fd.c1, hHeld.2.2.below (below_alloc (Below.refl _ _) _)⟩ (fun hHeld => ?_)
        clear hK K
        refine norm_ (a' := ?_) ?_ ?_
        rotate_left
        · show Act.put _ (some 6) _ = _
          simp only [Act.put, List.setIfInBounds_toArray, List.set_cons_zero, List.set_cons_succ, i64_w, i32_w]
          rfl
        exact norm_ (by simp only [putAll, Act.put, List.setIfInBounds_toArray, List.set_cons_zero, List.set_cons_succ]) (hCont (w7.heap.size + 1, w7.heap.size, A7, c7) _ ⟨hHeld.2.2, B13_3.out, B14_3.out, Kd.R_mono KR_3.out (fun k hk => by have hk1 : W.heap.size + 0 ≤ k ∧ k < w7.heap.size := hk; have := HE7.out; show g4 < k ∧ k ≠ w7.heap.size + 1 ∧ k ≠ w7.heap.size; omega), by have := HE7.out; show g4 < w7.heap.size + 1 ∧ g4 < w7.heap.size ∧ w7.heap.size + 1 ≠ w7.heap.size; omega⟩)
    · skip
      refine value_ (w1 := ?_) (v := ?_) (by rfl) rfl ?_ ?_
      rotate_left 2
      · go_simp
        constructor
        · rfl
        · rfl
      have B13_1 : Aside0 (At ((W.alloc (.cells #[.int .i64 0, .int .i64 0, .int .i64 0, .string ⟨#[]⟩, .int .i64 0, .int .i64 0, .bool false, .int .i64 0, .int .i64 0, .int .i64 0, .slice none 0 0] 24)).drew) (W.heap.size) Fr.zero none 0) := ⟨by have h := zero_new W; exact blk_below h (below_drew (Below.refl _ _))⟩
      refine hK.out _ _ ⟨(hHeld.2.2.below (below_alloc (Below.refl _ _) _)).fd.c2, (hHeld.2.2.below (below_alloc (Below.refl _ _) _)).fd.c1, hHeld.2.2.below (below_alloc (Below.refl _ _) _)⟩ (fun hHeld => ?_)
      clear hK K
      refine norm_ (a' := ?_) ?_ ?_
      rotate_left
      · show Act.put _ (some 6) _ = _
        simp only [Act.put, List.setIfInBounds_toArray, List.set_cons_zero, List.set_cons_succ, i64_w, i32_w]
        rfl
      refine two_ (i := 8) (j := 14) (Ni := some 80) (Nj := some 8) #[true, true, true, true, true, true, true, true, true, false, false, false, false, true, false, false, false, false] #[true, true, true, true, true, true, true, true, false, false, false, false, false, true, true, false, false, false] rfl rfl rfl rfl (by kernel_rfl) (by decide) (by decide) (fun K hK => ?_) (fun K hK => ?_)
      · skip
        refine goes_ Tryd.func21 (by kernel_rfl) rfl #[.string f.b, .int .i64 f.most] (by rfl) rfl rfl (by simp only [List.map_toArray, List.map_cons, List.map_nil]; rfl) ?_
        with_reducible refine (readR_calls f.b f.most _ HS.out).mono ?_
        rintro e w7 hrd
        rw [HRD.out] at hrd
        obtain ⟨A7, c7, rfl, hr7, hb⟩ := hrd
        have hE : (((W.alloc (.cells #[.int .i64 0, .int .i64 0, .int .i64 0, .string ⟨#[]⟩, .int .i64 0, .int .i64 0, .bool false, .int .i64 0, .int .i64 0, .int .i64 0, .slice none 0 0] 24)).drew)).heap.size = W.heap.size + 1 := by simp [World.size_alloc, World.drew]
        have hE7 := hb.size
        have hB4 := blk_lt I0.out.b4
        have KR_2 : Aside0 (Kd.R k32 32 w7 w.heap.size (fun k => W.heap.size + 1 ≤ k ∧ k < w7.heap.size) (.slice A7 R.fr.ps.length c7) R.fr.ps) := ⟨Kd.R_lower (Kd.R_mono (Kd.R_bound hr7) (fun k hk => ⟨by rw [← hE]; exact hk.2.1, hk.2.2.1⟩)) hHeld.2.2.chg.size⟩
        have HE7 : Aside0 (W.heap.size + 1 ≤ w7.heap.size ∧ g4 < W.heap.size) := ⟨by rw [← hE]; exact hE7, hB4⟩
        clear hE hE7 hB4
        have B13_2 : Aside0 (At w7 (W.heap.size) Fr.zero none 0) := ⟨blk_below B13_1.out hb⟩
        unfold Fr.cells
        refine ⟨_, rfl, ?_⟩
        refine hK.out _ _ ⟨(hHeld.2.2.below hb).fd.c2, (hHeld.2.2.below hb).fd.c1, hHeld.2.2.below hb⟩ (fun hHeld => ?_)
        clear hK K
        refine norm_ (a' := ?_) ?_ ?_
        rotate_left
        · show Act.put _ (some 80) _ = _
          simp only [Act.put, List.setIfInBounds_toArray, List.set_cons_zero, List.set_cons_succ, i64_w, i32_w]
          rfl
        refine pure_ (i := 9) (N := some 71) (v := ?_) (a' := ?_) #[true, true, true, true, true, true, true, true, true, true, false, false, false, true, false, false, false, false] rfl rfl (by kernel_rfl) (fun _ _ _ h => h) (Or.inl ⟨by rfl, ?_⟩) ?_ ?_
        rotate_left
        · intro w'
          go_simp
          with_reducible rfl
        rotate_left
        · simp only [Act.put, List.setIfInBounds_toArray, List.set_cons_zero, List.set_cons_succ, i64_w, i32_w]
          rfl
        refine pure_ (i := 10) (N := some 81) (v := ?_) (a' := ?_) #[true, true, true, true, true, true, true, true, true, true, true, false, false, true, false, false, false, false] rfl rfl (by kernel_rfl) (fun _ _ _ h => h) (Or.inl ⟨by rfl, ?_⟩) ?_ ?_
        rotate_left
        · intro w'
          go_simp
          with_reducible rfl
        rotate_left
        · simp only [Act.put, List.setIfInBounds_toArray, List.set_cons_zero, List.set_cons_succ, i64_w, i32_w]
          rfl
        refine pure_ (i := 11) (N := some 82) (v := ?_) (a' := ?_) #[true, true, true, true, true, true, true, true, true, true, true, true, false, true, false, false, false, false] rfl rfl (by kernel_rfl) (fun _ _ _ h => h) (Or.inl ⟨by rfl, ?_⟩) ?_ ?_
        rotate_left
        · intro w'
          go_simp
          with_reducible rfl
        rotate_left
        · simp only [Act.put, List.setIfInBounds_toArray, List.set_cons_zero, List.set_cons_succ, i64_w, i32_w]
          rfl
        refine pure_ (i := 12) (N := some 83) (v := ?_) (a' := ?_) #[true, true, true, true, true, true, true, true, true, true, true, true, true, true, false, false, false, false] rfl rfl (by kernel_rfl) (fun _ _ _ h => h) (Or.inl ⟨by rfl, ?_⟩) ?_ ?_
        rotate_left
        · intro w'
          go_simp
          with_reducible rfl
        rotate_left
        · simp only [Act.put, List.setIfInBounds_toArray, List.set_cons_zero, List.set_cons_succ, i64_w, i32_w]
          rfl
        refine one_ (i := 14) (N := some 8) #[true, true, true, true, true, true, true, true, true, true, true, true, true, true, true, false, false, false] rfl rfl (by kernel_rfl) (by decide) (fun K hK => ?_)
        refine value_ (w1 := ?_) (v := ?_) (by rfl) rfl ?_ ?_
        rotate_left 2
        · go_simp
          constructor
          · rfl
          · rfl
        have B13_3 : Aside0 (At (w7.alloc (.cells #[.int .i64 0, .int .i64 0] 35)) (W.heap.size) Fr.zero none 0) := ⟨blk_below B13_2.out (below_alloc (Below.refl _ _) _)⟩
        have KR_3 : Aside0 (Kd.R k32 32 (w7.alloc (.cells #[.int .i64 0, .int .i64 0] 35)) w.heap.size (fun k => W.heap.size + 1 ≤ k ∧ k < w7.heap.size) (.slice A7 R.fr.ps.length c7) R.fr.ps) := ⟨Kd.R_below KR_2.out (below_alloc (Below.refl _ _) _)⟩
        have B14_3 : Aside0 ((w7.alloc (.cells #[.int .i64 0, .int .i64 0] 35)).heap[w7.heap.size]? = some (.cells #[.int .i64 0, .int .i64 0] 35 (0, 0))) := ⟨by have h := blk_new w7 (.cells #[.int .i64 0, .int .i64 0] 35); exact h⟩
        refine hK.out _ _ ⟨(hHeld.2.2.below (below_alloc (Below.refl _ _) _)).fd.c2, (hHeld.2.2.below (below_alloc (Below.refl _ _) _)).fd.c1, hHeld.2.2.below (below_alloc (Below.refl _ _) _)⟩ (fun hHeld => ?_)
        clear hK K
        refine norm_ (a' := ?_) ?_ ?_
        rotate_left
        · show Act.put _ (some 8) _ = _
          simp only [Act.put, List.setIfInBounds_toArray, List.set_cons_zero, List.set_cons_succ, i64_w, i32_w]
          rfl
        exact norm_ (by simp only [putAll, Act.put, List.setIfInBounds_toArray, List.set_cons_zero, List.set_cons_succ]) (hCont (W.heap.size, w7.heap.size, A7, c7) _ ⟨hHeld.2.2, B13_3.out, B14_3.out, Kd.R_mono KR_3.out (fun k hk => by have hk1 : W.heap.size + 1 ≤ k ∧ k < w7.heap.size := hk; have := HE7.out; show g4 < k ∧ k ≠ W.heap.size ∧ k ≠ w7.heap.size; omega), by have := HE7.out; show g4 < W.heap.size ∧ g4 < w7.heap.size ∧ W.heap.size ≠ w7.heap.size; omega⟩)
      · skip
        refine value_ (w1 := ?_) (v := ?_) (by rfl) rfl ?_ ?_
        rotate_left 2
        · go_simp
          constructor
          · rfl
          · rfl
        have B13_2 : Aside0 (At (((W.alloc (.cells #[.int .i64 0, .int .i64 0, .int .i64 0, .string ⟨#[]⟩, .int .i64 0, .int .i64 0, .bool false, .int .i64 0, .int .i64 0, .int .i64 0, .slice none 0 0] 24)).alloc (.cells #[.int .i64 0, .int .i64 0] 35)).drew) (W.heap.size) Fr.zero none 0) := ⟨blk_below B13_1.out (below_alloc (Below.refl _ _) _)⟩
        have B14_2 : Aside0 ((((W.alloc (.cells #[.int .i64 0, .int .i64 0, .int .i64 0, .string ⟨#[]⟩, .int .i64 0, .int .i64 0, .bool false, .int .i64 0, .int .i64 0, .int .i64 0, .slice none 0 0] 24)).alloc (.cells #[.int .i64 0, .int .i64 0] 35)).drew).heap[W.heap.size + 1]? = some (.cells #[.int .i64 0, .int .i64 0] 35 (0, 0))) := ⟨by have h := blk_new (W.alloc (.cells #[.int .i64 0, .int .i64 0, .int .i64 0, .string ⟨#[]⟩, .int .i64 0, .int .i64 0, .bool false, .int .i64 0, .int .i64 0, .int .i64 0, .slice none 0 0] 24)) (.cells #[.int .i64 0, .int .i64 0] 35); simp only [World.size_alloc] at h; exact blk_below h (below_drew (Below.refl _ _))⟩
        refine hK.out _ _ ⟨(hHeld.2.2.below (below_alloc (Below.refl _ _) _)).fd.c2, (hHeld.2.2.below (below_alloc (Below.refl _ _) _)).fd.c1, hHeld.2.2.below (below_alloc (Below.refl _ _) _)⟩ (fun hHeld => ?_)
        clear hK K
        refine norm_ (a' := ?_) ?_ ?_
        rotate_left
        · show Act.put _ (some 8) _ = _
          simp only [Act.put, List.setIfInBounds_toArray, List.set_cons_zero, List.set_cons_succ, i64_w, i32_w]
          rfl
        refine one_ (i := 8) (N := some 80) #[true, true, true, true, true, true, true, true, true, false, false, false, false, true, true, false, false, false] rfl rfl (by kernel_rfl) (by decide) (fun K hK => ?_)
        refine goes_ Tryd.func21 (by kernel_rfl) rfl #[.string f.b, .int .i64 f.most] (by rfl) rfl rfl (by simp only [List.map_toArray, List.map_cons, List.map_nil]; rfl) ?_
        with_reducible refine (readR_calls f.b f.most _ HS.out).mono ?_
        rintro e w7 hrd
        rw [HRD.out] at hrd
        obtain ⟨A7, c7, rfl, hr7, hb⟩ := hrd
        have hE : ((((W.alloc (.cells #[.int .i64 0, .int .i64 0, .int .i64 0, .string ⟨#[]⟩, .int .i64 0, .int .i64 0, .bool false, .int .i64 0, .int .i64 0, .int .i64 0, .slice none 0 0] 24)).alloc (.cells #[.int .i64 0, .int .i64 0] 35)).drew)).heap.size = W.heap.size + 2 := by simp [World.size_alloc, World.drew]
        have hE7 := hb.size
        have hB4 := blk_lt I0.out.b4
        have KR_3 : Aside0 (Kd.R k32 32 w7 w.heap.size (fun k => W.heap.size + 2 ≤ k ∧ k < w7.heap.size) (.slice A7 R.fr.ps.length c7) R.fr.ps) := ⟨Kd.R_lower (Kd.R_mono (Kd.R_bound hr7) (fun k hk => ⟨by rw [← hE]; exact hk.2.1, hk.2.2.1⟩)) hHeld.2.2.chg.size⟩
        have HE7 : Aside0 (W.heap.size + 2 ≤ w7.heap.size ∧ g4 < W.heap.size) := ⟨by rw [← hE]; exact hE7, hB4⟩
        clear hE hE7 hB4
        have B13_3 : Aside0 (At w7 (W.heap.size) Fr.zero none 0) := ⟨blk_below B13_2.out hb⟩
        have B14_3 : Aside0 (w7.heap[W.heap.size + 1]? = some (.cells #[.int .i64 0, .int .i64 0] 35 (0, 0))) := ⟨blk_below B14_2.out hb⟩
        unfold Fr.cells
        refine ⟨_, rfl, ?_⟩
        refine hK.out _ _ ⟨(hHeld.2.2.below hb).fd.c2, (hHeld.2.2.below hb).fd.c1, hHeld.2.2.below hb⟩ (fun hHeld => ?_)
        clear hK K
        refine norm_ (a' := ?_) ?_ ?_
        rotate_left
        · show Act.put _ (some 80) _ = _
          simp only [Act.put, List.setIfInBounds_toArray, List.set_cons_zero, List.set_cons_succ, i64_w, i32_w]
          rfl
        refine pure_ (i := 9) (N := some 71) (v := ?_) (a' := ?_) #[true, true, true, true, true, true, true, true, true, true, false, false, false, true, true, false, false, false] rfl rfl (by kernel_rfl) (fun _ _ _ h => h) (Or.inl ⟨by rfl, ?_⟩) ?_ ?_
        rotate_left
        · intro w'
          go_simp
          with_reducible rfl
        rotate_left
        · simp only [Act.put, List.setIfInBounds_toArray, List.set_cons_zero, List.set_cons_succ, i64_w, i32_w]
          rfl
        refine pure_ (i := 10) (N := some 81) (v := ?_) (a' := ?_) #[true, true, true, true, true, true, true, true, true, true, true, false, false, true, true, false, false, false] rfl rfl (by kernel_rfl) (fun _ _ _ h => h) (Or.inl ⟨by rfl, ?_⟩) ?_ ?_
        rotate_left
        · intro w'
          go_simp
          with_reducible rfl
        rotate_left
        · simp only [Act.put, List.setIfInBounds_toArray, List.set_cons_zero, List.set_cons_succ, i64_w, i32_w]
          rfl
        refine pure_ (i := 11) (N := some 82) (v := ?_) (a' := ?_) #[true, true, true, true, true, true, true, true, true, true, true, true, false, true, true, false, false, false] rfl rfl (by kernel_rfl) (fun _ _ _ h => h) (Or.inl ⟨by rfl, ?_⟩) ?_ ?_
        rotate_left
        · intro w'
          go_simp
          with_reducible rfl
        rotate_left
        · simp only [Act.put, List.setIfInBounds_toArray, List.set_cons_zero, List.set_cons_succ, i64_w, i32_w]
          rfl
        refine pure_ (i := 12) (N := some 83) (v := ?_) (a' := ?_) #[true, true, true, true, true, true, true, true, true, true, true, true, true, true, true, false, false, false] rfl rfl (by kernel_rfl) (fun _ _ _ h => h) (Or.inl ⟨by rfl, ?_⟩) ?_ ?_
        rotate_left
        · intro w'
          go_simp
          with_reducible rfl
        rotate_left
        · simp only [Act.put, List.setIfInBounds_toArray, List.set_cons_zero, List.set_cons_succ, i64_w, i32_w]
          rfl
        exact norm_ (by simp only [putAll, Act.put, List.setIfInBounds_toArray, List.set_cons_zero, List.set_cons_succ]) (hCont (W.heap.size, W.heap.size + 1, A7, c7) _ ⟨hHeld.2.2, B13_3.out, B14_3.out, Kd.R_mono KR_3.out (fun k hk => by have hk1 : W.heap.size + 2 ≤ k ∧ k < w7.heap.size := hk; have := HE7.out; show g4 < k ∧ k ≠ W.heap.size ∧ k ≠ W.heap.size + 1; omega), by have := HE7.out; show g4 < W.heap.size ∧ g4 < W.heap.size + 1 ∧ W.heap.size ≠ W.heap.size + 1; omega⟩)
    · skip
      refine value_ (w1 := ?_) (v := ?_) (by rfl) rfl ?_ ?_
      rotate_left 2
      · go_simp
        constructor
        · rfl
        · rfl
      have B14_1 : Aside0 (((W.alloc (.cells #[.int .i64 0, .int .i64 0] 35)).drew).heap[W.heap.size]? = some (.cells #[.int .i64 0, .int .i64 0] 35 (0, 0))) := ⟨by have h := blk_new W (.cells #[.int .i64 0, .int .i64 0] 35); exact blk_below h (below_drew (Below.refl _ _))⟩
      refine hK.out _ _ ⟨(hHeld.2.2.below (below_alloc (Below.refl _ _) _)).fd.c2, (hHeld.2.2.below (below_alloc (Below.refl _ _) _)).fd.c1, hHeld.2.2.below (below_alloc (Below.refl _ _) _)⟩ (fun hHeld => ?_)
      clear hK K
      refine norm_ (a' := ?_) ?_ ?_
      rotate_left
      · show Act.put _ (some 8) _ = _
        simp only [Act.put, List.setIfInBounds_toArray, List.set_cons_zero, List.set_cons_succ, i64_w, i32_w]
        rfl
      refine two_ (i := 8) (j := 13) (Ni := some 80) (Nj := some 6) #[true, true, true, true, true, true, true, true, true, false, false, false, false, false, true, false, false, false] #[true, true, true, true, true, true, true, true, false, false, false, false, false, true, true, false, false, false] rfl rfl rfl rfl (by kernel_rfl) (by decide) (by decide) (fun K hK => ?_) (fun K hK => ?_)
      · skip
        refine goes_ Tryd.func21 (by kernel_rfl) rfl #[.string f.b, .int .i64 f.most] (by rfl) rfl rfl (by simp only [List.map_toArray, List.map_cons, List.map_nil]; rfl) ?_
        with_reducible refine (readR_calls f.b f.most _ HS.out).mono ?_
        rintro e w7 hrd
        rw [HRD.out] at hrd
        obtain ⟨A7, c7, rfl, hr7, hb⟩ := hrd
        have hE : (((W.alloc (.cells #[.int .i64 0, .int .i64 0] 35)).drew)).heap.size = W.heap.size + 1 := by simp [World.size_alloc, World.drew]
        have hE7 := hb.size
        have hB4 := blk_lt I0.out.b4
        have KR_2 : Aside0 (Kd.R k32 32 w7 w.heap.size (fun k => W.heap.size + 1 ≤ k ∧ k < w7.heap.size) (.slice A7 R.fr.ps.length c7) R.fr.ps) := ⟨Kd.R_lower (Kd.R_mono (Kd.R_bound hr7) (fun k hk => ⟨by rw [← hE]; exact hk.2.1, hk.2.2.1⟩)) hHeld.2.2.chg.size⟩
        have HE7 : Aside0 (W.heap.size + 1 ≤ w7.heap.size ∧ g4 < W.heap.size) := ⟨by rw [← hE]; exact hE7, hB4⟩
        clear hE hE7 hB4
        have B14_2 : Aside0 (w7.heap[W.heap.size]? = some (.cells #[.int .i64 0, .int .i64 0] 35 (0, 0))) := ⟨blk_below B14_1.out hb⟩
        unfold Fr.cells
        refine ⟨_, rfl, ?_⟩
        refine hK.out _ _ ⟨(hHeld.2.2.below hb).fd.c2, (hHeld.2.2.below hb).fd.c1, hHeld.2.2.below hb⟩ (fun hHeld => ?_)
        clear hK K
        refine norm_ (a' := ?_) ?_ ?_
        rotate_left
        · show Act.put _ (some 80) _ = _
          simp only [Act.put, List.setIfInBounds_toArray, List.set_cons_zero, List.set_cons_succ, i64_w, i32_w]
          rfl
        refine pure_ (i := 9) (N := some 71) (v := ?_) (a' := ?_) #[true, true, true, true, true, true, true, true, true, true, false, false, false, false, true, false, false, false] rfl rfl (by kernel_rfl) (fun _ _ _ h => h) (Or.inl ⟨by rfl, ?_⟩) ?_ ?_
        rotate_left
        · intro w'
          go_simp
          with_reducible rfl
        rotate_left
        · simp only [Act.put, List.setIfInBounds_toArray, List.set_cons_zero, List.set_cons_succ, i64_w, i32_w]
          rfl
        refine pure_ (i := 10) (N := some 81) (v := ?_) (a' := ?_) #[true, true, true, true, true, true, true, true, true, true, true, false, false, false, true, false, false, false] rfl rfl (by kernel_rfl) (fun _ _ _ h => h) (Or.inl ⟨by rfl, ?_⟩) ?_ ?_
        rotate_left
        · intro w'
          go_simp
          with_reducible rfl
        rotate_left
        · simp only [Act.put, List.setIfInBounds_toArray, List.set_cons_zero, List.set_cons_succ, i64_w, i32_w]
          rfl
        refine pure_ (i := 11) (N := some 82) (v := ?_) (a' := ?_) #[true, true, true, true, true, true, true, true, true, true, true, true, false, false, true, false, false, false] rfl rfl (by kernel_rfl) (fun _ _ _ h => h) (Or.inl ⟨by rfl, ?_⟩) ?_ ?_
        rotate_left
        · intro w'
          go_simp
          with_reducible rfl
        rotate_left
        · simp only [Act.put, List.setIfInBounds_toArray, List.set_cons_zero, List.set_cons_succ, i64_w, i32_w]
          rfl
        refine pure_ (i := 12) (N := some 83) (v := ?_) (a' := ?_) #[true, true, true, true, true, true, true, true, true, true, true, true, true, false, true, false, false, false] rfl rfl (by kernel_rfl) (fun _ _ _ h => h) (Or.inl ⟨by rfl, ?_⟩) ?_ ?_
        rotate_left
        · intro w'
          go_simp
          with_reducible rfl
        rotate_left
        · simp only [Act.put, List.setIfInBounds_toArray, List.set_cons_zero, List.set_cons_succ, i64_w, i32_w]
          rfl
        refine one_ (i := 13) (N := some 6) #[true, true, true, true, true, true, true, true, true, true, true, true, true, true, true, false, false, false] rfl rfl (by kernel_rfl) (by decide) (fun K hK => ?_)
        refine value_ (w1 := ?_) (v := ?_) (by rfl) rfl ?_ ?_
        rotate_left 2
        · go_simp
          constructor
          · rfl
          · rfl
        have B14_3 : Aside0 ((w7.alloc (.cells #[.int .i64 0, .int .i64 0, .int .i64 0, .string ⟨#[]⟩, .int .i64 0, .int .i64 0, .bool false, .int .i64 0, .int .i64 0, .int .i64 0, .slice none 0 0] 24)).heap[W.heap.size]? = some (.cells #[.int .i64 0, .int .i64 0] 35 (0, 0))) := ⟨blk_below B14_2.out (below_alloc (Below.refl _ _) _)⟩
        have KR_3 : Aside0 (Kd.R k32 32 (w7.alloc (.cells #[.int .i64 0, .int .i64 0, .int .i64 0, .string ⟨#[]⟩, .int .i64 0, .int .i64 0, .bool false, .int .i64 0, .int .i64 0, .int .i64 0, .slice none 0 0] 24)) w.heap.size (fun k => W.heap.size + 1 ≤ k ∧ k < w7.heap.size) (.slice A7 R.fr.ps.length c7) R.fr.ps) := ⟨Kd.R_below KR_2.out (below_alloc (Below.refl _ _) _)⟩
        have B13_3 : Aside0 (At (w7.alloc (.cells #[.int .i64 0, .int .i64 0, .int .i64 0, .string ⟨#[]⟩, .int .i64 0, .int .i64 0, .bool false, .int .i64 0, .int .i64 0, .int .i64 0, .slice none 0 0] 24)) (w7.heap.size) Fr.zero none 0) := ⟨by have h := zero_new w7; exact h⟩
        refine hK.out _ _ ⟨(hHeld.2.2.below (below_alloc (Below.refl _ _) _)).fd.c2, (hHeld.2.2.below (below_alloc (Below.refl _ _) _)).fd.c1, hHeld.2.2.below (below_alloc (Below.refl _ _) _)⟩ (fun hHeld => ?_)
        clear hK K
        refine norm_ (a' := ?_) ?_ ?_
        rotate_left
        · show Act.put _ (some 6) _ = _
          simp only [Act.put, List.setIfInBounds_toArray, List.set_cons_zero, List.set_cons_succ, i64_w, i32_w]
          rfl
        exact norm_ (by simp only [putAll, Act.put, List.setIfInBounds_toArray, List.set_cons_zero, List.set_cons_succ]) (hCont (w7.heap.size, W.heap.size, A7, c7) _ ⟨hHeld.2.2, B13_3.out, B14_3.out, Kd.R_mono KR_3.out (fun k hk => by have hk1 : W.heap.size + 1 ≤ k ∧ k < w7.heap.size := hk; have := HE7.out; show g4 < k ∧ k ≠ w7.heap.size ∧ k ≠ W.heap.size; omega), by have := HE7.out; show g4 < w7.heap.size ∧ g4 < W.heap.size ∧ w7.heap.size ≠ W.heap.size; omega⟩)
      · skip
        refine value_ (w1 := ?_) (v := ?_) (by rfl) rfl ?_ ?_
        rotate_left 2
        · go_simp
          constructor
          · rfl
          · rfl
        have B14_2 : Aside0 ((((W.alloc (.cells #[.int .i64 0, .int .i64 0] 35)).alloc (.cells #[.int .i64 0, .int .i64 0, .int .i64 0, .string ⟨#[]⟩, .int .i64 0, .int .i64 0, .bool false, .int .i64 0, .int .i64 0, .int .i64 0, .slice none 0 0] 24)).drew).heap[W.heap.size]? = some (.cells #[.int .i64 0, .int .i64 0] 35 (0, 0))) := ⟨blk_below B14_1.out (below_alloc (Below.refl _ _) _)⟩
        have B13_2 : Aside0 (At (((W.alloc (.cells #[.int .i64 0, .int .i64 0] 35)).alloc (.cells #[.int .i64 0, .int .i64 0, .int .i64 0, .string ⟨#[]⟩, .int .i64 0, .int .i64 0, .bool false, .int .i64 0, .int .i64 0, .int .i64 0, .slice none 0 0] 24)).drew) (W.heap.size + 1) Fr.zero none 0) := ⟨by have h := zero_new (W.alloc (.cells #[.int .i64 0, .int .i64 0] 35)); simp only [World.size_alloc] at h; exact blk_below h (below_drew (Below.refl _ _))⟩
        refine hK.out _ _ ⟨(hHeld.2.2.below (below_alloc (Below.refl _ _) _)).fd.c2, (hHeld.2.2.below (below_alloc (Below.refl _ _) _)).fd.c1, hHeld.2.2.below (below_alloc (Below.refl _ _) _)⟩ (fun hHeld => ?_)
        clear hK K
        refine norm_ (a' := ?_) ?_ ?_
        rotate_left
        · show Act.put _ (some 6) _ = _
          simp only [Act.put, List.setIfInBounds_toArray, List.set_cons_zero, List.set_cons_succ, i64_w, i32_w]
          rfl
        refine one_ (i := 8) (N := some 80) #[true, true, true, true, true, true, true, true, true, false, false, false, false, true, true, false, false, false] rfl rfl (by kernel_rfl) (by decide) (fun K hK => ?_)
        refine goes_ Tryd.func21 (by kernel_rfl) rfl #[.string f.b, .int .i64 f.most] (by rfl) rfl rfl (by simp only [List.map_toArray, List.map_cons, List.map_nil]; rfl) ?_
        with_reducible refine (readR_calls f.b f.most _ HS.out).mono ?_
        rintro e w7 hrd
        rw [HRD.out] at hrd
        obtain ⟨A7, c7, rfl, hr7, hb⟩ := hrd
        have hE : ((((W.alloc (.cells #[.int .i64 0, .int .i64 0] 35)).alloc (.cells #[.int .i64 0, .int .i64 0, .int .i64 0, .string ⟨#[]⟩, .int .i64 0, .int .i64 0, .bool false, .int .i64 0, .int .i64 0, .int .i64 0, .slice none 0 0] 24)).drew)).heap.size = W.heap.size + 2 := by simp [World.size_alloc, World.drew]
        have hE7 := hb.size
        have hB4 := blk_lt I0.out.b4
        have KR_3 : Aside0 (Kd.R k32 32 w7 w.heap.size (fun k => W.heap.size + 2 ≤ k ∧ k < w7.heap.size) (.slice A7 R.fr.ps.length c7) R.fr.ps) := ⟨Kd.R_lower (Kd.R_mono (Kd.R_bound hr7) (fun k hk => ⟨by rw [← hE]; exact hk.2.1, hk.2.2.1⟩)) hHeld.2.2.chg.size⟩
        have HE7 : Aside0 (W.heap.size + 2 ≤ w7.heap.size ∧ g4 < W.heap.size) := ⟨by rw [← hE]; exact hE7, hB4⟩
        clear hE hE7 hB4
        have B14_3 : Aside0 (w7.heap[W.heap.size]? = some (.cells #[.int .i64 0, .int .i64 0] 35 (0, 0))) := ⟨blk_below B14_2.out hb⟩
        have B13_3 : Aside0 (At w7 (W.heap.size + 1) Fr.zero none 0) := ⟨blk_below B13_2.out hb⟩
        unfold Fr.cells
        refine ⟨_, rfl, ?_⟩
        refine hK.out _ _ ⟨(hHeld.2.2.below hb).fd.c2, (hHeld.2.2.below hb).fd.c1, hHeld.2.2.below hb⟩ (fun hHeld => ?_)
        clear hK K
        refine norm_ (a' := ?_) ?_ ?_
        rotate_left
        · show Act.put _ (some 80) _ = _
          simp only [Act.put, List.setIfInBounds_toArray, List.set_cons_zero, List.set_cons_succ, i64_w, i32_w]
          rfl
        refine pure_ (i := 9) (N := some 71) (v := ?_) (a' := ?_) #[true, true, true, true, true, true, true, true, true, true, false, false, false, true, true, false, false, false] rfl rfl (by kernel_rfl) (fun _ _ _ h => h) (Or.inl ⟨by rfl, ?_⟩) ?_ ?_
        rotate_left
        · intro w'
          go_simp
          with_reducible rfl
        rotate_left
        · simp only [Act.put, List.setIfInBounds_toArray, List.set_cons_zero, List.set_cons_succ, i64_w, i32_w]
          rfl
        refine pure_ (i := 10) (N := some 81) (v := ?_) (a' := ?_) #[true, true, true, true, true, true, true, true, true, true, true, false, false, true, true, false, false, false] rfl rfl (by kernel_rfl) (fun _ _ _ h => h) (Or.inl ⟨by rfl, ?_⟩) ?_ ?_
        rotate_left
        · intro w'
          go_simp
          with_reducible rfl
        rotate_left
        · simp only [Act.put, List.setIfInBounds_toArray, List.set_cons_zero, List.set_cons_succ, i64_w, i32_w]
          rfl
        refine pure_ (i := 11) (N := some 82) (v := ?_) (a' := ?_) #[true, true, true, true, true, true, true, true, true, true, true, true, false, true, true, false, false, false] rfl rfl (by kernel_rfl) (fun _ _ _ h => h) (Or.inl ⟨by rfl, ?_⟩) ?_ ?_
        rotate_left
        · intro w'
          go_simp
          with_reducible rfl
        rotate_left
        · simp only [Act.put, List.setIfInBounds_toArray, List.set_cons_zero, List.set_cons_succ, i64_w, i32_w]
          rfl
        refine pure_ (i := 12) (N := some 83) (v := ?_) (a' := ?_) #[true, true, true, true, true, true, true, true, true, true, true, true, true, true, true, false, false, false] rfl rfl (by kernel_rfl) (fun _ _ _ h => h) (Or.inl ⟨by rfl, ?_⟩) ?_ ?_
        rotate_left
        · intro w'
          go_simp
          with_reducible rfl
        rotate_left
        · simp only [Act.put, List.setIfInBounds_toArray, List.set_cons_zero, List.set_cons_succ, i64_w, i32_w]
          rfl
        exact norm_ (by simp only [putAll, Act.put, List.setIfInBounds_toArray, List.set_cons_zero, List.set_cons_succ]) (hCont (W.heap.size + 1, W.heap.size, A7, c7) _ ⟨hHeld.2.2, B13_3.out, B14_3.out, Kd.R_mono KR_3.out (fun k hk => by have hk1 : W.heap.size + 2 ≤ k ∧ k < w7.heap.size := hk; have := HE7.out; show g4 < k ∧ k ≠ W.heap.size + 1 ∧ k ≠ W.heap.size; omega), by have := HE7.out; show g4 < W.heap.size + 1 ∧ g4 < W.heap.size ∧ W.heap.size + 1 ≠ W.heap.size; omega⟩)
  rintro ⟨g6, g8, A7, c7⟩ w13 hHX
  have hHeld := And.intro hHX.i.fd.c2 (And.intro hHX.i.fd.c1 hHX.i)
  have X13 := Aside0.mk hHX
  clear hHX
  refine norm_ (a' := ?_) ?_ ?_
  rotate_left
  · simp only [putAll, Act.put, List.setIfInBounds_toArray, List.set_cons_zero, List.set_cons_succ]
    rfl
  refine last_ (i := 15) (N := none) #[true, true, true, true, true, true, true, true, true, true, true, true, true, true, true, true, false, false] rfl rfl (by kernel_rfl) (by decide) (fun K hK => ?_)
  refine skip_row 24 _ _ rfl (by rfl) rfl g6 #[.int .i64 R.fr.ty, .int .i64 R.fr.fl, .int .i64 R.fr.st, .string R.fr.da, .int .i64 R.fr.pad, .int .i64 R.fr.dep, .bool R.fr.ex, .int .i64 R.fr.wt, .int .i64 R.fr.co, .int .i64 R.fr.la, .slice A7 R.fr.ps.length c7] rfl rfl 24 _ X13.out.b6 (by kernel_rfl) (by kernel_rfl) (by kernel_rfl) ?_
  obtain ⟨W8, e8, q4, qo, qb⟩ := row_store _ g6 #[.int .i64 R.fr.ty, .int .i64 R.fr.fl, .int .i64 R.fr.st, .string R.fr.da, .int .i64 R.fr.pad, .int .i64 R.fr.dep, .bool R.fr.ex, .int .i64 R.fr.wt, .int .i64 R.fr.co, .int .i64 R.fr.la, .slice A7 R.fr.ps.length c7] 24 _ X13.out.b6
  rw [e8]
  have X14 := Aside0.mk (X13.out.row6 (x6' := R.fr) (A6' := A7) (c6' := c7) q4 qo qb)
  clear q4 qo qb e8 X13
  refine hK.out _ _ ?_
  clear hK K
  refine pure_ (i := 16) (N := some 7) (v := ?_) (a' := ?_) #[true, true, true, true, true, true, true, true, true, true, true, true, true, true, true, true, true, false] rfl rfl (by kernel_rfl) (fun _ _ _ h => h) (Or.inl ⟨by rfl, ?_⟩) ?_ ?_
  rotate_left
  · intro w'
    go_simp
    with_reducible rfl
  rotate_left
  · simp only [Act.put, List.setIfInBounds_toArray, List.set_cons_zero, List.set_cons_succ, i64_w, i32_w]
    rfl
  refine last_ (i := 17) (N := none) #[true, true, true, true, true, true, true, true, true, true, true, true, true, true, true, true, true, true] rfl rfl (by kernel_rfl) (by decide) (fun K hK => ?_)
  refine skip_row 35 _ _ rfl (by rfl) rfl g8 #[.int .i64 R.code, .int .i64 R.st] rfl rfl 35 _ X14.out.b8 (by kernel_rfl) (by kernel_rfl) (by kernel_rfl) ?_
  obtain ⟨W9, e9, p6, po, pb⟩ := row_store _ g8 #[.int .i64 R.code, .int .i64 R.st] 35 _ X14.out.b8
  rw [e9]
  have X15 := Aside0.mk (X14.out.row8 p6 po pb)
  clear p6 po pb e9 X14
  refine hK.out _ _ ?_
  clear hK K
  refine done_ (by kernel_rfl) ?_
  refine HKK.out _ _ ?_
  clear HKK hHeld I0
  obtain ⟨q, hq⟩ : ∃ q : Nat, R.no = q := ⟨R.no.toNat, by have := HNO.out; omega⟩
  have HQ := Aside0.mk hq
  have hq1 : (q : Int) ≤ (f.b.size : Int) := by have := HNO.out; omega
  have hq0 : (0 : Int) ≤ (q : Int) := by omega
  rw [hq]
  clear hq
  have k0 := blk_cell X15.out.b8 0
  have k1 := blk_cell X15.out.b8 1
  by_cases hc : R.code = 0
  · have bc : (R.code != 0) = false := by rw [hc]; rfl
    have HC := Aside0.mk hc
    clear hc
    by_cases hn : q = 0
    · have HN := Aside0.mk hn
      have hn1 : ((q : Int) == 0) = true := by rw [hn]; rfl
      have hn2 : (q == 0) = true := by rw [hn]; rfl
      clear hn
      go_wp2_with (first
        | (refine wpList_store_row rfl 24 _ _ rfl g2 (#[.int .i64 0, .int .i64 0, .int .i64 0, .string ⟨#[]⟩, .int .i64 0, .int .i64 0, .bool false, .int .i64 0, .int .i64 0, .int .i64 0, .slice none 0 0]) rfl rfl 24 _ X15.out.i.b2 (by kernel_rfl) (by kernel_rfl) (by kernel_rfl) ?_; obtain ⟨W8, e8, q4, qo, qb⟩ := row_store _ g2 (#[.int .i64 0, .int .i64 0, .int .i64 0, .string ⟨#[]⟩, .int .i64 0, .int .i64 0, .bool false, .int .i64 0, .int .i64 0, .int .i64 0, .slice none 0 0]) 24 _ X15.out.i.b2; rw [e8]; have X20 := Aside0.mk (X15.out.row2 (x' := Fr.zero) (A' := none) (c' := 0) q4 qo qb); clear q4 qo qb e8)
        | (refine wpList_store_row rfl 35 _ _ rfl g4 #[.int .i64 0, .int .i64 0] rfl rfl 35 _ X20.out.i.b4 (by kernel_rfl) (by kernel_rfl) (by kernel_rfl) ?_; obtain ⟨W9, e9, p6, po, pb⟩ := row_store _ g4 #[.int .i64 0, .int .i64 0] 35 _ X20.out.i.b4; rw [e9]; have X21 := Aside0.mk (X20.out.row4 p6 po pb); clear p6 po pb e9))
      have e : F = (f, ⟨Fr.zero, false, 0, 0⟩) := by
        rw [← HRF.out, if_neg (fun h => h.1 HC.out), if_neg (fun h => h HC.out), if_pos (by rw [HQ.out, HN.out]; rfl)]
      rw [e]
      exact bodyPost_ret (res40 _ _ g2 g4 Fr.zero none 0 false 0 0 rfl rfl rfl X21.out.i.b2 X21.out.i.b4) rfl ⟨none, 0, rfl, Kd.R_nil _ _ _ _ _, X21.out.i.fd, X21.out.i.chg⟩
    · have HN := Aside0.mk hn
      have hn1 : ((q : Int) == 0) = false := beq_eq_false_iff_ne.mpr (by omega)
      have hn2 : (q == 0) = false := beq_eq_false_iff_ne.mpr hn
      clear hn
      have z2 := X15.out.i.fd.c2
      have y2 := X15.out.i.fd.fz 2
      go_upto_region 22 with fail
      clear z2 y2 k0 k1
      obtain ⟨W10, hW⟩ : ∃ W', (W9.setCell ⟨g, 2, none⟩ (.string (f.b.extract q f.b.size))) = W' := ⟨_, rfl⟩
      have X16 : Aside0 (YX w W10 g g2 g4 g6 g8 { f with b := f.b.extract q f.b.size } Fr.zero none 0 0 0 R.fr A7 c7 R.code R.st A7 c7 R.fr.ps) := ⟨by rw [← hW]; exact X15.out.feed (X15.out.i.fd.put2 _) (Chg.set _ _ _)⟩
      rw [hW]
      clear hW X15
      go_wp2_with (first
        | (refine wpList_load_row rfl 24 _ rfl g6 rfl 24 #[.int .i64 R.fr.ty, .int .i64 R.fr.fl, .int .i64 R.fr.st, .string R.fr.da, .int .i64 R.fr.pad, .int .i64 R.fr.dep, .bool R.fr.ex, .int .i64 R.fr.wt, .int .i64 R.fr.co, .int .i64 R.fr.la, .slice A7 R.fr.ps.length c7] (0, 0) _ X16.out.b6 Tryd.underlying24 (by rfl) (by kernel_rfl) ?_)
        | (refine wpList_store_row rfl 24 _ _ rfl g2 (#[.int .i64 R.fr.ty, .int .i64 R.fr.fl, .int .i64 R.fr.st, .string R.fr.da, .int .i64 R.fr.pad, .int .i64 R.fr.dep, .bool R.fr.ex, .int .i64 R.fr.wt, .int .i64 R.fr.co, .int .i64 R.fr.la, .slice A7 R.fr.ps.length c7]) rfl rfl 24 _ X16.out.i.b2 (by kernel_rfl) (by kernel_rfl) (by kernel_rfl) ?_; obtain ⟨W8, e8, q4, qo, qb⟩ := row_store _ g2 (#[.int .i64 R.fr.ty, .int .i64 R.fr.fl, .int .i64 R.fr.st, .string R.fr.da, .int .i64 R.fr.pad, .int .i64 R.fr.dep, .bool R.fr.ex, .int .i64 R.fr.wt, .int .i64 R.fr.co, .int .i64 R.fr.la, .slice A7 R.fr.ps.length c7]) 24 _ X16.out.i.b2; rw [e8]; have X20 := Aside0.mk (X16.out.row2 (x' := R.fr) (A' := A7) (c' := c7) q4 qo qb); clear q4 qo qb e8)
        | (refine wpList_store_row rfl 35 _ _ rfl g4 #[.int .i64 0, .int .i64 0] rfl rfl 35 _ X20.out.i.b4 (by kernel_rfl) (by kernel_rfl) (by kernel_rfl) ?_; obtain ⟨W9, e9, p6, po, pb⟩ := row_store _ g4 #[.int .i64 0, .int .i64 0] 35 _ X20.out.i.b4; rw [e9]; have X21 := Aside0.mk (X20.out.row4 p6 po pb); clear p6 po pb e9))
      have e : F = ({ f with b := f.b.extract q f.b.size }, ⟨R.fr, true, 0, 0⟩) := by
        rw [← HRF.out, if_neg (fun h => h.1 HC.out), if_neg (fun h => h HC.out), if_neg (by rw [HQ.out]; have := HN.out; omega), HQ.out, Int.toNat_natCast]
      rw [e]
      exact bodyPost_ret (res40 _ _ g2 g4 R.fr A7 c7 true 0 0 rfl rfl rfl X21.out.i.b2 X21.out.i.b4) rfl ⟨A7, c7, rfl, Kd.R_mono X21.out.kr (fun _ _ => trivial), X21.out.i.fd, X21.out.i.chg⟩
  · have bc : (R.code != 0) = true := bne_iff_ne.mpr hc
    have HC := Aside0.mk hc
    clear hc
    by_cases hst : R.st = 0
    · have bs : (R.st == 0) = true := beq_iff_eq.mpr hst
      have HST := Aside0.mk hst
      clear hst
      go_wp2_with (first
        | (go_at_call 70; refine (breaks7_calls g f R.code R.st _ X15.out.i.fd).mono ?_; rintro e w16 ⟨rfl, hd, hch⟩; have X16 := Aside0.mk (X15.out.feed hd hch); clear hd hch)
        | (refine wpList_store_row rfl 24 _ _ rfl g2 (#[.int .i64 0, .int .i64 0, .int .i64 0, .string ⟨#[]⟩, .int .i64 0, .int .i64 0, .bool false, .int .i64 0, .int .i64 0, .int .i64 0, .slice none 0 0]) rfl rfl 24 _ X16.out.i.b2 (by kernel_rfl) (by kernel_rfl) (by kernel_rfl) ?_; obtain ⟨W8, e8, q4, qo, qb⟩ := row_store _ g2 (#[.int .i64 0, .int .i64 0, .int .i64 0, .string ⟨#[]⟩, .int .i64 0, .int .i64 0, .bool false, .int .i64 0, .int .i64 0, .int .i64 0, .slice none 0 0]) 24 _ X16.out.i.b2; rw [e8]; have X20 := Aside0.mk (X16.out.row2 (x' := Fr.zero) (A' := none) (c' := 0) q4 qo qb); clear q4 qo qb e8)
        | (refine wpList_store_row rfl 35 _ _ rfl g4 #[.int .i64 R.code, .int .i64 R.st] rfl rfl 35 _ X20.out.i.b4 (by kernel_rfl) (by kernel_rfl) (by kernel_rfl) ?_; obtain ⟨W9, e9, p6, po, pb⟩ := row_store _ g4 #[.int .i64 R.code, .int .i64 R.st] 35 _ X20.out.i.b4; rw [e9]; have X21 := Aside0.mk (X20.out.row4 p6 po pb); clear p6 po pb e9))
      have e : F = ({ f with b := ByteArray.empty, code := R.code, st := R.st }, ⟨Fr.zero, false, R.code, R.st⟩) := by
        rw [← HRF.out, if_pos ⟨HC.out, HST.out⟩]
      rw [e]
      exact bodyPost_ret (res40 _ _ g2 g4 Fr.zero none 0 false R.code R.st rfl rfl rfl X21.out.i.b2 X21.out.i.b4) rfl ⟨none, 0, rfl, Kd.R_nil _ _ _ _ _, X21.out.i.fd, X21.out.i.chg⟩
    · have bs : (R.st == 0) = false := beq_eq_false_iff_ne.mpr hst
      have HST := Aside0.mk hst
      clear hst
      have z2 := X15.out.i.fd.c2
      have y2 := X15.out.i.fd.fz 2
      go_upto_region 18 with fail
      clear z2 y2 k0 k1
      obtain ⟨W10, hW⟩ : ∃ W', (W9.setCell ⟨g, 2, none⟩ (.string (f.b.extract q f.b.size))) = W' := ⟨_, rfl⟩
      obtain ⟨fe, hfe⟩ : ∃ fe : Dc, { f with b := f.b.extract q f.b.size } = fe := ⟨_, rfl⟩
      have HFE := Aside0.mk hfe
      have X16 : Aside0 (YX w W10 g g2 g4 g6 g8 fe Fr.zero none 0 0 0 R.fr A7 c7 R.code R.st A7 c7 R.fr.ps) := ⟨by rw [← hW, ← hfe]; exact X15.out.feed (X15.out.i.fd.put2 _) (Chg.set _ _ _)⟩
      rw [hW]
      clear hW hfe X15
      refine start_ (n := 5) (S := fun w' => w'.cell? ⟨g8, 0, none⟩ = some (.int .i64 R.code) ∧ w'.cell? ⟨g8, 1, none⟩ = some (.int .i64 R.st) ∧ ∃ x A c, YX w w' g g2 g4 g6 g8 fe x A c 0 0 R.fr A7 c7 R.code R.st A7 c7 R.fr.ps) (ds := [4]) #[false, false, false, false, false] (by kernel_rfl) rfl rfl ⟨blk_cell (X16.out.below (below_drew (Below.refl _ _))).b8 0, blk_cell (X16.out.below (below_drew (Below.refl _ _))).b8 1, ⟨_, _, _, (X16.out.below (below_drew (Below.refl _ _)))⟩⟩ (fun hHeld => ?_)
      refine pure_ (i := 0) (N := some 112) (v := ?_) (a' := ?_) #[true, false, false, false, false] rfl rfl (by kernel_rfl) (fun _ _ _ h => h) (Or.inl ⟨by rfl, ?_⟩) ?_ ?_
      rotate_left
      · intro w'
        go_simp
        with_reducible rfl
      rotate_left
      · simp only [Act.put, List.setIfInBounds_toArray, List.set_cons_zero, List.set_cons_succ, i64_w, i32_w]
        rfl
      refine take_ (i := 1) (N := some 113) (v := ?_) (a' := ?_) #[true, true, false, false, false] rfl rfl (by kernel_rfl) (fun _ _ _ h => h) (Or.inl ⟨by rfl, ?_⟩) hHeld ?_ ?_
      rotate_left
      · rintro w' ⟨s0, s1, s2⟩
        go_simp
        with_reducible rfl
      rotate_left
      · simp only [Act.put, List.setIfInBounds_toArray, List.set_cons_zero, List.set_cons_succ, i64_w, i32_w]
        rfl
      refine one_ (i := 2) (N := none) #[true, true, true, false, false] rfl rfl (by kernel_rfl) (by decide) (fun K hK => ?_)
      obtain ⟨x0, A0, c0, hI⟩ := hHeld.2.2
      refine skip_row 24 _ _ rfl (by rfl) rfl g2 #[.int .i64 0, .int .i64 0, .int .i64 0, .string ⟨#[]⟩, .int .i64 0, .int .i64 0, .bool false, .int .i64 0, .int .i64 0, .int .i64 0, .slice none 0 0] rfl rfl 24 _ hI.i.b2 (by kernel_rfl) (by kernel_rfl) (by kernel_rfl) ?_
      obtain ⟨W8, e8, q4, qo, qb⟩ := row_store _ g2 #[.int .i64 0, .int .i64 0, .int .i64 0, .string ⟨#[]⟩, .int .i64 0, .int .i64 0, .bool false, .int .i64 0, .int .i64 0, .int .i64 0, .slice none 0 0] 24 _ hI.i.b2
      rw [e8]
      have X17 := Aside0.mk (hI.row2 (x' := Fr.zero) (A' := none) (c' := 0) q4 qo qb)
      clear q4 qo qb e8 hI
      refine hK.out _ _ ⟨blk_cell X17.out.b8 0, blk_cell X17.out.b8 1, ⟨_, _, _, X17.out⟩⟩ (fun hHeld => ?_)
      clear hK K
      refine pure_ (i := 3) (N := some 3) (v := ?_) (a' := ?_) #[true, true, true, true, false] rfl rfl (by kernel_rfl) (fun _ _ _ h => h) (Or.inl ⟨by rfl, ?_⟩) ?_ ?_
      rotate_left
      · intro w'
        go_simp
        with_reducible rfl
      rotate_left
      · simp only [Act.put, List.setIfInBounds_toArray, List.set_cons_zero, List.set_cons_succ, i64_w, i32_w]
        rfl
      refine last_ (i := 4) (N := none) #[true, true, true, true, true] rfl rfl (by kernel_rfl) (by decide) (fun K hK => ?_)
      refine skip_row 35 _ _ rfl (by rfl) rfl g4 #[.int .i64 R.code, .int .i64 R.st] rfl rfl 35 _ X17.out.i.b4 (by kernel_rfl) (by kernel_rfl) (by kernel_rfl) ?_
      obtain ⟨W9, e9, p6, po, pb⟩ := row_store _ g4 #[.int .i64 R.code, .int .i64 R.st] 35 _ X17.out.i.b4
      rw [e9]
      have X18 := Aside0.mk (X17.out.row4 p6 po pb)
      clear p6 po pb e9 X17
      refine hK.out _ _ ?_
      clear hK K
      refine done_ (by kernel_rfl) ?_
      go_wp2_with fail
      have e : F = (fe, ⟨Fr.zero, false, R.code, R.st⟩) := by
        rw [← HRF.out, if_neg (fun h => HST.out h.2), if_pos HC.out, ← HFE.out, HQ.out, Int.toNat_natCast]
      rw [e]
      exact bodyPost_ret (res40 _ _ g2 g4 Fr.zero none 0 false R.code R.st rfl rfl rfl X18.out.i.b2 X18.out.i.b4) rfl ⟨none, 0, rfl, Kd.R_nil _ _ _ _ _, X18.out.i.fd, X18.out.i.chg⟩
end Go.Proofs.YtoffhlbdfhhhjaaDoor.Fr
