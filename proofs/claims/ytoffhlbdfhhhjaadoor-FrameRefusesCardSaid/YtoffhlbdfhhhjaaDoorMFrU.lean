/- Frames out of bytes: what SETTINGS take of their payload. The frame lies in a block of the call's own. -/
import Derived.Test.YtoffhlbdfhhhjaaDoorMFrT
namespace Go.Proofs.YtoffhlbdfhhhjaaDoor.Fr
open Go Go.RowKit Go.Proofs.YtoffhlbdfhhhjaaDoorW.PrintWords Go.Proofs.YtoffhlbdfhhhjaaDoorW.PrintLast Go.Proofs.YtoffhlbdfhhhjaaDoorW.PrintMore Go.Proofs.YtoffhlbdfhhhjaaDoor.QL
set_option linter.unusedSimpArgs false
set_option linter.unusedVariables false
set_option maxHeartbeats 40000000
set_option maxRecDepth 100000
theorem TInv.put10 {w0 w : World} {g : Nat} {f : Fr} {A : Option Addr} {c : Nat} (r : TInv w0 w g f A c) (ps : List S32) (A' : Option Addr) (c' : Nat) : TInv w0 (w.setCell ⟨g, 10, none⟩ (.slice A' ps.length c')) g { f with ps := ps } A' c' :=
  ⟨by have hb := blk_set r.own 10 (.slice A' ps.length c'); simpa [At, Fr.cells] using hb, r.low.setCell (p := ⟨g, 10, none⟩) r.ge _, r.ge⟩
/-- n params out of bytes. -/
def pars : Nat → List UInt8 → List S32
  | 0, _ => []
  | n + 1, l => ⟨numFrom 0 (l.take 2), numFrom 0 ((l.drop 2).take 4)⟩ :: pars n (l.drop 6)
theorem pars_length (n : Nat) (l : List UInt8) : (pars n l).length = n := by
  induction n generalizing l with
  | zero => rfl
  | succ n ih => simp [pars, ih]
theorem num_extract (p : ByteArray) (i j : Nat) : num (p.extract i j) = numFrom 0 ((p.data.toList.drop i).take (j - i)) := by
  unfold num
  rw [ByteArray.data_extract, Array.toList_extract, List.extract_eq_take_drop]
theorem list_extract (p : ByteArray) (i : Nat) : (p.extract i p.size).data.toList = p.data.toList.drop i := by
  rw [ByteArray.data_extract, Array.toList_extract, List.extract_eq_take_drop]
  exact List.take_of_length_le (by simp)
/-- The frame that is read, and its params' row. -/
structure PInv (w0 w : World) (g : Nat) (f : Fr) (v : Value) (A : Option Addr) (c : Nat) : Prop where
  inv : TInv w0 w g f A c
  val : v = .slice A f.ps.length c
  row : Kd.R k32 32 w w0.heap.size (fun k => k ≠ g) v f.ps
theorem PInv.below {w0 w w1 : World} {g : Nat} {f : Fr} {v : Value} {A : Option Addr} {c : Nat} (r : PInv w0 w g f v A c) (hb : Below w.heap.size w w1) : PInv w0 w1 g f v A c := ⟨r.inv.below hb, r.val, Kd.R_below r.row hb⟩
theorem full_text (p : ByteArray) (h : 0 < p.size) : (!p.toList.isEmpty) = true := by
  rw [ByteArray.toList_eq]
  cases hl : p.data.toList with
  | nil =>
    have : p.data.toList.length = p.size := rfl
    rw [hl] at this
    simp at this
    omega
  | cons a t => rfl
theorem no_text (p : ByteArray) (h : p.size = 0) : p.toList.isEmpty = true := by
  rw [ByteArray.toList_eq]
  have : p.data.toList.length = p.size := rfl
  rw [h] at this
  rw [List.eq_nil_of_length_eq_zero this]
  rfl
theorem takeParams_no (g : Nat) (f : Fr) (A : Option Addr) (c : Nat) (p : ByteArray) (w0 w : World) (hf : At w g f A c) (hlow : Below w0.heap.size w0 w) (hge : w0.heap.size ≤ g) (h : ((p.size % 6 = 0) = False) ∨ (has f.fl 1 = true ∧ 0 < p.size)) (h63 : p.size ≤ 9223372036854775807) :
    Calls Tryd.prog 80 #[.pointer (some ⟨g, 0, none⟩), .string p] w fun e w' => e = .returned (.bool false) ∧ TInv w0 w' g f A c := by
  have hT := Aside0.mk (TInv.mk hf hlow hge)
  have z1 := hf.c1
  by_cases h6 : p.size % 6 = 0
  · have hb : has f.fl 1 = true ∧ 0 < p.size := by
      rcases h with h | h
      · exact absurd h6 (by rw [h]; exact id)
      · exact h
    have hx' : (Go.bits .and .i64 f.fl 1 != 0) = true := hb.1
    have hm0 : ((p.size : Int) % 6) = 0 := by omega
    have hm : (((p.size : Int) % 6) != 0) = false := by rw [hm0]; rfl
    have hs := full_text p hb.2
    clear hm0
    clear hf hlow hge h hb h6
    go_enter Tryd.func80, Tryd.ntmps80
    go_wp2_with fail
    go_ret
    exact ⟨rfl, hT.out⟩
  · have hm : (((p.size : Int) % 6) != 0) = true := bne_iff_ne.mpr (by omega)
    clear hf hlow hge h h6
    go_enter Tryd.func80, Tryd.ntmps80
    go_wp2_with fail
    go_ret
    exact ⟨rfl, hT.out⟩
theorem takeParams_yes (g : Nat) (f : Fr) (p : ByteArray) (n : Nat) (w0 w : World) (hf : At w g f none 0) (hnil : f.ps = []) (hlow : Below w0.heap.size w0 w) (hge : w0.heap.size ≤ g) (hn : p.size = 6 * n) (hno : has f.fl 1 = false ∨ n = 0) (h63 : p.size ≤ 65536) :
    Calls Tryd.prog 80 #[.pointer (some ⟨g, 0, none⟩), .string p] w fun e w' => e = .returned (.bool true) ∧ ∃ A c, PInv w0 w' g { f with ps := pars n p.data.toList } (.slice A n c) A c := by
  have hnf : f = { f with ps := [] } := by rw [← hnil]
  have hT : Aside0 (PInv w0 w g { f with ps := [] } (.slice none 0 0) none 0) := ⟨⟨by rw [← hnf]; exact ⟨hf, hlow, hge⟩, rfl, Kd.R_nil _ _ _ _ _⟩⟩
  have z1 := hf.c1
  have hm0 : ((p.size : Int) % 6) = 0 := by omega
  have hm : (((p.size : Int) % 6) != 0) = false := by rw [hm0]; rfl
  have HN := Aside0.mk hn
  have H63 := Aside0.mk h63
  have hcase : (Go.bits .and .i64 f.fl 1 != 0) = false ∨ (n = 0 ∧ (!p.toList.isEmpty) = false ∧ (Go.bits .and .i64 f.fl 1 != 0) = true) := by
    cases hb : (Go.bits .and .i64 f.fl 1 != 0)
    · exact .inl rfl
    · rcases hno with h | h
      · unfold has at h
        rw [hb] at h
        cases h
      · exact .inr ⟨h, by rw [no_text p (by omega)]; rfl, rfl⟩
  clear hf hlow hge hnil hnf hm0 hno hn
  rcases hcase with hb1 | ⟨hb0, hb2, hb3⟩
  all_goals
    first
      | (have HB0 := Aside0.mk hb0; clear hb0)
      | skip
    go_enter Tryd.func80, Tryd.ntmps80
    go_wp2_with fail
    first
      | clear hb1
      | clear hb2 hb3
    go_loopw [1] (fun v w' => ∃ (m : Nat) (q : ByteArray) (ps : List S32) (A : Option Addr) (c : Nat), v = .string q ∧ Aside0 (q.size = 6 * m) ∧ Aside0 (ps.length + m = n) ∧ Aside0 (ps ++ pars m q.data.toList = pars n p.data.toList) ∧ Aside0 (PInv w0 w' g { f with ps := ps } (.slice A ps.length c) A c)) (fun v _ => match v with | .string q => q.size | _ => 0)
    case atStart => exact ⟨n, p, [], none, 0, rfl, HN, ⟨by simp⟩, ⟨rfl⟩, hT⟩
    case round =>
      obtain ⟨m, q, ps, A, c, rfl, HQ, HL, HE, PK⟩ := hrel
      cases m with
      | zero =>
        have he : (!q.toList.isEmpty) = false := by rw [no_text q (by have := HQ.out; omega)]; rfl
        go_wp2_with fail
        go_ret
        refine ⟨rfl, A, c, ?_⟩
        have e := HE.out
        have hl := HL.out
        rw [show pars 0 q.data.toList = [] from rfl, List.append_nil] at e
        have hn : ps.length = n := by omega
        rw [← e, ← hn]
        exact PK.out
      | succ m =>
        have he : (!q.toList.isEmpty) = true := full_text q (by have := HQ.out; omega)
        have hq := HQ.out
        have b2 : (2 : Int) ≤ (q.size : Int) := by omega
        have b6 : (6 : Int) ≤ (q.size : Int) := by omega
        have HS2 : Aside0 ((q.extract 0 2).size ≤ 4) := ⟨by simp; omega⟩
        have HS4 : Aside0 ((q.extract 2 6).size ≤ 4) := ⟨ext4 q 2⟩
        have HPS : Aside0 ((ps.length + 1) * 16 ≤ 140737488355328) := ⟨by have h1 := HL.out; have h2 := HN.out; have h3 := H63.out; omega⟩
        obtain ⟨x, hx⟩ : ∃ x, num (q.extract 0 2) = x := ⟨_, rfl⟩
        obtain ⟨y, hy⟩ : ∃ x, num (q.extract 2 6) = x := ⟨_, rfl⟩
        have HX := Aside0.mk hx
        have HY := Aside0.mk hy
        have hst : pars (m + 1) q.data.toList = ⟨x, y⟩ :: pars m (q.extract 6 q.size).data.toList := by
          rw [← hx, ← hy, num_extract, num_extract, list_extract]
          rfl
        have HST := Aside0.mk hst
        have HQ2 : Aside0 ((q.extract 6 q.size).size = 6 * m) := ⟨by simp; omega⟩
        obtain ⟨v, hv⟩ : ∃ v, Value.slice A ps.length c = v := ⟨_, rfl⟩
        rw [hv] at PK
        have HV := Aside0.mk hv
        clear hx hy hst hq hv
        go_upto_region 5 with fail
        have c0 : wr.drew.cell? ⟨g, 10, none⟩ = some v := by rw [PK.out.val]; exact PK.out.inv.own.c10
        have c1 : wr.drew.frozen? ⟨g, 10, none⟩ = false := blk_frozen PK.out.inv.own 10
        refine start_ (n := 17) (S := fun w' => w'.cell? ⟨g, 10, none⟩ = some v ∧ w'.frozen? ⟨g, 10, none⟩ = false) (ds := [16]) #[false, false, false, false, false, false, false, false, false, false, false, false, false, false, false, false, false] (by kernel_rfl) rfl rfl ⟨c0, c1⟩ (fun hHeld => ?_)
        refine pure_ (i := 0) (N := some 25) (v := ?_) (a' := ?_) #[true, false, false, false, false, false, false, false, false, false, false, false, false, false, false, false, false] rfl rfl (by kernel_rfl) (fun _ _ _ h => h) (Or.inl ⟨by rfl, ?_⟩) ?_ ?_
        rotate_left
        · intro w'
          go_simp
          with_reducible rfl
        rotate_left
        · simp only [Act.put, List.setIfInBounds_toArray, List.set_cons_zero, List.set_cons_succ, i64_w, i32_w]
          rfl
        refine pure_ (i := 1) (N := some 26) (v := ?_) (a' := ?_) #[true, true, false, false, false, false, false, false, false, false, false, false, false, false, false, false, false] rfl rfl (by kernel_rfl) (fun _ _ _ h => h) (Or.inl ⟨by rfl, ?_⟩) ?_ ?_
        rotate_left
        · intro w'
          go_simp
          with_reducible rfl
        rotate_left
        · simp only [Act.put, List.setIfInBounds_toArray, List.set_cons_zero, List.set_cons_succ, i64_w, i32_w]
          rfl
        refine pure_ (i := 2) (N := some 27) (v := ?_) (a' := ?_) #[true, true, true, false, false, false, false, false, false, false, false, false, false, false, false, false, false] rfl rfl (by kernel_rfl) (fun _ _ _ h => h) (Or.inl ⟨by rfl, ?_⟩) ?_ ?_
        rotate_left
        · intro w'
          go_simp
          with_reducible rfl
        rotate_left
        · simp only [Act.put, List.setIfInBounds_toArray, List.set_cons_zero, List.set_cons_succ, i64_w, i32_w]
          rfl
        refine pure_ (i := 3) (N := some 28) (v := ?_) (a' := ?_) #[true, true, true, true, false, false, false, false, false, false, false, false, false, false, false, false, false] rfl rfl (by kernel_rfl) (fun _ _ _ h => h) (Or.inl ⟨by rfl, ?_⟩) ?_ ?_
        rotate_left
        · intro w'
          go_simp
          with_reducible rfl
        rotate_left
        · simp only [Act.put, List.setIfInBounds_toArray, List.set_cons_zero, List.set_cons_succ, i64_w, i32_w]
          rfl
        refine pure_ (i := 5) (N := some 30) (v := ?_) (a' := ?_) #[true, true, true, true, false, true, false, false, false, false, false, false, false, false, false, false, false] rfl rfl (by kernel_rfl) (fun _ _ _ h => h) (Or.inl ⟨by rfl, ?_⟩) ?_ ?_
        rotate_left
        · intro w'
          go_simp
          with_reducible rfl
        rotate_left
        · simp only [Act.put, List.setIfInBounds_toArray, List.set_cons_zero, List.set_cons_succ, i64_w, i32_w]
          rfl
        refine pure_ (i := 6) (N := some 31) (v := ?_) (a' := ?_) #[true, true, true, true, false, true, true, false, false, false, false, false, false, false, false, false, false] rfl rfl (by kernel_rfl) (fun _ _ _ h => h) (Or.inl ⟨by rfl, ?_⟩) ?_ ?_
        rotate_left
        · intro w'
          go_simp
          with_reducible rfl
        rotate_left
        · simp only [Act.put, List.setIfInBounds_toArray, List.set_cons_zero, List.set_cons_succ, i64_w, i32_w]
          rfl
        refine pure_ (i := 8) (N := some 33) (v := ?_) (a' := ?_) #[true, true, true, true, false, true, true, false, true, false, false, false, false, false, false, false, false] rfl rfl (by kernel_rfl) (fun _ _ _ h => h) (Or.inl ⟨by rfl, ?_⟩) ?_ ?_
        rotate_left
        · intro w'
          go_simp
          with_reducible rfl
        rotate_left
        · simp only [Act.put, List.setIfInBounds_toArray, List.set_cons_zero, List.set_cons_succ, i64_w, i32_w]
          rfl
        refine pure_ (i := 9) (N := some 34) (v := ?_) (a' := ?_) #[true, true, true, true, false, true, true, false, true, true, false, false, false, false, false, false, false] rfl rfl (by kernel_rfl) (fun _ _ _ h => h) (Or.inl ⟨by rfl, ?_⟩) ?_ ?_
        rotate_left
        · intro w'
          go_simp
          with_reducible rfl
        rotate_left
        · simp only [Act.put, List.setIfInBounds_toArray, List.set_cons_zero, List.set_cons_succ, i64_w, i32_w]
          rfl
        refine take_ (i := 4) (N := some 29) (v := ?_) (a' := ?_) #[true, true, true, true, true, true, true, false, true, true, false, false, false, false, false, false, false] rfl rfl (by kernel_rfl) (fun _ _ _ h => h) (Or.inl ⟨by rfl, ?_⟩) hHeld ?_ ?_
        rotate_left
        · rintro w' ⟨s0, s1⟩
          go_simp
          with_reducible rfl
        rotate_left
        · simp only [Act.put, List.setIfInBounds_toArray, List.set_cons_zero, List.set_cons_succ, i64_w, i32_w]
          rfl
        refine one_ (i := 7) (N := some 32) #[true, true, true, true, true, true, true, true, true, true, false, false, false, false, false, false, false] rfl rfl (by kernel_rfl) (by decide) (fun K hK => ?_)
        refine goes_ Tryd.func56 (by kernel_rfl) rfl #[.string (q.extract 0 2)] (by rfl) rfl rfl (by simp only [List.map_toArray, List.map_cons, List.map_nil]; rfl) ?_
        with_reducible refine (got_below (q.extract 0 2) x _ HS2.out HX.out).mono ?_
        rintro e w3 ⟨rfl, hb⟩
        refine ⟨_, rfl, ?_⟩
        have P3 := Aside0.mk ((PK.out.below (below_drew (Below.refl _ _))).below hb)
        refine hK.out _ _ ⟨(hb.cell (World.block_lt_of_cell? _ _ hHeld.1)).trans hHeld.1, (hb.frozen (p := ⟨g, 10, none⟩) (World.block_lt_of_cell? _ _ hHeld.1)).trans hHeld.2⟩ (fun hHeld => ?_)
        clear hK K
        refine norm_ (a' := ?_) ?_ ?_
        rotate_left
        · show Act.put _ (some 32) _ = _
          simp only [Act.put, List.setIfInBounds_toArray, List.set_cons_zero, List.set_cons_succ, i64_w, i32_w]
          rfl
        refine one_ (i := 10) (N := some 35) #[true, true, true, true, true, true, true, true, true, true, true, false, false, false, false, false, false] rfl rfl (by kernel_rfl) (by decide) (fun K hK => ?_)
        refine goes_ Tryd.func56 (by kernel_rfl) rfl #[.string (q.extract 2 6)] (by rfl) rfl rfl (by simp only [List.map_toArray, List.map_cons, List.map_nil]; rfl) ?_
        with_reducible refine (got_below (q.extract 2 6) y _ HS4.out HY.out).mono ?_
        rintro e w4 ⟨rfl, hb⟩
        refine ⟨_, rfl, ?_⟩
        have P4 := Aside0.mk (P3.out.below hb)
        refine hK.out _ _ ⟨(hb.cell (World.block_lt_of_cell? _ _ hHeld.1)).trans hHeld.1, (hb.frozen (p := ⟨g, 10, none⟩) (World.block_lt_of_cell? _ _ hHeld.1)).trans hHeld.2⟩ (fun hHeld => ?_)
        clear hK K
        refine norm_ (a' := ?_) ?_ ?_
        rotate_left
        · show Act.put _ (some 35) _ = _
          simp only [Act.put, List.setIfInBounds_toArray, List.set_cons_zero, List.set_cons_succ, i64_w, i32_w]
          rfl
        refine pure_ (i := 11) (N := some 36) (v := ?_) (a' := ?_) #[true, true, true, true, true, true, true, true, true, true, true, true, false, false, false, false, false] rfl rfl (by kernel_rfl) (fun _ _ _ h => h) (Or.inl ⟨by rfl, ?_⟩) ?_ ?_
        rotate_left
        · intro w'
          go_simp
          with_reducible rfl
        rotate_left
        · simp only [Act.put, List.setIfInBounds_toArray, List.set_cons_zero, List.set_cons_succ, i64_w, i32_w]
          rfl
        refine one_ (i := 12) (N := some 37) #[true, true, true, true, true, true, true, true, true, true, true, true, true, false, false, false, false] rfl rfl (by kernel_rfl) (by decide) (fun K hK => ?_)
        refine value_ (w1 := ?_) (v := ?_) (by rfl) rfl ?_ ?_
        rotate_left 2
        · go_simp
          constructor
          · rfl
          · rfl
        refine hK.out _ _ ⟨((below_alloc (Below.refl _ _) _).cell (World.block_lt_of_cell? _ _ hHeld.1)).trans hHeld.1, ((below_alloc (Below.refl _ _) _).frozen (p := ⟨g, 10, none⟩) (World.block_lt_of_cell? _ _ hHeld.1)).trans hHeld.2⟩ (fun hHeld => ?_)
        clear hK K
        refine norm_ (a' := ?_) ?_ ?_
        rotate_left
        · show Act.put _ (some 37) _ = _
          simp only [Act.put, List.setIfInBounds_toArray, List.set_cons_zero, List.set_cons_succ, i64_w, i32_w]
          rfl
        refine one_ (i := 13) (N := some 38) #[true, true, true, true, true, true, true, true, true, true, true, true, true, true, false, false, false] rfl rfl (by kernel_rfl) (by decide) (fun K hK => ?_)
        refine Kd.R_append_step k32 (w0 := w4) w0.heap.size (by rfl) (.tmp 29) (.tmp 37) 22 32 (.agg #[.int .i64 0, .int .i64 0]) 16 rfl Tryd.underlying22 info32 rfl (by decide) (by omega) v ps ⟨x, y⟩ [.int .i64 x, .int .i64 y] (fun k => k ≠ g) (fun _ => False) rfl rfl ?aP ?aK ?aF ?aO ?aB ?aS ?aL ?_
        (case aP => exact k32_mkM _ _ _ ⟨x, y⟩)
        (case aK => exact fun _ h => h.elim)
        (case aF => exact fun k hk => by have := blk_lt P4.out.inv.own; omega)
        (case aO => exact P4.out.row)
        (case aB => exact Below.refl _ _)
        (case aS => exact P4.out.inv.low.size)
        (case aL => have := HPS.out; omega)
        intro v5 w5 ho hb hg hat
        obtain ⟨A5, c5, e5, _⟩ := Kd.R_reads ho
        rw [List.length_append, List.length_singleton] at e5
        subst e5
        have HO5 := Aside0.mk ho
        have HB5 := Aside0.mk hb
        have HG5 := Aside0.mk (blk_grown P4.out.inv.own hg (Kd.R_away P4.out.row (fun _ h => h)))
        clear ho hb hg hat
        refine hK.out _ _ ⟨by rw [P4.out.val]; exact blk_cell HG5.out 10, blk_frozen HG5.out 10⟩ (fun hHeld => ?_)
        clear hK K
        refine norm_ (a' := ?_) ?_ ?_
        rotate_left
        · show Act.put _ (some 38) _ = _
          simp only [Act.put, List.setIfInBounds_toArray, List.set_cons_zero, List.set_cons_succ, i64_w, i32_w]
          rfl
        refine pure_ (i := 14) (N := some 39) (v := ?_) (a' := ?_) #[true, true, true, true, true, true, true, true, true, true, true, true, true, true, true, false, false] rfl rfl (by kernel_rfl) (fun _ _ _ h => h) (Or.inl ⟨by rfl, ?_⟩) ?_ ?_
        rotate_left
        · intro w'
          go_simp
          with_reducible rfl
        rotate_left
        · simp only [Act.put, List.setIfInBounds_toArray, List.set_cons_zero, List.set_cons_succ, i64_w, i32_w]
          rfl
        refine pure_ (i := 15) (N := some 40) (v := ?_) (a' := ?_) #[true, true, true, true, true, true, true, true, true, true, true, true, true, true, true, true, false] rfl rfl (by kernel_rfl) (fun _ _ _ h => h) (Or.inl ⟨by rfl, ?_⟩) ?_ ?_
        rotate_left
        · intro w'
          go_simp
          with_reducible rfl
        rotate_left
        · simp only [Act.put, List.setIfInBounds_toArray, List.set_cons_zero, List.set_cons_succ, i64_w, i32_w]
          rfl
        refine last_ (i := 16) (N := none) #[true, true, true, true, true, true, true, true, true, true, true, true, true, true, true, true, true] rfl rfl (by kernel_rfl) (by decide) (fun K hK => ?_)
        refine skip_ (w1 := ?_) (by rfl) rfl ?_ ?_
        rotate_left
        · go_simp
          rfl
        refine hK.out _ _ ?_
        clear hK K
        refine done_ (by kernel_rfl) ?_
        repeat (rename World.cell? _ _ = _ ∧ _ => hh; clear hh)
        clear c0 c1
        go_wp2_with fail
        have hPl : (ps ++ [(⟨x, y⟩ : S32)]).length = ps.length + 1 := by rw [List.length_append]; rfl
        have hI := (TInv.mk HG5.out (P4.out.inv.low.trans HB5.out) P4.out.inv.ge).put10 (ps ++ [⟨x, y⟩]) A5 c5
        rw [hPl] at hI
        have hR := Kd.R_far HO5.out (p := ⟨g, 10, none⟩) (fun _ h => h) (.slice A5 (ps.length + 1) c5)
        refine ⟨⟨m, q.extract 6 q.size, ps ++ [⟨x, y⟩], A5, c5, rfl, HQ2, ⟨by rw [hPl]; have := HL.out; omega⟩, ⟨by rw [← HE.out, HST.out, List.append_assoc]; rfl⟩, ⟨?_⟩⟩, ?_⟩
        · rw [hPl]
          exact ⟨hI, by rw [hPl], hR⟩
        · show (q.extract 6 q.size).size < q.size
          have h1 := HQ.out
          have h2 := HQ2.out
          omega
end Go.Proofs.YtoffhlbdfhhhjaaDoor.Fr
