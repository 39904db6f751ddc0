/- FeedApart: always true. The package's variable holds what the program lays; the list fits in memory. -/
import Derived.Test.YtoffhlbdfhhhjaaDoorMFdS
import Derived.Test.YtoffhlbdfhhhjaaDoorMFkA
import Derived.Test.YtoffhlbdfhhhjaaDoorMFg7
namespace Go.Proofs.YtoffhlbdfhhhjaaDoor.Fr
open Go Go.RowKit Go.Proofs.YtoffhlbdfhhhjaaDoorW.PrintWords Go.Proofs.YtoffhlbdfhhhjaaDoorW.PrintLast Go.Proofs.YtoffhlbdfhhhjaaDoorW.PrintMore Go.Proofs.YtoffhlbdfhhhjaaDoor.QL
set_option linter.unusedSimpArgs false
set_option linter.unusedVariables false
set_option maxHeartbeats 40000000
set_option maxRecDepth 100000
/-- A row that is read: its block's cells. -/
structure Rw (W : World) (b : Nat) (xs : List S32) : Prop where
  blk : ∃ cur, W.heap[b]? = some (.cells cur 32 (0, 0))
  row : ∀ i : Nat, i < xs.length → W.cell? ⟨b, i * 2, none⟩ = some (.int .i64 (rd_T32 xs (i : Int)).f0) ∧ W.cell? ⟨b, i * 2 + 1, none⟩ = some (.int .i64 (rd_T32 xs (i : Int)).f1)
theorem Rw.move {W W1 : World} {b : Nat} {xs : List S32} (h : Rw W b xs) (e : W1.heap[b]? = W.heap[b]?) : Rw W1 b xs := by
  obtain ⟨cur, hc⟩ := h.blk
  exact ⟨⟨cur, e.trans hc⟩, fun i hi => ⟨(World.cell?_of_block e).trans (h.row i hi).1, (World.cell?_of_block e).trans (h.row i hi).2⟩⟩
theorem Rw.lt {W : World} {b : Nat} {xs : List S32} (h : Rw W b xs) : b < W.heap.size := by
  obtain ⟨cur, hc⟩ := h.blk
  exact blk_lt hc
theorem Rw.low {W W1 : World} {b : Nat} {xs : List S32} (h : Rw W b xs) (hb : Below W.heap.size W W1) : Rw W1 b xs := h.move (hb.block b h.lt)
theorem Rw.grown {W W1 : World} {b g : Nat} {xs : List S32} (h : Rw W b xs) (hg : W.grownBy W1 (some g)) (hn : b ≠ g) : Rw W1 b xs := h.move (hg.block b h.lt (by simpa using hn))
theorem Rw.ofC {W : World} {b n : Nat} {xs : List S32} (h : Kd.C k32 W (some ⟨b, 0, none⟩) n xs) (hb : ∃ cur, W.heap[b]? = some (.cells cur 32 (0, 0))) : Rw W b xs := by
  refine ⟨hb, fun i hi => ?_⟩
  obtain ⟨ad, e, h0, h1⟩ := at_T32 h (i : Int) (by omega) (by have := h.1; omega)
  cases e
  rw [Int.toNat_natCast, add_plain] at h0 h1
  exact ⟨h0, h1⟩
theorem Rw.ofR {W : World} {base b n c : Nat} {ok : Nat → Prop} {xs : List S32} (h : Kd.R k32 32 W base ok (.slice (some ⟨b, 0, none⟩) n c) xs) : Rw W b xs := by
  have hc := Kd.R_reads' h
  exact Rw.ofC hc.2.2 (Kd.R_typed h b (by simp [Value.ownBlock]))
theorem Chg.row {g base : Nat} {w w' : World} {f : Fd} {ok : Nat → Prop} {v : Value} {xs : List S32} (h : Chg g w w') (hf : FAt w g f) (hr : Kd.R k32 32 w base ok v xs) : Kd.R k32 32 w' base ok v xs :=
  Kd.R_mono (Kd.R_step (Kd.R_types hr hf (by intro q hq; have : q = 32 := by simpa [k32, Kd.iso, Kd.pair, Kd.int, Kd.scalar] using hq
                                             subst this; decide)) (fun k hk hlt => h.block k hlt hk.2)) (fun _ hk => hk.1)
theorem Chg.rw {g b : Nat} {w w' : World} {f : Fd} {xs : List S32} (h : Chg g w w') (hf : FAt w g f) (hr : Rw w b xs) : Rw w' b xs := by
  obtain ⟨cur, hc⟩ := hr.blk
  exact hr.move (h.block b hr.lt (blk_ne hc hf (by decide)))
theorem row_grown {W W1 : World} {base b n c g : Nat} {ok : Nat → Prop} {xs : List S32} (h : Kd.R k32 32 W base ok (.slice (some ⟨b, 0, none⟩) n c) xs) (hg : W.grownBy W1 (some g)) (hn : b ≠ g) : Kd.R k32 32 W1 base ok (.slice (some ⟨b, 0, none⟩) n c) xs :=
  Kd.R_grown2 h rfl hg (by rintro k hk; injection hk with hk; subst hk; intro e; exact hn (by simpa [Value.ownBlock] using e.symm))
theorem new_ne {W : World} {g b n c k : Nat} (hat : (Value.slice (some ⟨b, 0, none⟩) n c).ownBlock = some g ∨ ∃ b', (Value.slice (some ⟨b, 0, none⟩) n c).ownBlock = some b' ∧ W.heap.size ≤ b') (hn : k ≠ g) (hlt : k < W.heap.size) : k ≠ b := by
  rcases hat with h | ⟨b', h, hle⟩
  · have : b = g := by simpa [Value.ownBlock] using h
    rw [this]
    exact hn
  · have : b = b' := by simpa [Value.ownBlock] using h
    omega
/-- The first i are written over. -/
def ovr (P : List S32) (i : Nat) : List S32 := List.replicate i ⟨-1, 0⟩ ++ P.drop i
theorem ovr_len (P : List S32) (i : Nat) (h : i ≤ P.length) : (ovr P i).length = P.length := by unfold ovr; simp; omega
theorem ovr_set (P : List S32) (i : Nat) (h : i < P.length) : (ovr P i).set i ⟨-1, 0⟩ = ovr P (i + 1) := by
  unfold ovr
  rw [List.set_append, if_neg (by simp), List.length_replicate, Nat.sub_self, List.drop_eq_getElem_cons h, List.set_cons_zero, List.replicate_succ', List.append_assoc]
  rfl
theorem ovr_all (P : List S32) : ovr P P.length = List.replicate P.length ⟨-1, 0⟩ := by unfold ovr; simp
theorem rd_rep (n i : Nat) (h : i < n) (x : S32) : rd_T32 (List.replicate n x) (i : Int) = x := by unfold rd_T32; simp [h]
theorem rd_left (P : List S32) (x : S32) (i : Nat) (h : i < P.length) : rd_T32 (P ++ [x]) (i : Int) = rd_T32 P (i : Int) := by unfold rd_T32; simp [h, List.getElem?_append_left]
theorem rd_last (P : List S32) (x : S32) (n : Nat) (h : n = P.length) : rd_T32 (P ++ [x]) (n : Int) = x := by unfold rd_T32; simp [h]
theorem one_row (W : World) (base : Nat) (h : base ≤ W.heap.size) (a b : Int) : Kd.R k32 32 (W.alloc (.cells #[.int .i64 a, .int .i64 b] 32)) base (fun _ => True) (.slice (some ⟨W.heap.size, 0, none⟩) 1 1) [⟨a, b⟩] := by
  refine ⟨fun _ _ => trivial, [.int .i64 a, .int .i64 b], ?_, ?_⟩
  · have h2 := World.ownsRow_lit (base := base) (e := 32) (size := 2) W #[.int .i64 a, .int .i64 b] 1 h (by simp [maxLen]) (by simp)
    have h3 : (W.alloc (.cells #[.int .i64 a, .int .i64 b] 32)).ownsRow base 32 2 (.slice (some ⟨W.heap.size, 0, none⟩) 1 1) 1 [.int .i64 a, .int .i64 b] := by simpa using h2
    exact h3
  · refine ⟨rfl, fun j p hj => ?_⟩
    have hj0 : j = 0 := by have := (List.getElem?_eq_some_iff.1 hj).1; simpa using this
    subst hj0
    have : (⟨a, b⟩ : S32) = p := by simpa using hj
    subst this
    exact k32_mkM _ _ _ _
theorem push_new (t : ByteArray) : pushF (newF false 16384) t = fdW t := by
  unfold pushF
  rw [if_neg (by decide)]
  show (⟨16384, ByteArray.empty ++ t, ByteArray.empty, 0, 0⟩ : Fd) = fdW t
  have e : ByteArray.empty ++ t = t := by
    apply ba_ext
    rw [ByteArray.data_append, Array.toList_append]
    rfl
  rw [e]
  rfl
/-- Next where a settings frame is told. -/
theorem next_set (g : Nat) (P : List S32) (t t' : ByteArray) (W : World) (hG : GL W) (h : FAt W g (fdW t)) (hs : t.size ≤ 9223372036854775807) (hP : 0 < P.length) (hn : nextF (fdW t) = (fdW t', ⟨setF P, true, 0, 0⟩)) :
    Calls Tryd.prog 36 #[.pointer (some ⟨g, 0, none⟩)] W fun e w' => ∃ b c, e = .returned (.tuple #[.agg #[.int .i64 4, .int .i64 0, .int .i64 0, .string ByteArray.empty, .int .i64 0, .int .i64 0, .bool false, .int .i64 0, .int .i64 0, .int .i64 0, .slice (some ⟨b, 0, none⟩) P.length c], .bool true, .agg #[.int .i64 0, .int .i64 0]]) ∧ W.heap.size ≤ b ∧ Kd.R k32 32 w' W.heap.size (fun _ => True) (.slice (some ⟨b, 0, none⟩) P.length c) P ∧ FAt w' g (fdW t') ∧ Chg g W w' := by
  refine (next_calls g (fdW t) W hG h hs (by show (0 : Nat) ≤ _; exact Nat.zero_le _)).mono ?_
  rintro e w' hx
  rw [hn] at hx
  obtain ⟨A, c, rfl, hr, hf, hc⟩ := hx
  have hr2 : Kd.R k32 32 w' W.heap.size (fun _ => True) (.slice A P.length c) P := hr
  obtain ⟨b, c', e', hb, _⟩ := Kd.R_form hr2 hP
  injection e' with ha _ hcc
  subst ha; subst hcc
  exact ⟨b, c, rfl, hb, hr2, hf, hc⟩
theorem write_set (P : List S32) (hp : ParL P) (hl : P.length ≤ 51) (A : Option Addr) (c : Nat) (W : World) (hG : GL W) (hps : Kd.C k32 W A P.length P) :
    Calls Tryd.prog 16 #[.agg #[.int .i64 4, .int .i64 0, .int .i64 0, .string ByteArray.empty, .int .i64 0, .int .i64 0, .bool false, .int .i64 0, .int .i64 0, .int .i64 0, .slice A P.length c]] W fun e w' => e = .returned (.tuple #[.string (setB P), .int .i64 0]) ∧ Below W.heap.size W w' := by
  have h := write_calls (setF P) A c W hG hps (by show (0 : Nat) ≤ _; exact Nat.zero_le _) (by show P.length * 16 ≤ _; omega)
  rw [setF_wr P hp hl] at h
  exact h
attribute [local go_sem high] eqA32
theorem apartlaw_calls (A : Option Addr) (c : Nat) (l : List S32) (w : World) (hG : GL w) (hr : Kd.C k32 w A l.length l) (hc : l.length ≤ c) (hl : l.length ≤ 8796093022208) :
    Calls Tryd.prog 14 #[.slice A l.length c] w fun e w' => e = .returned (.bool true) ∧ Below w.heap.size w w' := by
  have HG := Aside0.mk hG
  have HR := Aside0.mk hr
  have HL := Aside0.mk hl
  have LA := Aside0.mk (Below.refl w.heap.size w)
  clear hG hr hc hl
  go_enter Tryd.func14, Tryd.ntmps14
  go_upto_region 3 with (go_at_call 29; refine (head_calls _ HG.out).mono ?_; rintro e w0 ⟨rfl, hb⟩; have L0 := Aside0.mk hb; clear hb)
  clear LA
  go_upto_region 4 with fail
  have R1 := Aside0.mk (one_row w0 w.heap.size L0.out.size 4 100)
  have L1 := Aside0.mk (below_alloc L0.out (.cells #[.int .i64 4, .int .i64 100] 32))
  obtain ⟨v3, hv⟩ : ∃ v, Value.slice (some ⟨w0.heap.size, 0, none⟩) 1 1 = v := ⟨_, rfl⟩
  obtain ⟨W1, hW⟩ : ∃ W, w0.alloc (.cells #[.int .i64 4, .int .i64 100] 32) = W := ⟨_, rfl⟩
  rw [hW, hv] at R1
  rw [hW] at L1
  rw [hW, hv]
  clear hW hv L0
  go_upto_if 5 with fail
  go_loopw [3, 4] (fun v v4 w' => ∃ (i : Nat) (xs : List S32), v4 = .int .i64 (i : Int) ∧ Aside0 (xs = (⟨4, 100⟩ : S32) :: (l.take i).map few1) ∧ Aside0 (i ≤ l.length ∧ i ≤ 50) ∧ Aside0 (Kd.R k32 32 w' w.heap.size (fun _ => True) v xs) ∧ Aside0 (Below w.heap.size w w')) (fun _ v _ => ((l.length : Int) - intOf v).toNat)
  case atStart => exact ⟨0, _, rfl, ⟨rfl⟩, ⟨by omega⟩, R1, L1⟩
  case round =>
    clear R1 L1
    obtain ⟨i, xs, rfl, HX, HI, HO, HB⟩ := hrel
    by_cases hb12 : i < l.length ∧ i < 50
    · obtain ⟨h1, h2⟩ := hb12
      have d1 : decide ((i : Int) < (l.length : Int)) = true := decide_eq_true (by omega)
      have d2 : decide (i < l.length) = true := decide_eq_true h1
      have d3 : decide ((i : Int) < 50) = true := decide_eq_true (by omega)
      have d4 : decide (i < 50) = true := decide_eq_true h2
      obtain ⟨ad, hA, x0, x1⟩ := at_T32 HR.out (i : Int) (by omega) (by omega)
      subst hA
      have hx' : rd_T32 l (i : Int) = l[i] := by simp [rd_T32, h1]
      obtain ⟨x, hx⟩ : ∃ x, rd_T32 l (i : Int) = x := ⟨_, rfl⟩
      rw [hx] at x0 x1 hx'
      have HXL : Aside0 (xs.length ≤ 51) := ⟨by rw [HX.out, List.length_cons, List.length_map, List.length_take]; have := HI.out.2; omega⟩
      have HXN : Aside0 (xs ++ [few1 x] = (⟨4, 100⟩ : S32) :: (l.take (i + 1)).map few1) := ⟨by rw [few50_step l i h1, HX.out, hx']⟩
      have p0 : (0 : Int) ≤ (i : Int) := by omega
      have p1 : (i : Int) < (l.length : Int) := by omega
      obtain ⟨j, hj⟩ : ∃ j, i + 1 = j := ⟨_, rfl⟩
      have hw1 : (i : Int) + 1 = (j : Int) := by omega
      have HJ : Aside0 (i + 1 = j ∧ i < l.length ∧ i < 50) := ⟨hj, h1, h2⟩
      rw [hj] at HXN
      clear hj hx hx'
      go_upto_region 7 with fail
      have HC0 := Aside0.mk x0
      have HC1 := Aside0.mk x1
      have HO_ := Aside0.mk (Kd.R_drew HO.out)
      have HB_ := Aside0.mk (below_drew1 HB.out)
      refine start_ (n := 17) (S := fun w' => w'.cell? (ad.add (i * 2)) = some (.int .i64 x.f0) ∧ w'.cell? ⟨(ad.add (i * 2)).block, (ad.add (i * 2)).off + 1, none⟩ = some (.int .i64 x.f1)) (ds := []) #[false, false, false, false, false, false, false, false, false, false, false, false, false, false, false, false, false] (by kernel_rfl) rfl rfl ⟨(HB_.out.cell (World.block_lt_of_cell? w _ HC0.out)).trans HC0.out, (HB_.out.cell (World.block_lt_of_cell? w _ HC1.out)).trans HC1.out⟩ (fun hHeld => ?_)
      generalize wr.drew = w6 at HO_ HB_ hHeld ⊢
      refine pure_ (i := 0) (N := some 36) (v := ?_) (a' := ?_) #[true, false, false, false, false, false, false, false, false, false, false, false, false, false, false, false, false] rfl rfl (by kernel_rfl) (fun _ _ _ h => h) (Or.inl ⟨by rfl, ?_⟩) ?_ ?_
      rotate_left
      · intro w'
        go_simp
        with_reducible rfl
      rotate_left
      · simp only [Act.put, List.setIfInBounds_toArray, List.set_cons_zero, List.set_cons_succ, i64_w, i32_w]
        rfl
      refine pure_ (i := 1) (N := some 37) (v := ?_) (a' := ?_) #[true, true, false, false, false, false, false, false, false, false, false, false, false, false, false, false, false] rfl rfl (by kernel_rfl) (fun _ _ _ h => h) (Or.inl ⟨by rfl, ?_⟩) ?_ ?_
      rotate_left
      · intro w'
        go_simp
        with_reducible rfl
      rotate_left
      · simp only [Act.put, List.setIfInBounds_toArray, List.set_cons_zero, List.set_cons_succ, i64_w, i32_w]
        rfl
      refine pure_ (i := 2) (N := some 38) (v := ?_) (a' := ?_) #[true, true, true, false, false, false, false, false, false, false, false, false, false, false, false, false, false] rfl rfl (by kernel_rfl) (fun _ _ _ h => h) (Or.inl ⟨by rfl, ?_⟩) ?_ ?_
      rotate_left
      · intro w'
        go_simp
        with_reducible rfl
      rotate_left
      · simp only [Act.put, List.setIfInBounds_toArray, List.set_cons_zero, List.set_cons_succ, i64_w, i32_w]
        rfl
      refine pure_ (i := 3) (N := some 39) (v := ?_) (a' := ?_) #[true, true, true, true, false, false, false, false, false, false, false, false, false, false, false, false, false] rfl rfl (by kernel_rfl) (fun _ _ _ h => h) (Or.inl ⟨by rfl, ?_⟩) ?_ ?_
      rotate_left
      · intro w'
        go_simp
        with_reducible rfl
      rotate_left
      · simp only [Act.put, List.setIfInBounds_toArray, List.set_cons_zero, List.set_cons_succ, i64_w, i32_w]
        rfl
      refine pure_ (i := 4) (N := some 40) (v := ?_) (a' := ?_) #[true, true, true, true, true, false, false, false, false, false, false, false, false, false, false, false, false] rfl rfl (by kernel_rfl) (fun _ _ _ h => h) (Or.inl ⟨by rfl, ?_⟩) ?_ ?_
      rotate_left
      · intro w'
        go_simp
        with_reducible rfl
      rotate_left
      · simp only [Act.put, List.setIfInBounds_toArray, List.set_cons_zero, List.set_cons_succ, i64_w, i32_w]
        rfl
      refine pure_ (i := 7) (N := some 43) (v := ?_) (a' := ?_) #[true, true, true, true, true, false, false, true, false, false, false, false, false, false, false, false, false] rfl rfl (by kernel_rfl) (fun _ _ _ h => h) (Or.inl ⟨by rfl, ?_⟩) ?_ ?_
      rotate_left
      · intro w'
        go_simp
        with_reducible rfl
      rotate_left
      · simp only [Act.put, List.setIfInBounds_toArray, List.set_cons_zero, List.set_cons_succ, i64_w, i32_w]
        rfl
      refine pure_ (i := 8) (N := some 44) (v := ?_) (a' := ?_) #[true, true, true, true, true, false, false, true, true, false, false, false, false, false, false, false, false] rfl rfl (by kernel_rfl) (fun _ _ _ h => h) (Or.inl ⟨by rfl, ?_⟩) ?_ ?_
      rotate_left
      · intro w'
        go_simp
        with_reducible rfl
      rotate_left
      · simp only [Act.put, List.setIfInBounds_toArray, List.set_cons_zero, List.set_cons_succ, i64_w, i32_w]
        rfl
      refine pure_ (i := 9) (N := some 45) (v := ?_) (a' := ?_) #[true, true, true, true, true, false, false, true, true, true, false, false, false, false, false, false, false] rfl rfl (by kernel_rfl) (fun _ _ _ h => h) (Or.inl ⟨by rfl, ?_⟩) ?_ ?_
      rotate_left
      · intro w'
        go_simp
        with_reducible rfl
      rotate_left
      · simp only [Act.put, List.setIfInBounds_toArray, List.set_cons_zero, List.set_cons_succ, i64_w, i32_w]
        rfl
      refine pure_ (i := 10) (N := some 46) (v := ?_) (a' := ?_) #[true, true, true, true, true, false, false, true, true, true, true, false, false, false, false, false, false] rfl rfl (by kernel_rfl) (fun _ _ _ h => h) (Or.inl ⟨by rfl, ?_⟩) ?_ ?_
      rotate_left
      · intro w'
        go_simp
        with_reducible rfl
      rotate_left
      · simp only [Act.put, List.setIfInBounds_toArray, List.set_cons_zero, List.set_cons_succ, i64_w, i32_w]
        rfl
      refine take_ (i := 5) (N := some 41) (v := ?_) (a' := ?_) #[true, true, true, true, true, true, false, true, true, true, true, false, false, false, false, false, false] rfl rfl (by kernel_rfl) (fun _ _ _ h => h) (Or.inl ⟨by rfl, ?_⟩) hHeld ?_ ?_
      rotate_left
      · rintro w' ⟨s0, s1⟩
        go_simp
        with_reducible rfl
      rotate_left
      · simp only [Act.put, List.setIfInBounds_toArray, List.set_cons_zero, List.set_cons_succ, i64_w, i32_w]
        rfl
      refine pure_ (i := 6) (N := some 42) (v := ?_) (a' := ?_) #[true, true, true, true, true, true, true, true, true, true, true, false, false, false, false, false, false] rfl rfl (by kernel_rfl) (fun _ _ _ h => h) (Or.inl ⟨by rfl, ?_⟩) ?_ ?_
      rotate_left
      · intro w'
        go_simp
        with_reducible rfl
      rotate_left
      · simp only [Act.put, List.setIfInBounds_toArray, List.set_cons_zero, List.set_cons_succ, i64_w, i32_w]
        rfl
      refine take_ (i := 11) (N := some 47) (v := ?_) (a' := ?_) #[true, true, true, true, true, true, true, true, true, true, true, true, false, false, false, false, false] rfl rfl (by kernel_rfl) (fun _ _ _ h => h) (Or.inl ⟨by rfl, ?_⟩) hHeld ?_ ?_
      rotate_left
      · rintro w' ⟨s0, s1⟩
        go_simp
        with_reducible rfl
      rotate_left
      · simp only [Act.put, List.setIfInBounds_toArray, List.set_cons_zero, List.set_cons_succ, i64_w, i32_w]
        rfl
      refine pure_ (i := 12) (N := some 48) (v := ?_) (a' := ?_) #[true, true, true, true, true, true, true, true, true, true, true, true, true, false, false, false, false] rfl rfl (by kernel_rfl) (fun _ _ _ h => h) (Or.inl ⟨by rfl, ?_⟩) ?_ ?_
      rotate_left
      · intro w'
        go_simp
        with_reducible rfl
      rotate_left
      · simp only [Act.put, List.setIfInBounds_toArray, List.set_cons_zero, List.set_cons_succ, i64_w, i32_w]
        rfl
      refine pure_ (i := 13) (N := some 49) (v := ?_) (a' := ?_) #[true, true, true, true, true, true, true, true, true, true, true, true, true, true, false, false, false] rfl rfl (by kernel_rfl) (fun _ _ _ h => h) (Or.inl ⟨by rfl, ?_⟩) ?_ ?_
      rotate_left
      · intro w'
        go_simp
        with_reducible rfl
      rotate_left
      · simp only [Act.put, List.setIfInBounds_toArray, List.set_cons_zero, List.set_cons_succ, i64_w, i32_w]
        rfl
      refine one_ (i := 14) (N := some 50) #[true, true, true, true, true, true, true, true, true, true, true, true, true, true, true, false, false] rfl rfl (by kernel_rfl) (by decide) (fun K hK => ?_)
      refine value_ (w1 := ?_) (v := ?_) (by rfl) rfl ?_ ?_
      rotate_left 2
      · go_simp
        constructor
        · rfl
        · rfl
      refine hK.out _ _ ⟨((below_alloc (Below.refl _ _) _).cell (World.block_lt_of_cell? _ _ hHeld.1)).trans hHeld.1, ((below_alloc (Below.refl _ _) _).cell (World.block_lt_of_cell? _ _ hHeld.2)).trans hHeld.2⟩ (fun hHeld => ?_)
      clear hK K
      refine norm_ (a' := ?_) ?_ ?_
      rotate_left
      · show Act.put _ (some 50) _ = _
        simp only [Act.put, List.setIfInBounds_toArray, List.set_cons_zero, List.set_cons_succ, i64_w, i32_w]
        rfl
      refine one_ (i := 15) (N := some 51) #[true, true, true, true, true, true, true, true, true, true, true, true, true, true, true, true, false] rfl rfl (by kernel_rfl) (by decide) (fun K hK => ?_)
      refine Kd.R_append_step k32 (w0 := w) w.heap.size (by rfl) (.tmp 36) (.tmp 50) 22 32 (.agg #[.int .i64 0, .int .i64 0]) 16 rfl Tryd.underlying22 info32 rfl (by decide) (by omega) u3 xs (few1 x) [.int .i64 (Go.bits .and .i64 x.f0 65535), .int .i64 (Go.bits .and .i64 x.f1 4294967295)] (fun _ => True) (fun _ => False) rfl rfl ?aP ?aK ?aF ?aO ?aB ?aS ?aL ?_
      (case aP => exact k32_mkM _ _ _ (few1 x))
      (case aK => exact fun _ h => h.elim)
      (case aF => exact fun _ _ => trivial)
      (case aO => exact HO_.out)
      (case aB => exact HB_.out)
      (case aS => exact HB_.out.size)
      (case aL => have := HXL.out; omega)
      intro v5 w5 ho hb hg hat
      have HO5 := Aside0.mk ho
      have HB5 := Aside0.mk hb
      clear ho hb hg hat
      refine hK.out _ _ ⟨(HB5.out.cell (World.block_lt_of_cell? w _ HC0.out)).trans HC0.out, (HB5.out.cell (World.block_lt_of_cell? w _ HC1.out)).trans HC1.out⟩ (fun hHeld => ?_)
      clear hK K
      refine norm_ (a' := ?_) ?_ ?_
      rotate_left
      · show Act.put _ (some 51) _ = _
        simp only [Act.put, List.setIfInBounds_toArray, List.set_cons_zero, List.set_cons_succ, i64_w, i32_w]
        rfl
      refine pure_ (i := 16) (N := some 3) (v := ?_) (a' := ?_) #[true, true, true, true, true, true, true, true, true, true, true, true, true, true, true, true, true] rfl rfl (by kernel_rfl) (fun _ _ _ h => h) (Or.inl ⟨by rfl, ?_⟩) ?_ ?_
      rotate_left
      · intro w'
        go_simp
        with_reducible rfl
      rotate_left
      · simp only [Act.put, List.setIfInBounds_toArray, List.set_cons_zero, List.set_cons_succ, i64_w, i32_w]
        rfl
      refine done_ (by kernel_rfl) ?_
      repeat (rename World.cell? _ _ = _ ∧ _ => hh; clear hh)
      go_wp2_with fail
      go_roundw
      case rel => exact ⟨j, xs ++ [few1 x], rfl, HXN, ⟨by have := HJ.out; omega⟩, HO5, HB5⟩
      case measure =>
        show ((l.length : Int) - (j : Int)).toNat < ((l.length : Int) - (i : Int)).toNat
        have := HJ.out
        omega
    · have HE : Aside0 (xs = few50 l) := ⟨by rw [HX.out]; exact few50_end l i HI.out.1 HI.out.2 (by omega)⟩
      have HNB := Aside0.mk hb12
      clear hb12 HI HX
      go_upto_region 5 with fail
      go_cut [33] from 26 to 33 (fun v wc => v = .bool false ∧ Aside0 (wc = wr))
      case first =>
        by_cases h1 : i < l.length
        · have d1 : decide ((i : Int) < (l.length : Int)) = true := decide_eq_true (by omega)
          have d2 : decide (i < l.length) = true := decide_eq_true h1
          have d3 : decide ((i : Int) < 50) = false := decide_eq_false (by have := HNB.out; omega)
          have d4 : decide (i < 50) = false := decide_eq_false (by have := HNB.out; omega)
          go_wp2_with fail
          go_meet
          case rel => exact ⟨rfl, ⟨rfl⟩⟩
        · have d1 : decide ((i : Int) < (l.length : Int)) = false := decide_eq_false (by omega)
          have d2 : decide (i < l.length) = false := decide_eq_false h1
          go_wp2_with fail
          go_meet
          case rel => exact ⟨rfl, ⟨rfl⟩⟩
      case rest =>
        obtain ⟨rfl, HWC⟩ := hcut
        rw [HWC.out]
        clear HWC HNB
        obtain ⟨P, hP⟩ : ∃ P, few50 l = P := ⟨_, rfl⟩
        have hpar := few50_par l
        have hlen := few50_len l
        have HO2 := HO.out
        rw [HE.out, hP] at HO2
        rw [hP] at hpar hlen
        obtain ⟨bp, cp, e3, hbp, _⟩ := Kd.R_form HO2 hlen.2
        subst e3
        have RP0 := Aside0.mk HO2
        have HPL := Aside0.mk hlen
        have HPAR := Aside0.mk hpar
        have HBP := Aside0.mk hbp
        have LB := HB
        clear HO HE hP hpar hlen HO2 hbp HR HB
        obtain ⟨sb, hsb⟩ : ∃ s, setB P = s := ⟨_, rfl⟩
        have HSB : Aside0 (sb.size ≤ 400) := ⟨by rw [← hsb, setB_size]; have := HPL.out; omega⟩
        obtain ⟨T0, hT0⟩ : ∃ t : ByteArray, t = (sb ++ sb) ++ sb := ⟨_, rfl⟩
        obtain ⟨t1, ht1, hx1⟩ := set_first P HPAR.out HPL.out.1 T0 (sb.data.toList ++ sb.data.toList) (by rw [hT0, hsb]; simp only [ByteArray.data_append, Array.toList_append, List.append_assoc])
        obtain ⟨t2, ht2, hx2⟩ := set_first P HPAR.out HPL.out.1 t1 sb.data.toList (by rw [ht1, hsb])
        obtain ⟨t3, ht3, hx3⟩ := set_first P HPAR.out HPL.out.1 t2 [] (by rw [ht2, hsb, List.append_nil])
        have HX1 := Aside0.mk hx1
        have HX2 := Aside0.mk hx2
        have HX3 := Aside0.mk hx3
        have HTZ : Aside0 (T0.size ≤ 2000) := ⟨by rw [hT0]; simp only [ByteArray.size_append]; have := HSB.out; omega⟩
        have HZ1 : Aside0 (t1.size ≤ 2000) := ⟨by rw [ba_size, ht1, List.length_append, ← ba_size]; have := HSB.out; omega⟩
        have HZ2 : Aside0 (t2.size ≤ 2000) := ⟨by rw [ba_size, ht2, ← ba_size]; have := HSB.out; omega⟩
        have HPT : Aside0 (pushF (newF false 16384) T0 = fdW T0) := ⟨push_new T0⟩
        have HT0 := Aside0.mk hT0
        have hsz : sb.size + sb.size + sb.size ≤ 9223372036854775807 := by have := HSB.out; omega
        clear hx1 hx2 hx3 ht1 ht2 ht3 hT0
        go_upto_region 9 with (go_at_call 16; refine (write_set P HPAR.out HPL.out.1 (some ⟨bp, 0, none⟩) cp _ (HG.out.below LB.out) (Kd.R_reads' RP0.out).2.2).mono ?_; rintro e w8 ⟨rfl, hb⟩; rw [hsb]; have RP1 := Aside0.mk (Kd.R_below RP0.out hb); have LC := Aside0.mk (below_then LB.out LB.out.size hb); clear hb)
        clear RP0 LB hsb
        go_upto_region 10 with (go_at_call 31; refine (new_calls false 16384 _).mono ?_; rintro e w3 ⟨rfl, hf, hb⟩; have F3_ := Aside0.mk hf; have P1_ := Aside0.mk (Kd.R_below RP1.out hb); have L2_ := Aside0.mk (below_then LC.out LC.out.size hb); clear hf hb)
        obtain ⟨gF, hg⟩ : ∃ g, w8.heap.size = g := ⟨_, rfl⟩
        have HFW : Aside0 (w.heap.size ≤ gF) := ⟨by have := LC.out.size; omega⟩
        rw [hg] at F3_ ⊢
        clear hg RP1 LC
        go_upto_region 13 with (go_at_call 32; refine (push_calls gF (newF false 16384) ((sb ++ sb) ++ sb) _ F3_.out (by rw [← HT0.out]; show 0 + T0.size ≤ _; have := HTZ.out; omega)).mono ?_; rintro e w6 ⟨rfl, hf, hc⟩; rw [← HT0.out, HPT.out] at hf; have P4_ := Aside0.mk (hc.row F3_.out P1_.out); have F5_ := Aside0.mk hf; have L6_ := Aside0.mk (hc.below L2_.out HFW.out L2_.out.size); clear hf hc)
        go_upto_region 14 with (go_at_call 36; refine (next_set gF P T0 t1 _ (HG.out.below L6_.out) F5_.out (by have := HTZ.out; omega) HPL.out.2 HX1.out).mono ?_; rintro e w10 ⟨bx, cx, rfl, hbx, hr, hf, hc⟩; have NPU : Aside0 (bp ≠ bx) := ⟨by have := Kd.R_lt P4_.out bp (by simp [Value.ownBlock]); omega⟩; have hr2 := Kd.R_lower hr L6_.out.size; have BU : Aside0 (w.heap.size ≤ bx) := ⟨by have := L6_.out.size; omega⟩; have P7_ := Aside0.mk (hc.row F5_.out P4_.out); have F8_ := Aside0.mk hf; have L9_ := Aside0.mk (hc.below L6_.out HFW.out L6_.out.size); have U10_ := Aside0.mk hr2; clear hf hc hr hr2 hbx)
        obtain ⟨Wa, hW⟩ : ∃ W, (w10.alloc (.cells #[.int .i64 4, .int .i64 0, .int .i64 0, .string ByteArray.empty, .int .i64 0, .int .i64 0, .bool false, .int .i64 0, .int .i64 0, .int .i64 0, .slice (some ⟨bx, 0, none⟩) P.length cx] 24)).alloc (.cells #[.int .i64 0, .int .i64 0] 35) = W := ⟨_, rfl⟩
        obtain ⟨xa, hx⟩ : ∃ g, w10.heap.size = g := ⟨_, rfl⟩
        obtain ⟨ya, hy⟩ : ∃ g, xa + 1 = g := ⟨_, rfl⟩
        have hb : Below w10.heap.size w10 Wa := by rw [← hW]; exact below_alloc (below_alloc (Below.refl _ _) _) _
        have P11_ := Aside0.mk (Kd.R_below P7_.out hb)
        have F12_ := Aside0.mk (F8_.out.low hb)
        have U13_ := Aside0.mk (Kd.R_below U10_.out hb)
        have L14_ := Aside0.mk (below_then L9_.out L9_.out.size hb)
        have Xa15_ : Aside0 (Wa.heap[xa]? = some (.cells #[.int .i64 4, .int .i64 0, .int .i64 0, .string ByteArray.empty, .int .i64 0, .int .i64 0, .bool false, .int .i64 0, .int .i64 0, .int .i64 0, .slice (some ⟨bx, 0, none⟩) P.length cx] 24 (0, 0))) := ⟨by rw [← hW, ← hx]; exact heap_alloc2_old _ _ _⟩
        have Ya16_ : Aside0 (Wa.heap[ya]? = some (.cells #[.int .i64 0, .int .i64 0] 35 (0, 0))) := ⟨by rw [← hy, ← hW, ← hx]; exact heap_alloc2_new _ _ _⟩
        have hyw : w.heap.size ≤ ya := by have h := L9_.out.size; omega
        have hxw : w.heap.size ≤ xa := by have h := L9_.out.size; omega
        rw [hW, hx, hy]
        clear hW hx hy hb
        clear hyw hxw
        go_upto_region 15 with (go_at_call 36; refine (next_set gF P t1 t2 _ (HG.out.below L14_.out) F12_.out (by have := HZ1.out; omega) HPL.out.2 HX2.out).mono ?_; rintro e w23 ⟨by_, cy, rfl, hbx, hr, hf, hc⟩; have NPV : Aside0 (bp ≠ by_) := ⟨by have := Kd.R_lt P11_.out bp (by simp [Value.ownBlock]); omega⟩; have NUV : Aside0 (bx ≠ by_) := ⟨by have := Kd.R_lt U13_.out bx (by simp [Value.ownBlock]); omega⟩; have hr2 := Kd.R_lower hr L14_.out.size; have BV : Aside0 (w.heap.size ≤ by_) := ⟨by have := L14_.out.size; omega⟩; have P17_ := Aside0.mk (hc.row F12_.out P11_.out); have F18_ := Aside0.mk hf; have U19_ := Aside0.mk (hc.row F12_.out U13_.out); have Xa20_ := Aside0.mk (hc.blk Xa15_.out (blk_ne Xa15_.out F12_.out (by decide))); have Ya21_ := Aside0.mk (hc.blk Ya16_.out (blk_ne Ya16_.out F12_.out (by decide))); have L22_ := Aside0.mk (hc.below L14_.out HFW.out L14_.out.size); have V23_ := Aside0.mk hr2; clear hf hc hr hr2 hbx)
        obtain ⟨Wb, hW⟩ : ∃ W, (w23.alloc (.cells #[.int .i64 4, .int .i64 0, .int .i64 0, .string ByteArray.empty, .int .i64 0, .int .i64 0, .bool false, .int .i64 0, .int .i64 0, .int .i64 0, .slice (some ⟨by_, 0, none⟩) P.length cy] 24)).alloc (.cells #[.int .i64 0, .int .i64 0] 35) = W := ⟨_, rfl⟩
        obtain ⟨xb, hx⟩ : ∃ g, w23.heap.size = g := ⟨_, rfl⟩
        obtain ⟨yb, hy⟩ : ∃ g, xb + 1 = g := ⟨_, rfl⟩
        have hb : Below w23.heap.size w23 Wb := by rw [← hW]; exact below_alloc (below_alloc (Below.refl _ _) _) _
        have P24_ := Aside0.mk (Kd.R_below P17_.out hb)
        have F25_ := Aside0.mk (F18_.out.low hb)
        have U26_ := Aside0.mk (Kd.R_below U19_.out hb)
        have Xa27_ := Aside0.mk (blk_below Xa20_.out hb)
        have Ya28_ := Aside0.mk (blk_below Ya21_.out hb)
        have V29_ := Aside0.mk (Kd.R_below V23_.out hb)
        have L30_ := Aside0.mk (below_then L22_.out L22_.out.size hb)
        have Xb31_ : Aside0 (Wb.heap[xb]? = some (.cells #[.int .i64 4, .int .i64 0, .int .i64 0, .string ByteArray.empty, .int .i64 0, .int .i64 0, .bool false, .int .i64 0, .int .i64 0, .int .i64 0, .slice (some ⟨by_, 0, none⟩) P.length cy] 24 (0, 0))) := ⟨by rw [← hW, ← hx]; exact heap_alloc2_old _ _ _⟩
        have Yb32_ : Aside0 (Wb.heap[yb]? = some (.cells #[.int .i64 0, .int .i64 0] 35 (0, 0))) := ⟨by rw [← hy, ← hW, ← hx]; exact heap_alloc2_new _ _ _⟩
        have hyw : w.heap.size ≤ yb := by have h := L22_.out.size; omega
        have hxw : w.heap.size ≤ xb := by have h := L22_.out.size; omega
        rw [hW, hx, hy]
        clear hW hx hy hb
        clear hyw hxw
        have P33_ := Aside0.mk (Rw.ofR P24_.out)
        repeat (rename World.cell? _ _ = _ => hh; clear hh)
        have qXa10 := blk_cell Xa27_.out 10
        have qXb10 := blk_cell Xb31_.out 10
        go_upto_region 17 with fail
        repeat (rename World.cell? _ _ = _ => hh; clear hh)
        clear hsz HX1 HX2 HT0 HTZ HZ1 HPT
        go_upto_if 18 with fail
        go_loopw [14] (fun v w' => ∃ i : Nat, v = .int .i64 (i : Int) ∧ Aside0 (i ≤ P.length) ∧ Aside0 (Rw w' bp P) ∧ Aside0 (FAt w' gF (fdW t2)) ∧ Aside0 (Kd.R k32 32 w' w.heap.size (fun _ => True) (.slice (some ⟨bx, 0, none⟩) P.length cx) P) ∧ Aside0 (Kd.R k32 32 w' w.heap.size (fun _ => True) (.slice (some ⟨by_, 0, none⟩) P.length cy) P) ∧ Aside0 (w'.heap[xa]? = some (.cells #[.int .i64 4, .int .i64 0, .int .i64 0, .string ByteArray.empty, .int .i64 0, .int .i64 0, .bool false, .int .i64 0, .int .i64 0, .int .i64 0, .slice (some ⟨bx, 0, none⟩) P.length cx] 24 (0, 0))) ∧ Aside0 (w'.heap[xb]? = some (.cells #[.int .i64 4, .int .i64 0, .int .i64 0, .string ByteArray.empty, .int .i64 0, .int .i64 0, .bool false, .int .i64 0, .int .i64 0, .int .i64 0, .slice (some ⟨by_, 0, none⟩) P.length cy] 24 (0, 0))) ∧ Aside0 (Below w.heap.size w w')) (fun v _ => ((P.length : Int) - intOf v).toNat)
        case atStart => exact ⟨0, rfl, ⟨Nat.zero_le _⟩, P33_, F25_, U26_, V29_, Xa27_, Xb31_, L30_⟩
        case round =>
          clear P33_ F25_ U26_ V29_ Xa27_ Xb31_ L30_
          obtain ⟨i, rfl, HI, Pi_, Fi_, Ui_, Vi_, Xai_, Xbi_, Li_⟩ := hrel
          by_cases hik : i < P.length
          · have d1 : decide ((i : Int) < (P.length : Int)) = true := decide_eq_true (by omega)
            have d2 : decide (i < P.length) = true := decide_eq_true (by omega)
            obtain ⟨j, hj⟩ : ∃ j, i + 1 = j := ⟨_, rfl⟩
            have hw1 : wrap64 ((i : Int) + 1) = (j : Int) := by have := HPL.out; unfold wrap64; omega
            have HIK : Aside0 (i < P.length ∧ i + 1 = j) := ⟨hik, hj⟩
            have p0 : (0 : Int) ≤ (i : Int) := by omega
            have p1 : (i : Int) < (P.length : Int) := by omega
            obtain ⟨x, hx⟩ : ∃ x, rd_T32 P (i : Int) = x := ⟨_, rfl⟩
            obtain ⟨cP0, cP1⟩ := Pi_.out.row i hik
            obtain ⟨cU0, cU1⟩ := (Rw.ofR Ui_.out).row i hik
            obtain ⟨cV0, cV1⟩ := (Rw.ofR Vi_.out).row i hik
            rw [hx] at cP0 cP1 cU0 cU1 cV0 cV1
            have qXa10 := blk_cell Xai_.out 10
            have qXb10 := blk_cell Xbi_.out 10
            clear hj hx
            go_upto_region 20 with fail
            go_quiet (fail)
            obtain ⟨W9, hW9⟩ : ∃ W, wr.drewN nq = W := ⟨_, rfl⟩
            have hb : Below wr.heap.size wr W9 := by rw [← hW9]; exact pw_below_drewN (Below.refl _ _) nq
            have P34_ := Aside0.mk (Pi_.out.low hb)
            have F35_ := Aside0.mk (Fi_.out.low hb)
            have U36_ := Aside0.mk (Kd.R_below Ui_.out hb)
            have Xa37_ := Aside0.mk (blk_below Xai_.out hb)
            have V38_ := Aside0.mk (Kd.R_below Vi_.out hb)
            have Xb39_ := Aside0.mk (blk_below Xbi_.out hb)
            have L40_ := Aside0.mk (below_then Li_.out Li_.out.size hb)
            rw [hW9]
            clear hW9 hb
            go_wp2_with fail
            go_roundw
            case rel => exact ⟨j, congrArg (Value.int .i64) hw1, ⟨by have := HIK.out; omega⟩, P34_, F35_, U36_, V38_, Xa37_, Xb39_, L40_⟩
            case measure =>
              rw [hw1]
              show ((P.length : Int) - (j : Int)).toNat < ((P.length : Int) - (i : Int)).toNat
              have := HIK.out
              omega
          · have d1 : decide ((i : Int) < (P.length : Int)) = false := decide_eq_false (by omega)
            have d2 : decide (i < P.length) = false := decide_eq_false (by omega)
            clear hik HI
            go_upto_region 22 with fail
            have o0 : ovr P 0 = P := rfl
            go_upto_if 23 with fail
            go_loopw [15] (fun v w' => ∃ i : Nat, v = .int .i64 (i : Int) ∧ Aside0 (i ≤ P.length) ∧ Aside0 (Rw w' bp P) ∧ Aside0 (FAt w' gF (fdW t2)) ∧ Aside0 (Kd.R k32 32 w' w.heap.size (fun _ => True) (.slice (some ⟨bx, 0, none⟩) P.length cx) (ovr P i)) ∧ Aside0 (Kd.R k32 32 w' w.heap.size (fun _ => True) (.slice (some ⟨by_, 0, none⟩) P.length cy) P) ∧ Aside0 (w'.heap[xa]? = some (.cells #[.int .i64 4, .int .i64 0, .int .i64 0, .string ByteArray.empty, .int .i64 0, .int .i64 0, .bool false, .int .i64 0, .int .i64 0, .int .i64 0, .slice (some ⟨bx, 0, none⟩) P.length cx] 24 (0, 0))) ∧ Aside0 (w'.heap[xb]? = some (.cells #[.int .i64 4, .int .i64 0, .int .i64 0, .string ByteArray.empty, .int .i64 0, .int .i64 0, .bool false, .int .i64 0, .int .i64 0, .int .i64 0, .slice (some ⟨by_, 0, none⟩) P.length cy] 24 (0, 0))) ∧ Aside0 (Below w.heap.size w w')) (fun v _ => ((P.length : Int) - intOf v).toNat)
            case atStart => exact ⟨0, rfl, ⟨Nat.zero_le _⟩, Pi_, Fi_, Ui_, Vi_, Xai_, Xbi_, Li_⟩
            case round =>
              clear Pi_ Fi_ Ui_ Vi_ Xai_ Xbi_ Li_
              obtain ⟨i, rfl, HI, Pj_, Fj_, Uj_, Vj_, Xaj_, Xbj_, Lj_⟩ := hrel
              by_cases hik : i < P.length
              · have d1 : decide ((i : Int) < (P.length : Int)) = true := decide_eq_true (by omega)
                have d2 : decide (i < P.length) = true := decide_eq_true (by omega)
                obtain ⟨j, hj⟩ : ∃ j, i + 1 = j := ⟨_, rfl⟩
                have hw1 : wrap64 ((i : Int) + 1) = (j : Int) := by have := HPL.out; unfold wrap64; omega
                have HIK : Aside0 (i < P.length ∧ i + 1 = j) := ⟨hik, hj⟩
                have p0 : (0 : Int) ≤ (i : Int) := by omega
                have p1 : (i : Int) < (P.length : Int) := by omega
                obtain ⟨cc, hcl, hcM, hcc, hcf⟩ := Kd.R_elem Uj_.out z32 (i : Int) p0 p1
                obtain ⟨cu, hcu⟩ := (Rw.ofR Uj_.out).blk
                have HCE := Aside0.mk (k32_openM hcM)
                have HCL := Aside0.mk hcl
                have HCC := Aside0.mk hcc
                have HCU := Aside0.mk hcu
                clear hcl hcM hcc hcf hcu
                have qXa10 := blk_cell Xaj_.out 10
                clear hj hik
                go_wp2_with ((with_reducible refine gate_ (.store 32 (.tmp 136) (.tmp 135)) rfl ?_); refine Kd.R_store k32 (w0 := w) w.heap.size rfl rfl 32 (.tmp 136) (.tmp 135) rfl 32 (g := bx) (n := P.length) (cap := cx) (i : Int) 0 (ovr P i) ⟨-1, 0⟩ (.agg #[.int .i64 (-1), .int .i64 0]) [.int .i64 (-1), .int .i64 0] cc (fun _ => True) (fun _ => False) rfl ?off rfl rfl (by kernel_rfl) ?one Uj_.out p0 p1 HCL.out HCC.out (by decide) ?M (fun _ h => h.elim) Lj_.out ?_; (case off => rw [Int.toNat_natCast]; rfl); (case one => intro q hq; simp only [List.mem_cons, List.not_mem_nil, or_false] at hq; rcases hq with rfl | rfl <;> rfl); (case M => rw [HCE.out]; exact k32_mkM _ _ _ (⟨-1, 0⟩ : S32)); intro w9 ho hb hg; have P41_ := Aside0.mk (Pj_.out.grown hg NPU.out); have F42_ : Aside0 (FAt _ gF (fdW t2)) := ⟨blk_grown Fj_.out hg (by simpa using (blk_ne Fj_.out HCU.out (by decide)))⟩; have Xa43_ := Aside0.mk (blk_grown Xaj_.out hg (by simpa using (blk_ne Xaj_.out HCU.out (by decide)))); have V44_ := Aside0.mk (row_grown Vj_.out hg NUV.out.symm); have Xb45_ := Aside0.mk (blk_grown Xbj_.out hg (by simpa using (blk_ne Xbj_.out HCU.out (by decide)))); have L46_ := Aside0.mk hb; have U47_ : Aside0 (Kd.R k32 32 _ w.heap.size (fun _ => True) (.slice (some ⟨bx, 0, none⟩) P.length cx) (ovr P j)) := ⟨by rw [← HIK.out.2, ← ovr_set P i HIK.out.1]; exact ho⟩; clear ho hb hg)
                go_roundw
                case rel => exact ⟨j, congrArg (Value.int .i64) hw1, ⟨by have := HIK.out; omega⟩, P41_, F42_, U47_, V44_, Xa43_, Xb45_, L46_⟩
                case measure =>
                  rw [hw1]
                  show ((P.length : Int) - (j : Int)).toNat < ((P.length : Int) - (i : Int)).toNat
                  have := HIK.out
                  omega
              · have d1 : decide ((i : Int) < (P.length : Int)) = false := decide_eq_false (by omega)
                have d2 : decide (i < P.length) = false := decide_eq_false (by omega)
                have hie : i = P.length := by have := HI.out; omega
                subst hie
                clear hik HI
                skip
                obtain ⟨cu, hcu⟩ := (Rw.ofR Uj_.out).blk
                have HCU := Aside0.mk hcu
                clear hcu
                have qXa10 := blk_cell Xaj_.out 10
                go_upto_region 27 with ((with_reducible refine gate_builtin (b := .append) (xs := #[.tmp 138, .tmp 140]) rfl ?_); at_builtin; refine R_append_keep k32 (w0 := w) w.heap.size rfl (.tmp 138) (.tmp 140) 22 32 (.agg #[.int .i64 0, .int .i64 0]) 16 rfl Tryd.underlying22 info32 rfl (by decide) (by omega) bx P.length cx (ovr P P.length) ⟨-2, 0⟩ [.int .i64 (-2), .int .i64 0] (fun _ => True) (fun _ => False) rfl rfl (k32_mkM _ _ _ (⟨-2, 0⟩ : S32)) (fun _ h => h.elim) (fun _ _ => trivial) Uj_.out Lj_.out Lj_.out.size ?aL ?_; (case aL => rw [ovr_len _ _ (Nat.le_refl _)]; have := HPL.out.1; omega); intro v9 w9 ho hb hg hat hC hE; obtain ⟨ba, ca, ev, _, hbl, _⟩ := Kd.R_form ho (by simp); subst ev; rw [List.length_append, List.length_singleton, ovr_len _ _ (Nat.le_refl _)] at ho ⊢; have hrw := Rw.ofR ho; have NPA : Aside0 (bp ≠ ba) := ⟨new_ne hat NPU.out (Pj_.out.lt)⟩; have NVA : Aside0 (by_ ≠ ba) := ⟨new_ne hat NUV.out.symm (Kd.R_lt Vj_.out by_ (by simp [Value.ownBlock]))⟩; have P48_ := Aside0.mk (Pj_.out.grown hg NPU.out); have F49_ : Aside0 (FAt _ gF (fdW t2)) := ⟨blk_grown Fj_.out hg (by simpa using (blk_ne Fj_.out HCU.out (by decide)))⟩; have Xa50_ := Aside0.mk (blk_grown Xaj_.out hg (by simpa using (blk_ne Xaj_.out HCU.out (by decide)))); have V51_ := Aside0.mk (row_grown Vj_.out hg NUV.out.symm); have Xb52_ := Aside0.mk (blk_grown Xbj_.out hg (by simpa using (blk_ne Xbj_.out HCU.out (by decide)))); have L53_ := Aside0.mk hb; have U54_ := Aside0.mk (Rw.ofC hC hE); have A55_ := Aside0.mk hrw; clear ho hb hg hat hC hE hrw hbl)
                repeat (rename World.cell? _ _ = _ => hh; clear hh)
                clear HCU
                obtain ⟨cu, hcu⟩ := (Rw.ofR V51_.out).blk
                have HCU := Aside0.mk hcu
                clear hcu
                have qXb10 := blk_cell Xb52_.out 10
                go_upto_region 28 with ((with_reducible refine gate_builtin (b := .append) (xs := #[.tmp 143, .tmp 145]) rfl ?_); at_builtin; refine R_append_keep k32 (w0 := w) w.heap.size rfl (.tmp 143) (.tmp 145) 22 32 (.agg #[.int .i64 0, .int .i64 0]) 16 rfl Tryd.underlying22 info32 rfl (by decide) (by omega) by_ P.length cy (P) ⟨-3, 0⟩ [.int .i64 (-3), .int .i64 0] (fun _ => True) (fun _ => False) rfl rfl (k32_mkM _ _ _ (⟨-3, 0⟩ : S32)) (fun _ h => h.elim) (fun _ _ => trivial) V51_.out L53_.out L53_.out.size ?aL ?_; (case aL => have := HPL.out.1; omega); intro v9 w9 ho hb hg hat hC hE; obtain ⟨bc, cc, ev, _, hbl, _⟩ := Kd.R_form ho (by simp); subst ev; rw [List.length_append, List.length_singleton] at ho ⊢; have hrw := Rw.ofR ho; have NPC : Aside0 (bp ≠ bc) := ⟨new_ne hat NPV.out (P48_.out.lt)⟩; have NUC : Aside0 (bx ≠ bc) := ⟨new_ne hat NUV.out (U54_.out.lt)⟩; have NAC : Aside0 (ba ≠ bc) := ⟨new_ne hat NVA.out.symm (A55_.out.lt)⟩; have P56_ := Aside0.mk (P48_.out.grown hg NPV.out); have F57_ : Aside0 (FAt _ gF (fdW t2)) := ⟨blk_grown F49_.out hg (by simpa using (blk_ne F49_.out HCU.out (by decide)))⟩; have U58_ := Aside0.mk (U54_.out.grown hg NUV.out); have Xa59_ := Aside0.mk (blk_grown Xa50_.out hg (by simpa using (blk_ne Xa50_.out HCU.out (by decide)))); have Xb60_ := Aside0.mk (blk_grown Xb52_.out hg (by simpa using (blk_ne Xb52_.out HCU.out (by decide)))); have A61_ := Aside0.mk (A55_.out.grown hg NVA.out.symm); have L62_ := Aside0.mk hb; have V63_ := Aside0.mk (Rw.ofC hC hE); have C64_ := Aside0.mk hrw; clear ho hb hg hat hC hE hrw hbl)
                repeat (rename World.cell? _ _ = _ => hh; clear hh)
                clear HCU
                go_upto_region 29 with (go_at_call 36; refine (next_set gF P t2 t3 _ (HG.out.below L62_.out) F57_.out (by have := HZ2.out; omega) HPL.out.2 HX3.out).mono ?_; rintro e w72 ⟨bz, cz, rfl, hbx, hr, hf, hc⟩; have NPZ3 : Aside0 (bp ≠ bz) := ⟨by have := P56_.out.lt; omega⟩; have NUZ3 : Aside0 (bx ≠ bz) := ⟨by have := U58_.out.lt; omega⟩; have NAZ3 : Aside0 (ba ≠ bz) := ⟨by have := A61_.out.lt; omega⟩; have NCZ3 : Aside0 (bc ≠ bz) := ⟨by have := C64_.out.lt; omega⟩; have hr2 := Kd.R_lower hr L62_.out.size; have BZ3 : Aside0 (w.heap.size ≤ bz) := ⟨by have := L62_.out.size; omega⟩; have P65_ := Aside0.mk (hc.rw F57_.out P56_.out); have F66_ := Aside0.mk hf; have U67_ := Aside0.mk (hc.rw F57_.out U58_.out); have Xa68_ := Aside0.mk (hc.blk Xa59_.out (blk_ne Xa59_.out F57_.out (by decide))); have A69_ := Aside0.mk (hc.rw F57_.out A61_.out); have C70_ := Aside0.mk (hc.rw F57_.out C64_.out); have L71_ := Aside0.mk (hc.below L62_.out HFW.out L62_.out.size); have Z372_ := Aside0.mk hr2; clear hf hc hr hr2 hbx)
                obtain ⟨Wc, hW⟩ : ∃ W, (w72.alloc (.cells #[.int .i64 4, .int .i64 0, .int .i64 0, .string ByteArray.empty, .int .i64 0, .int .i64 0, .bool false, .int .i64 0, .int .i64 0, .int .i64 0, .slice (some ⟨bz, 0, none⟩) P.length cz] 24)).alloc (.cells #[.int .i64 0, .int .i64 0] 35) = W := ⟨_, rfl⟩
                obtain ⟨xc, hx⟩ : ∃ g, w72.heap.size = g := ⟨_, rfl⟩
                obtain ⟨yc, hy⟩ : ∃ g, xc + 1 = g := ⟨_, rfl⟩
                have hb : Below w72.heap.size w72 Wc := by rw [← hW]; exact below_alloc (below_alloc (Below.refl _ _) _) _
                have P73_ := Aside0.mk (P65_.out.low hb)
                have F74_ := Aside0.mk (F66_.out.low hb)
                have U75_ := Aside0.mk (U67_.out.low hb)
                have Xa76_ := Aside0.mk (blk_below Xa68_.out hb)
                have A77_ := Aside0.mk (A69_.out.low hb)
                have C78_ := Aside0.mk (C70_.out.low hb)
                have Z379_ := Aside0.mk (Kd.R_below Z372_.out hb)
                have L80_ := Aside0.mk (below_then L71_.out L71_.out.size hb)
                have Xc81_ : Aside0 (Wc.heap[xc]? = some (.cells #[.int .i64 4, .int .i64 0, .int .i64 0, .string ByteArray.empty, .int .i64 0, .int .i64 0, .bool false, .int .i64 0, .int .i64 0, .int .i64 0, .slice (some ⟨bz, 0, none⟩) P.length cz] 24 (0, 0))) := ⟨by rw [← hW, ← hx]; exact heap_alloc2_old _ _ _⟩
                have Yc82_ : Aside0 (Wc.heap[yc]? = some (.cells #[.int .i64 0, .int .i64 0] 35 (0, 0))) := ⟨by rw [← hy, ← hW, ← hx]; exact heap_alloc2_new _ _ _⟩
                have hyw : w.heap.size ≤ yc := by have h := L71_.out.size; omega
                have hxw : w.heap.size ≤ xc := by have h := L71_.out.size; omega
                rw [hW, hx, hy]
                clear hW hx hy hb
                clear hyw hxw
                have Z383_ := Aside0.mk (Rw.ofR Z379_.out)
                go_upto_if 30 with fail
                go_loopw [21] (fun v w' => ∃ i : Nat, v = .int .i64 (i : Int) ∧ Aside0 (i ≤ P.length) ∧ Aside0 (Rw w' bp P) ∧ Aside0 (Rw w' bx (ovr P P.length)) ∧ Aside0 (Rw w' ba (ovr P P.length ++ [⟨-2, 0⟩])) ∧ Aside0 (Rw w' bc (P ++ [⟨-3, 0⟩])) ∧ Aside0 (Rw w' bz P) ∧ Aside0 (w'.heap[xa]? = some (.cells #[.int .i64 4, .int .i64 0, .int .i64 0, .string ByteArray.empty, .int .i64 0, .int .i64 0, .bool false, .int .i64 0, .int .i64 0, .int .i64 0, .slice (some ⟨bx, 0, none⟩) P.length cx] 24 (0, 0))) ∧ Aside0 (w'.heap[xc]? = some (.cells #[.int .i64 4, .int .i64 0, .int .i64 0, .string ByteArray.empty, .int .i64 0, .int .i64 0, .bool false, .int .i64 0, .int .i64 0, .int .i64 0, .slice (some ⟨bz, 0, none⟩) P.length cz] 24 (0, 0))) ∧ Aside0 (Below w.heap.size w w')) (fun v _ => ((P.length : Int) - intOf v).toNat)
                case atStart => exact ⟨0, rfl, ⟨Nat.zero_le _⟩, P73_, U75_, A77_, C78_, Z383_, Xa76_, Xc81_, L80_⟩
                case round =>
                  clear P73_ U75_ A77_ C78_ Z383_ Xa76_ Xc81_ L80_
                  obtain ⟨i, rfl, HI, Pk_, Uk_, Ak_, Ck_, Z3k_, Xak_, Xck_, Lk_⟩ := hrel
                  have qXa10 := blk_cell Xak_.out 10
                  have qXc10 := blk_cell Xck_.out 10
                  by_cases hik : i < P.length
                  · have d1 : decide ((i : Int) < (P.length : Int)) = true := decide_eq_true (by omega)
                    have d2 : decide (i < P.length) = true := decide_eq_true (by omega)
                    obtain ⟨j, hj⟩ : ∃ j, i + 1 = j := ⟨_, rfl⟩
                    have hw1 : wrap64 ((i : Int) + 1) = (j : Int) := by have := HPL.out; unfold wrap64; omega
                    have HIK : Aside0 (i < P.length ∧ i + 1 = j) := ⟨hik, hj⟩
                    have p0 : (0 : Int) ≤ (i : Int) := by omega
                    have p1 : (i : Int) < (P.length : Int) := by omega
                    have p2 : (i : Int) < (P.length : Int) + 1 := by omega
                    obtain ⟨cP0, cP1⟩ := Pk_.out.row i hik
                    obtain ⟨cZ0, cZ1⟩ := Z3k_.out.row i hik
                    obtain ⟨cU0, cU1⟩ := Uk_.out.row i (by rw [ovr_len _ _ (Nat.le_refl _)]; exact hik)
                    obtain ⟨cC0, cC1⟩ := Ck_.out.row i (by rw [List.length_append, List.length_singleton]; omega)
                    rw [ovr_all, rd_rep _ _ hik] at cU0 cU1
                    rw [rd_left _ _ _ hik] at cC0 cC1
                    obtain ⟨x, hx⟩ : ∃ x, rd_T32 P (i : Int) = x := ⟨_, rfl⟩
                    rw [hx] at cP0 cP1 cZ0 cZ1 cC0 cC1
                    have cU : wr.cell? ⟨bx, i * 2, none⟩ = some (.int .i64 (-1)) := cU0
                    clear hj hx cU0 cU1
                    go_upto_region 32 with fail
                    go_quiet (fail)
                    obtain ⟨W9, hW9⟩ : ∃ W, wr.drewN nq = W := ⟨_, rfl⟩
                    have hb : Below wr.heap.size wr W9 := by rw [← hW9]; exact pw_below_drewN (Below.refl _ _) nq
                    have P84_ := Aside0.mk (Pk_.out.low hb)
                    have U85_ := Aside0.mk (Uk_.out.low hb)
                    have Xa86_ := Aside0.mk (blk_below Xak_.out hb)
                    have A87_ := Aside0.mk (Ak_.out.low hb)
                    have C88_ := Aside0.mk (Ck_.out.low hb)
                    have Z389_ := Aside0.mk (Z3k_.out.low hb)
                    have Xc90_ := Aside0.mk (blk_below Xck_.out hb)
                    have L91_ := Aside0.mk (below_then Lk_.out Lk_.out.size hb)
                    rw [hW9]
                    clear hW9 hb
                    go_wp2_with fail
                    go_roundw
                    case rel => exact ⟨j, congrArg (Value.int .i64) hw1, ⟨by have := HIK.out; omega⟩, P84_, U85_, A87_, C88_, Z389_, Xa86_, Xc90_, L91_⟩
                    case measure =>
                      rw [hw1]
                      show ((P.length : Int) - (j : Int)).toNat < ((P.length : Int) - (i : Int)).toNat
                      have := HIK.out
                      omega
                  · have d1 : decide ((i : Int) < (P.length : Int)) = false := decide_eq_false (by omega)
                    have d2 : decide (i < P.length) = false := decide_eq_false (by omega)
                    have hie : i = P.length := by have := HI.out; omega
                    subst hie
                    clear hik HI
                    obtain ⟨cA0, cA1⟩ := Ak_.out.row P.length (by rw [List.length_append, List.length_singleton, ovr_len _ _ (Nat.le_refl _)]; omega)
                    obtain ⟨cC0, cC1⟩ := Ck_.out.row P.length (by rw [List.length_append, List.length_singleton]; omega)
                    rw [rd_last _ _ _ (ovr_len _ _ (Nat.le_refl _)).symm] at cA0
                    rw [rd_last _ _ _ rfl] at cC0
                    have cA : wr.cell? ⟨ba, P.length * 2, none⟩ = some (.int .i64 (-2)) := cA0
                    have cC : wr.cell? ⟨bc, P.length * 2, none⟩ = some (.int .i64 (-3)) := cC0
                    have q0 : (0 : Int) ≤ (P.length : Int) := by omega
                    have q1 : (P.length : Int) < (P.length : Int) + 1 := by omega
                    clear cA0 cA1 cC0 cC1
                    go_wp2_with fail
                    go_ret
                    exact ⟨rfl, Lk_.out⟩
end Go.Proofs.YtoffhlbdfhhhjaaDoor.Fr
