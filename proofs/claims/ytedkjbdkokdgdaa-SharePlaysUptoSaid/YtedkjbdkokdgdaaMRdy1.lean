/- The law's ready: its memory while it runs. Each statement has its own conditions. -/
import Derived.Test.YtedkjbdkokdgdaaMPlays
namespace Go.Proofs.Ytedkjbdkokdgdaa.Sh
open Go Go.RowKit Go.Proofs.YtedkjbdkokdgdaaW.PrintWords Go.Proofs.YtedkjbdkokdgdaaW.PrintLast Go.Proofs.YtedkjbdkokdgdaaW.PrintMore Go.Proofs.Ytedkjbdkokdgdaa.QL
set_option linter.unusedSimpArgs false
set_option linter.unusedVariables false
set_option maxHeartbeats 2000000
set_option maxRecDepth 100000
/-- The list, its first k with nothing left. -/
def zl (l : List S50) (k : Nat) : List S50 := (l.take k).map (fun x => (⟨x.f0, 0⟩ : S50)) ++ l.drop k
theorem zl_zero (l : List S50) : zl l 0 = l := by simp [zl]
theorem zl_len (l : List S50) (k : Nat) : (zl l k).length = l.length := by
  unfold zl
  rw [List.length_append, List.length_map, List.length_take, List.length_drop]
  omega
theorem zl_getElem (l : List S50) (k : Nat) (hk : k < l.length) : (zl l k)[k]? = some l[k] := by
  unfold zl
  have hl : ((l.take k).map (fun x => (⟨x.f0, 0⟩ : S50))).length = k := by rw [List.length_map, List.length_take]; omega
  rw [List.getElem?_append_right (by omega), hl, Nat.sub_self, List.getElem?_drop, Nat.add_zero, List.getElem?_eq_getElem hk]
theorem zl_set (l : List S50) (k : Nat) (hk : k < l.length) (e : List S50) : (zl l k ++ e).set k ⟨(l[k]).f0, 0⟩ = zl l (k + 1) ++ e := by
  unfold zl
  have hl : ((l.take k).map (fun x => (⟨x.f0, 0⟩ : S50))).length = k := by rw [List.length_map, List.length_take]; omega
  rw [List.take_succ_eq_append_getElem hk, List.drop_eq_getElem_cons hk, List.map_append, List.append_assoc, List.append_assoc, List.append_assoc, List.set_append_right _ _ (by omega), hl, Nat.sub_self]
  rfl
theorem zl_f0 (l : List S50) (k : Nat) : (zl l k).map (·.f0) = l.map (·.f0) := by
  unfold zl
  rw [List.map_append, List.map_map]
  show (l.take k).map (·.f0) ++ (l.drop k).map (·.f0) = l.map (·.f0)
  rw [← List.map_append, List.take_append_drop]
theorem zl_f1 (l : List S50) : (zl l l.length).map (·.f1) = List.replicate l.length 0 := by
  unfold zl
  rw [List.take_length, List.drop_length, List.append_nil, List.map_map]
  show l.map (fun _ => (0 : Int)) = _
  rw [List.map_const']
theorem zrep (L : List Int) (n : Nat) (hn : L.length = n) (h : ∀ j, j < n → L[j]? = some 0) : L = List.replicate n 0 := by
  refine List.ext_getElem? fun j => ?_
  rcases Nat.lt_or_ge j n with hj | hj
  · rw [h j hj, List.getElem?_replicate, if_pos hj]
  · rw [List.getElem?_eq_none (by omega), List.getElem?_replicate, if_neg (by omega)]
theorem C_cut {w : World} {A : Option Addr} {xs ys : List S50} (h : Kd.C k50 w A (xs ++ ys).length (xs ++ ys)) : Kd.C k50 w A xs.length xs := by
  refine ⟨rfl, by have := h.2.1; rw [List.length_append] at this; omega, fun h0 => ?_⟩
  obtain ⟨ad, e, hc⟩ := h.2.2 (by rw [List.length_append]; omega)
  refine ⟨ad, e, fun j p hp => hc j p ?_⟩
  have hj := (List.getElem?_eq_some_iff.1 hp).1
  rw [List.getElem?_append_left hj]
  exact hp
/-- Behind the room's making. -/
structure RA (w W : World) (g5 g7 h2 h3 g8 n8 c8 : Nat) (cs : Array Value) (room : List S50) : Prop where
  bx : W.heap[g5]? = some (.cells cs 37 (0, 0))
  km : W.heap[g7]? = some (.cells #[.int .i64 (-7), .int .i64 (-7)] 50 (0, 0))
  be : Below w.heap.size w W
  rm : Kd.R k50 50 W h2 (fun k => k < h3) (.slice (some ⟨g8, 0, none⟩) n8 c8) room
  lt : w.heap.size ≤ g5 ∧ g5 < h2 ∧ g7 < h2 ∧ h2 ≤ g8 ∧ g8 < h3 ∧ h3 ≤ W.heap.size
section
variable {w W W1 : World} {g5 g7 h2 h3 h4 h5 h6 g8 n8 c8 : Nat} {cs : Array Value} {room room' : List S50} {v10 v11 v10' v11' v13 vb : Value} {L0 L1 L1' I Ib : List Int} {P P' : Nat → Prop} {row : Option Nat}
theorem RA.low (h : RA w W g5 g7 h2 h3 g8 n8 c8 cs room) (hb : Below W.heap.size W W1) : RA w W1 g5 g7 h2 h3 g8 n8 c8 cs room :=
  ⟨blk_below h.bx hb, blk_below h.km hb, below_then h.be h.be.size hb, Kd.R_below h.rm hb, by have := h.lt; have := hb.size; omega⟩
theorem RA.grown (h : RA w W g5 g7 h2 h3 g8 n8 c8 cs room) (hg : W.grownBy W1 row) (hr : ∀ k, row = some k → h3 ≤ k) : RA w W1 g5 g7 h2 h3 g8 n8 c8 cs room := by
  have hl := h.lt
  refine ⟨blk_grown h.bx hg (fun e => by have := hr _ e.symm; omega), blk_grown h.km hg (fun e => by have := hr _ e.symm; omega), ?_, Kd.R_grown h.rm hg (fun k hk e => by have := hr _ e.symm; omega), by have := hg.size; omega⟩
  exact h.be.trans ⟨hg.os, hg.tape, hg.output, hg.size, fun k hk => hg.block k (by have := h.be.size; omega) (fun e => by have := hr _ e.symm; omega)⟩
theorem RA.own (h : RA w W g5 g7 h2 h3 g8 n8 c8 cs room) (hR : Kd.R k50 50 W1 h2 (fun k => k < h3) (.slice (some ⟨g8, 0, none⟩) n8 c8) room') (hg : W.grownBy W1 (some g8)) : RA w W1 g5 g7 h2 h3 g8 n8 c8 cs room' := by
  have hl := h.lt
  refine ⟨blk_grown h.bx hg (fun e => by have := Option.some.inj e; omega), blk_grown h.km hg (fun e => by have := Option.some.inj e; omega), ?_, hR, by have := hg.size; omega⟩
  exact h.be.trans ⟨hg.os, hg.tape, hg.output, hg.size, fun k hk => hg.block k (by have := h.be.size; omega) (fun e => by have := Option.some.inj e; omega)⟩
/-- Two rows, apart. -/
structure Pr (W : World) (h3 : Nat) (P : Nat → Prop) (v10 : Value) (L0 : List Int) (v11 : Value) (L1 : List Int) : Prop where
  a : Kd.R (Kd.int .i64) 2 W h3 (fun k => P k ∧ some k ≠ v11.ownBlock) v10 L0
  b : Kd.R (Kd.int .i64) 2 W h3 (fun k => P k ∧ some k ≠ v10.ownBlock) v11 L1
theorem Pr.low (h : Pr W h3 P v10 L0 v11 L1) (hb : Below W.heap.size W W1) : Pr W1 h3 P v10 L0 v11 L1 := ⟨Kd.R_below h.a hb, Kd.R_below h.b hb⟩
theorem Pr.grown (h : Pr W h3 P v10 L0 v11 L1) (hg : W.grownBy W1 row) (hr : ∀ k, P k → h3 ≤ k → some k ≠ row) : Pr W1 h3 P v10 L0 v11 L1 :=
  ⟨Kd.R_mono (Kd.R_grown (Kd.R_bound h.a) hg (fun k hk => hr k hk.1.1 hk.2.1)) (fun _ hk => hk.1), Kd.R_mono (Kd.R_grown (Kd.R_bound h.b) hg (fun k hk => hr k hk.1.1 hk.2.1)) (fun _ hk => hk.1)⟩
theorem Pr.swap (h : Pr W h3 P v10 L0 v11 L1) : Pr W h3 P v11 L1 v10 L0 := ⟨h.b, h.a⟩
/-- The first row grows. -/
theorem Pr.put {L0' : List Int} (h : Pr W h3 (fun _ => True) v10 L0 v11 L1) (hR : Kd.R (Kd.int .i64) 2 W1 h3 (fun k => some k ≠ v11.ownBlock) v10' L0') (hg : W.grownBy W1 v10.ownBlock) (hat : v10'.ownBlock = v10.ownBlock ∨ ∃ b, v10'.ownBlock = some b ∧ W.heap.size ≤ b) : Pr W1 h3 (fun _ => True) v10' L0' v11 L1 := by
  refine ⟨Kd.R_mono hR (fun k hk => ⟨trivial, hk⟩), Kd.R_mono (Kd.R_grown (Kd.R_bound h.b) hg (fun k hk => hk.1.2)) (fun k hk => ⟨trivial, fun e => ?_⟩)⟩
  rcases hat with h1 | ⟨b, h1, h2⟩
  · exact hk.1.2 (e.trans h1)
  · have e1 := Option.some.inj (e.trans h1)
    have := hk.2.2.1
    omega
/-- Its content changes in place. -/
theorem Pr.set (h : Pr W h3 P v10 L0 v11 L1) (hR : Kd.R (Kd.int .i64) 2 W1 h3 (fun k => P k ∧ some k ≠ v10.ownBlock) v11 L1') (hg : W.grownBy W1 v11.ownBlock) : Pr W1 h3 P v10 L0 v11 L1' :=
  ⟨Kd.R_grown h.a hg (fun k hk => hk.2), hR⟩
theorem Pr.bound (h : Pr W h3 P v10 L0 v11 L1) : Pr W h3 (fun k => k < W.heap.size) v10 L0 v11 L1 :=
  ⟨Kd.R_mono (Kd.R_bound h.a) (fun k hk => ⟨hk.2.2.1, hk.1.2⟩), Kd.R_mono (Kd.R_bound h.b) (fun k hk => ⟨hk.2.2.1, hk.1.2⟩)⟩
theorem Pr.nil (W : World) (h3 : Nat) (P : Nat → Prop) : Pr W h3 P (.slice none 0 0) [] (.slice none 0 0) [] := ⟨Kd.R_nil _ _ _ _ _, Kd.R_nil _ _ _ _ _⟩
/-- Behind the first three Readys. -/
structure RC (w W : World) (g5 g7 h2 h3 g8 n8 c8 : Nat) (cs : Array Value) (room : List S50) (h4 : Nat) (v10 : Value) (L0 : List Int) (v11 : Value) (L1 : List Int) (h5 : Nat) (v13 : Value) (I : List Int) (h6 : Nat) (vb : Value) (Ib : List Int) : Prop where
  ra : RA w W g5 g7 h2 h3 g8 n8 c8 cs room
  pr : Pr W h3 (fun k => k < h4) v10 L0 v11 L1
  wa : Kd.R (Kd.int .i64) 2 W h4 (fun k => k < h5) v13 I
  b : Kd.R (Kd.int .i64) 2 W h6 (fun _ => True) vb Ib
  lt : h3 ≤ h4 ∧ h4 ≤ h5 ∧ h5 ≤ h6 ∧ h6 ≤ W.heap.size
theorem RC.low (h : RC w W g5 g7 h2 h3 g8 n8 c8 cs room h4 v10 L0 v11 L1 h5 v13 I h6 vb Ib) (hb : Below W.heap.size W W1) : RC w W1 g5 g7 h2 h3 g8 n8 c8 cs room h4 v10 L0 v11 L1 h5 v13 I h6 vb Ib :=
  ⟨h.ra.low hb, h.pr.low hb, Kd.R_below h.wa hb, Kd.R_below h.b hb, by have := h.lt; have := hb.size; omega⟩
theorem RC.own (h : RC w W g5 g7 h2 h3 g8 n8 c8 cs room h4 v10 L0 v11 L1 h5 v13 I h6 vb Ib) (hR : Kd.R k50 50 W1 h2 (fun k => k < h3) (.slice (some ⟨g8, 0, none⟩) n8 c8) room') (hg : W.grownBy W1 (some g8)) : RC w W1 g5 g7 h2 h3 g8 n8 c8 cs room' h4 v10 L0 v11 L1 h5 v13 I h6 vb Ib := by
  have hl := h.lt
  have hk := h.ra.lt
  refine ⟨h.ra.own hR hg, h.pr.grown hg (fun k _ h3 e => by have := Option.some.inj e; omega), Kd.R_mono (Kd.R_grown (Kd.R_bound h.wa) hg (fun k hk e => by have := Option.some.inj e; omega)) (fun _ hk => hk.1), Kd.R_mono (Kd.R_grown (Kd.R_bound h.b) hg (fun k hk e => by have := Option.some.inj e; omega)) (fun _ hk => hk.1), by have := hg.size; omega⟩
theorem RC.a (h : RC w W g5 g7 h2 h3 g8 n8 c8 cs room h4 v10 L0 v11 L1 h5 v13 I h6 vb Ib) (hg : W.grownBy W1 row) (hr : ∀ k, row = some k → h5 ≤ k ∧ k < h6) : RC w W1 g5 g7 h2 h3 g8 n8 c8 cs room h4 v10 L0 v11 L1 h5 v13 I h6 vb Ib := by
  have hl := h.lt
  refine ⟨h.ra.grown hg (fun k e => by have := hr k e; omega), h.pr.grown hg (fun k hk _ e => by have := hr k e.symm; omega), Kd.R_grown h.wa hg (fun k hk e => by have := hr k e.symm; omega), Kd.R_mono (Kd.R_grown (Kd.R_bound h.b) hg (fun k hk e => by have := hr k e.symm; omega)) (fun _ hk => hk.1), by have := hg.size; omega⟩
theorem RC.left (h : RC w W g5 g7 h2 h3 g8 n8 c8 cs room h4 v10 L0 v11 L1 h5 v13 I h6 vb Ib) (hR : Kd.R (Kd.int .i64) 2 W1 h3 (fun k => k < h4 ∧ some k ≠ v10.ownBlock) v11 L1') (hg : W.grownBy W1 v11.ownBlock) : RC w W1 g5 g7 h2 h3 g8 n8 c8 cs room h4 v10 L0 v11 L1' h5 v13 I h6 vb Ib := by
  have hl := h.lt
  have hb : ∀ k, v11.ownBlock = some k → h3 ≤ k ∧ k < h4 := fun k e => ⟨Kd.R_base h.pr.b k e, (h.pr.b.1 k e).1⟩
  refine ⟨h.ra.grown hg (fun k e => (hb k e).1), h.pr.set hR hg, Kd.R_mono (Kd.R_grown (Kd.R_bound h.wa) hg (fun k hk e => by have := hb k e.symm; omega)) (fun _ hk => hk.1), Kd.R_mono (Kd.R_grown (Kd.R_bound h.b) hg (fun k hk e => by have := hb k e.symm; omega)) (fun _ hk => hk.1), by have := hg.size; omega⟩
end
theorem nodup_len : ∀ (I K : List Int), I.Nodup → (∀ x ∈ I, x ∈ K) → I.length ≤ K.length
  | [], K, _, _ => Nat.zero_le _
  | x :: I, K, hn, h => by
    have hx : x ∈ K := h x (List.mem_cons_self ..)
    have h1 := (List.nodup_cons.1 hn).1
    have h2 := nodup_len I (K.erase x) (List.nodup_cons.1 hn).2 (fun y hy => (List.mem_erase_of_ne (fun (e : y = x) => h1 (by rw [← e]; exact hy))).2 (h y (List.mem_cons_of_mem _ hy)))
    have h3 := List.length_erase_of_mem hx
    have h4 := List.length_pos_of_mem hx
    rw [List.length_cons]
    omega
theorem rdyL_len {D : List S72} {m : Int → Qu} {conn : Int} {l : List S50} {I : List Int} (hd : DR D m) (h : RdyL m conn l I) : I.length ≤ D.length := by
  have hn : I.Nodup := h.1.imp (fun hab => Int.ne_of_lt hab)
  have := nodup_len I (D.map (·.f0)) hn (fun id hi => Classical.byContradiction fun hc => by
    have hz := hd.no id hc
    have hr := (h.2 id).1 hi
    rw [hz, rdy_zero] at hr
    cases hr)
  rwa [List.length_map] at this
theorem same_q (A B : Option Addr) (c d : Nat) (l : List Int) (w : World) (k : Nat) (h1 : Kd.C (Kd.int .i64) w A l.length l) (h2 : l.length ≤ c) (h3 : Kd.C (Kd.int .i64) w B l.length l) (h4 : l.length ≤ d) : Calls Try.prog 11 #[.slice A l.length c, .slice B l.length d] (w.drewN k) fun e w'' => e = .returned (.bool true) ∧ ∃ m, w'' = w.drewN m := by
  have hk : heraldlaw20_same.f (l.length + 1) l l = some true := by
    unfold heraldlaw20_same.f
    rw [if_pos rfl]
    exact same_l0 l h1.2.1 (l.length + 1) 0 (by omega) (by omega)
  refine (heraldlaw20_same.calls (l.length + 1) A c l B d l true (w.drewN k) (Kd.C_below h1 (pw_below_drewN (Below.refl _ _) k)) h2 (Kd.C_below h3 (pw_below_drewN (Below.refl _ _) k)) h4 hk).mono fun e w' h => ⟨h.1, ?_⟩
  obtain ⟨j, hj⟩ := h.2.out
  exact ⟨k + j, by rw [hj, World.drewN_drewN]⟩
section
variable {W W1 : World} {B g n c i : Nat} {ok : Nat → Prop} {xs : List S50} {x : S50} {is : List Int} {u : Int}
theorem room_elem (h : Kd.R k50 50 W B ok (.slice (some ⟨g, 0, none⟩) n c) xs) (hi : i < n) (hx : xs.getD i z50 = x) :
    W.cell? ⟨g, i * 2, none⟩ = some (.int .i64 x.f0) ∧ W.cell? ⟨g, i * 2 + 1, none⟩ = some (.int .i64 x.f1) ∧ ∀ j, W.frozen? ⟨g, i * 2 + j, none⟩ = false := by
  obtain ⟨cc, hcl, hcM, hcc, hcf⟩ := Kd.R_elem h z50 (i : Int) (by omega) (by omega)
  rw [Int.toNat_natCast, hx] at hcM
  obtain rfl := k50_openM hcM
  rw [Int.toNat_natCast] at hcc hcf
  exact ⟨hcc 0 _ rfl, hcc 1 _ rfl, hcf⟩
theorem room_set (h : Kd.R k50 50 W B ok (.slice (some ⟨g, 0, none⟩) n c) xs) (hi : i < n) (hx : xs.getD i z50 = x) (e : W.setCell ⟨g, i * 2 + 1, none⟩ (.int .i64 u) = W1) :
    Kd.R k50 50 W1 B ok (.slice (some ⟨g, 0, none⟩) n c) (xs.set i ⟨x.f0, u⟩) ∧ W.grownBy W1 (some g) := by
  subst e
  obtain ⟨cc, hcl, hcM, hcc, hcf⟩ := Kd.R_elem h z50 (i : Int) (by omega) (by omega)
  rw [Int.toNat_natCast, hx] at hcM
  obtain rfl := k50_openM hcM
  have hh := Kd.R_seg (seg := [.int .i64 u]) (j := 1) (okp := fun _ => False) (x' := (⟨x.f0, u⟩ : S50)) h (i : Int) (by omega) (by omega) hcl hcc (Nat.le_refl 2) (k50_mkM W B (fun _ => False) (⟨x.f0, u⟩ : S50)) (fun _ h => h.elim)
  rw [Int.toNat_natCast] at hh
  exact hh
theorem int_elem (h : Kd.R (Kd.int .i64) 2 W B ok (.slice (some ⟨g, 0, none⟩) n c) is) (hi : i < n) : (∃ y : Int, W.cell? ⟨g, i, none⟩ = some (.int .i64 y)) ∧ W.frozen? ⟨g, i, none⟩ = false := by
  obtain ⟨cc, hcl, hcM, hcc, hcf⟩ := Kd.R_elem h 0 (i : Int) (by omega) (by omega)
  rw [Int.toNat_natCast] at hcc hcf hcM
  have e : cc = [.int .i64 (is.getD i 0)] := hcM
  have h1 := hcc 0 (.int .i64 (is.getD i 0)) (by rw [e]; rfl)
  have h2 := hcf 0
  simp only [Kd.int, Kd.scalar, Nat.mul_one, Nat.add_zero] at h1 h2
  exact ⟨⟨_, h1⟩, h2⟩
theorem int_set (h : Kd.R (Kd.int .i64) 2 W B ok (.slice (some ⟨g, 0, none⟩) n c) is) (e : W.setCell ⟨g, i, none⟩ (.int .i64 u) = W1) :
    Kd.R (Kd.int .i64) 2 W1 B ok (.slice (some ⟨g, 0, none⟩) n c) (is.set i u) ∧ W.grownBy W1 (some g) := by
  have hh := Kd.R_putg (enc := Value.int .i64) (h1 := fun _ => rfl) h (i : Int) u
  rw [Int.toNat_natCast, e] at hh
  exact hh
end
end Go.Proofs.Ytedkjbdkokdgdaa.Sh
