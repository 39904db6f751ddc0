/- Frames out of bytes: what each type takes of its payload. The frame lies in a block of the call's own. -/
import Derived.Test.YtoffhlbdfhhhjaaDoorMFrN
import Derived.Test.YtoffhlbdfhhhjaaDoorMFrF
namespace Go.Proofs.YtoffhlbdfhhhjaaDoor.Fr
open Go Go.RowKit Go.Proofs.YtoffhlbdfhhhjaaDoorW.PrintWords Go.Proofs.YtoffhlbdfhhhjaaDoorW.PrintLast Go.Proofs.YtoffhlbdfhhhjaaDoorW.PrintMore Go.Proofs.YtoffhlbdfhhhjaaDoor.QL
set_option linter.unusedSimpArgs false
set_option linter.unusedVariables false
set_option maxHeartbeats 40000000
set_option maxRecDepth 100000
/-- While a frame is read: it lies at g, a block of the call's own. -/
structure TInv (w0 w : World) (g : Nat) (f : Fr) (A : Option Addr) (c : Nat) : Prop where
  own : At w g f A c
  low : Below w0.heap.size w0 w
  ge : w0.heap.size ≤ g
theorem TInv.below {w0 w w1 : World} {g : Nat} {f : Fr} {A : Option Addr} {c : Nat} (r : TInv w0 w g f A c) (hb : Below w.heap.size w w1) : TInv w0 w1 g f A c := ⟨r.own.low hb, below_then r.low r.low.size hb, r.ge⟩
theorem TInv.drewN {w0 w : World} {g : Nat} {f : Fr} {A : Option Addr} {c : Nat} (r : TInv w0 w g f A c) (n : Nat) : TInv w0 (w.drewN n) g f A c := r.below (pw_below_drewN (Below.refl _ _) n)
theorem TInv.put1 {w0 w : World} {g : Nat} {f : Fr} {A : Option Addr} {c : Nat} (r : TInv w0 w g f A c) (x : Int) : TInv w0 (w.setCell ⟨g, 1, none⟩ (.int .i64 x)) g { f with fl := x } A c :=
  ⟨by have hb := blk_set r.own 1 (.int .i64 x); simpa [At, Fr.cells] using hb, r.low.setCell (p := ⟨g, 1, none⟩) r.ge _, r.ge⟩
theorem TInv.put3 {w0 w : World} {g : Nat} {f : Fr} {A : Option Addr} {c : Nat} (r : TInv w0 w g f A c) (x : ByteArray) : TInv w0 (w.setCell ⟨g, 3, none⟩ (.string x)) g { f with da := x } A c :=
  ⟨by have hb := blk_set r.own 3 (.string x); simpa [At, Fr.cells] using hb, r.low.setCell (p := ⟨g, 3, none⟩) r.ge _, r.ge⟩
theorem TInv.put4 {w0 w : World} {g : Nat} {f : Fr} {A : Option Addr} {c : Nat} (r : TInv w0 w g f A c) (x : Int) : TInv w0 (w.setCell ⟨g, 4, none⟩ (.int .i64 x)) g { f with pad := x } A c :=
  ⟨by have hb := blk_set r.own 4 (.int .i64 x); simpa [At, Fr.cells] using hb, r.low.setCell (p := ⟨g, 4, none⟩) r.ge _, r.ge⟩
theorem TInv.put5 {w0 w : World} {g : Nat} {f : Fr} {A : Option Addr} {c : Nat} (r : TInv w0 w g f A c) (x : Int) : TInv w0 (w.setCell ⟨g, 5, none⟩ (.int .i64 x)) g { f with dep := x } A c :=
  ⟨by have hb := blk_set r.own 5 (.int .i64 x); simpa [At, Fr.cells] using hb, r.low.setCell (p := ⟨g, 5, none⟩) r.ge _, r.ge⟩
theorem TInv.put6 {w0 w : World} {g : Nat} {f : Fr} {A : Option Addr} {c : Nat} (r : TInv w0 w g f A c) (x : Bool) : TInv w0 (w.setCell ⟨g, 6, none⟩ (.bool x)) g { f with ex := x } A c :=
  ⟨by have hb := blk_set r.own 6 (.bool x); simpa [At, Fr.cells] using hb, r.low.setCell (p := ⟨g, 6, none⟩) r.ge _, r.ge⟩
theorem TInv.put7 {w0 w : World} {g : Nat} {f : Fr} {A : Option Addr} {c : Nat} (r : TInv w0 w g f A c) (x : Int) : TInv w0 (w.setCell ⟨g, 7, none⟩ (.int .i64 x)) g { f with wt := x } A c :=
  ⟨by have hb := blk_set r.own 7 (.int .i64 x); simpa [At, Fr.cells] using hb, r.low.setCell (p := ⟨g, 7, none⟩) r.ge _, r.ge⟩
theorem TInv.put8 {w0 w : World} {g : Nat} {f : Fr} {A : Option Addr} {c : Nat} (r : TInv w0 w g f A c) (x : Int) : TInv w0 (w.setCell ⟨g, 8, none⟩ (.int .i64 x)) g { f with co := x } A c :=
  ⟨by have hb := blk_set r.own 8 (.int .i64 x); simpa [At, Fr.cells] using hb, r.low.setCell (p := ⟨g, 8, none⟩) r.ge _, r.ge⟩
theorem TInv.put9 {w0 w : World} {g : Nat} {f : Fr} {A : Option Addr} {c : Nat} (r : TInv w0 w g f A c) (x : Int) : TInv w0 (w.setCell ⟨g, 9, none⟩ (.int .i64 x)) g { f with la := x } A c :=
  ⟨by have hb := blk_set r.own 9 (.int .i64 x); simpa [At, Fr.cells] using hb, r.low.setCell (p := ⟨g, 9, none⟩) r.ge _, r.ge⟩
theorem takeWeight_calls (g : Nat) (f : Fr) (A : Option Addr) (c : Nat) (p : ByteArray) (x : Int) (w0 w : World) (hf : At w g f A c) (hlow : Below w0.heap.size w0 w) (hge : w0.heap.size ≤ g) (hp : 5 ≤ p.size) (hx : num (p.extract 0 4) % 2147483648 = x) :
    Calls Tryd.prog 102 #[.pointer (some ⟨g, 0, none⟩), .string p] w fun e w' => e = .returned (.tuple #[]) ∧ TInv w0 w' g { f with dep := x, ex := decide (128 ≤ bt p 0), wt := bt p 4 + 1 } A c := by
  have HX := Aside0.mk hx
  have HSZ : Aside0 ((p.extract 0 4).size ≤ 4) := ⟨by simp; omega⟩
  have hT := Aside0.mk (TInv.mk hf hlow hge)
  have b0 : (4 : Int) ≤ (p.size : Int) := by omega
  have b1 : (0 : Int) < (p.size : Int) := by omega
  have b2 : (4 : Int) < (p.size : Int) := by omega
  have n1 : 0 < p.size := by omega
  have n2 : 4 < p.size := by omega
  clear hx
  go_enter Tryd.func102, Tryd.ntmps102
  go_upto_region 0 with fail
  refine start_ (n := 22) (S := fun w' => ∃ h', TInv w0 w' g h' A c) (ds := [21]) #[false, false, false, false, false, false, false, false, false, false, false, false, false, false, false, false, false, false, false, false, false, false] (by kernel_rfl) rfl rfl (⟨_, (TInv.mk hf hlow hge).below (below_drew (Below.refl _ _))⟩) (fun hHeld => ?_)
  refine pure_ (i := 0) (N := some 4) (v := ?_) (a' := ?_) #[true, false, false, false, false, false, false, false, false, false, false, false, false, false, false, false, false, false, false, false, false, false] rfl rfl (by kernel_rfl) (fun _ _ _ h => h) (Or.inl ⟨by rfl, ?_⟩) ?_ ?_
  rotate_left
  · intro w'
    go_simp
    with_reducible rfl
  rotate_left
  · simp only [Act.put, List.setIfInBounds_toArray, List.set_cons_zero, List.set_cons_succ, i64_w, i32_w]
    rfl
  refine pure_ (i := 1) (N := some 5) (v := ?_) (a' := ?_) #[true, true, false, false, false, false, false, false, false, false, false, false, false, false, false, false, false, false, false, false, false, false] rfl rfl (by kernel_rfl) (fun _ _ _ h => h) (Or.inl ⟨by rfl, ?_⟩) ?_ ?_
  rotate_left
  · intro w'
    go_simp
    with_reducible rfl
  rotate_left
  · simp only [Act.put, List.setIfInBounds_toArray, List.set_cons_zero, List.set_cons_succ, i64_w, i32_w]
    rfl
  refine pure_ (i := 2) (N := some 6) (v := ?_) (a' := ?_) #[true, true, true, false, false, false, false, false, false, false, false, false, false, false, false, false, false, false, false, false, false, false] rfl rfl (by kernel_rfl) (fun _ _ _ h => h) (Or.inl ⟨by rfl, ?_⟩) ?_ ?_
  rotate_left
  · intro w'
    go_simp
    with_reducible rfl
  rotate_left
  · simp only [Act.put, List.setIfInBounds_toArray, List.set_cons_zero, List.set_cons_succ, i64_w, i32_w]
    rfl
  refine pure_ (i := 3) (N := some 7) (v := ?_) (a' := ?_) #[true, true, true, true, false, false, false, false, false, false, false, false, false, false, false, false, false, false, false, false, false, false] rfl rfl (by kernel_rfl) (fun _ _ _ h => h) (Or.inl ⟨by rfl, ?_⟩) ?_ ?_
  rotate_left
  · intro w'
    go_simp
    with_reducible rfl
  rotate_left
  · simp only [Act.put, List.setIfInBounds_toArray, List.set_cons_zero, List.set_cons_succ, i64_w, i32_w]
    rfl
  refine pure_ (i := 4) (N := some 8) (v := ?_) (a' := ?_) #[true, true, true, true, true, false, false, false, false, false, false, false, false, false, false, false, false, false, false, false, false, false] rfl rfl (by kernel_rfl) (fun _ _ _ h => h) (Or.inl ⟨by rfl, ?_⟩) ?_ ?_
  rotate_left
  · intro w'
    go_simp
    with_reducible rfl
  rotate_left
  · simp only [Act.put, List.setIfInBounds_toArray, List.set_cons_zero, List.set_cons_succ, i64_w, i32_w]
    rfl
  refine pure_ (i := 6) (N := some 10) (v := ?_) (a' := ?_) #[true, true, true, true, true, false, true, false, false, false, false, false, false, false, false, false, false, false, false, false, false, false] rfl rfl (by kernel_rfl) (fun _ _ _ h => h) (Or.inl ⟨by rfl, ?_⟩) ?_ ?_
  rotate_left
  · intro w'
    go_simp
    with_reducible rfl
  rotate_left
  · simp only [Act.put, List.setIfInBounds_toArray, List.set_cons_zero, List.set_cons_succ, i64_w, i32_w]
    rfl
  refine pure_ (i := 9) (N := some 13) (v := ?_) (a' := ?_) #[true, true, true, true, true, false, true, false, false, true, false, false, false, false, false, false, false, false, false, false, false, false] rfl rfl (by kernel_rfl) (fun _ _ _ h => h) (Or.inl ⟨by rfl, ?_⟩) ?_ ?_
  rotate_left
  · intro w'
    go_simp
    with_reducible rfl
  rotate_left
  · simp only [Act.put, List.setIfInBounds_toArray, List.set_cons_zero, List.set_cons_succ, i64_w, i32_w]
    rfl
  refine take_ (i := 7) (N := some 11) (v := ?_) (a' := ?_) #[true, true, true, true, true, false, true, true, false, true, false, false, false, false, false, false, false, false, false, false, false, false] rfl rfl (by kernel_rfl) (fun _ _ _ h => h) (Or.inl ⟨by rfl, ?_⟩) hHeld ?_ ?_
  rotate_left
  · intro w' s0
    go_simp
    with_reducible rfl
  rotate_left
  · simp only [Act.put, List.setIfInBounds_toArray, List.set_cons_zero, List.set_cons_succ, i64_w, i32_w]
    rfl
  refine pure_ (i := 8) (N := some 12) (v := ?_) (a' := ?_) #[true, true, true, true, true, false, true, true, true, true, false, false, false, false, false, false, false, false, false, false, false, false] rfl rfl (by kernel_rfl) (fun _ _ _ h => h) (Or.inl ⟨by rfl, ?_⟩) ?_ ?_
  rotate_left
  · intro w'
    go_simp
    with_reducible rfl
  rotate_left
  · simp only [Act.put, List.setIfInBounds_toArray, List.set_cons_zero, List.set_cons_succ, i64_w, i32_w]
    rfl
  refine take_ (i := 10) (N := some 14) (v := ?_) (a' := ?_) #[true, true, true, true, true, false, true, true, true, true, true, false, false, false, false, false, false, false, false, false, false, false] rfl rfl (by kernel_rfl) (fun _ _ _ h => h) (Or.inl ⟨by rfl, ?_⟩) hHeld ?_ ?_
  rotate_left
  · intro w' s0
    go_simp
    with_reducible rfl
  rotate_left
  · simp only [Act.put, List.setIfInBounds_toArray, List.set_cons_zero, List.set_cons_succ, i64_w, i32_w]
    rfl
  refine pure_ (i := 11) (N := some 15) (v := ?_) (a' := ?_) #[true, true, true, true, true, false, true, true, true, true, true, true, false, false, false, false, false, false, false, false, false, false] rfl rfl (by kernel_rfl) (fun _ _ _ h => h) (Or.inl ⟨by rfl, ?_⟩) ?_ ?_
  rotate_left
  · intro w'
    go_simp
    with_reducible rfl
  rotate_left
  · simp only [Act.put, List.setIfInBounds_toArray, List.set_cons_zero, List.set_cons_succ, i64_w, i32_w]
    rfl
  refine pure_ (i := 12) (N := some 16) (v := ?_) (a' := ?_) #[true, true, true, true, true, false, true, true, true, true, true, true, true, false, false, false, false, false, false, false, false, false] rfl rfl (by kernel_rfl) (fun _ _ _ h => h) (Or.inl ⟨by rfl, ?_⟩) ?_ ?_
  rotate_left
  · intro w'
    go_simp
    with_reducible rfl
  rotate_left
  · simp only [Act.put, List.setIfInBounds_toArray, List.set_cons_zero, List.set_cons_succ, i64_w, i32_w]
    rfl
  refine one_ (i := 5) (N := some 9) #[true, true, true, true, true, true, true, true, true, true, true, true, true, false, false, false, false, false, false, false, false, false] rfl rfl (by kernel_rfl) (by decide) (fun K hK => ?_)
  refine goes_ Tryd.func57 (by kernel_rfl) rfl #[.string (p.extract 0 4)] (by rfl) rfl rfl (by simp only [List.map_toArray, List.map_cons, List.map_nil]; rfl) ?_
  with_reducible refine (id_below (p.extract 0 4) x _ HSZ.out HX.out).mono ?_
  rintro e w3 ⟨rfl, hb⟩
  refine ⟨_, rfl, ?_⟩
  have T3 := Aside0.mk ((hT.out.below (below_drew (Below.refl _ _))).below hb)
  refine hK.out _ _ ((hHeld.imp fun _ h => h.below hb)) (fun hHeld => ?_)
  clear hK K
  refine norm_ (a' := ?_) ?_ ?_
  rotate_left
  · show Act.put _ (some 9) _ = _
    simp only [Act.put, List.setIfInBounds_toArray, List.set_cons_zero, List.set_cons_succ, i64_w, i32_w]
    rfl
  refine pure_ (i := 13) (N := some 17) (v := ?_) (a' := ?_) #[true, true, true, true, true, true, true, true, true, true, true, true, true, true, false, false, false, false, false, false, false, false] rfl rfl (by kernel_rfl) (fun _ _ _ h => h) (Or.inl ⟨by rfl, ?_⟩) ?_ ?_
  rotate_left
  · intro w'
    go_simp
    with_reducible rfl
  rotate_left
  · simp only [Act.put, List.setIfInBounds_toArray, List.set_cons_zero, List.set_cons_succ, i64_w, i32_w]
    rfl
  refine pure_ (i := 14) (N := some 18) (v := ?_) (a' := ?_) #[true, true, true, true, true, true, true, true, true, true, true, true, true, true, true, false, false, false, false, false, false, false] rfl rfl (by kernel_rfl) (fun _ _ _ h => h) (Or.inl ⟨by rfl, ?_⟩) ?_ ?_
  rotate_left
  · intro w'
    go_simp
    with_reducible rfl
  rotate_left
  · simp only [Act.put, List.setIfInBounds_toArray, List.set_cons_zero, List.set_cons_succ, i64_w, i32_w]
    rfl
  refine one_ (i := 15) (N := none) #[true, true, true, true, true, true, true, true, true, true, true, true, true, true, true, true, false, false, false, false, false, false] rfl rfl (by kernel_rfl) (by decide) (fun K hK => ?_)
  obtain ⟨h1, r1⟩ := hHeld
  have y1 := r1.own.c5
  have yf1 := blk_frozen r1.own 5
  refine skip_ (w1 := ?_) (by rfl) rfl ?_ ?_
  rotate_left
  · go_simp
    rfl
  clear y1 yf1
  refine hK.out _ _ (⟨_, r1.put5 _⟩) (fun hHeld => ?_)
  clear hK K
  refine pure_ (i := 16) (N := some 19) (v := ?_) (a' := ?_) #[true, true, true, true, true, true, true, true, true, true, true, true, true, true, true, true, true, false, false, false, false, false] rfl rfl (by kernel_rfl) (fun _ _ _ h => h) (Or.inl ⟨by rfl, ?_⟩) ?_ ?_
  rotate_left
  · intro w'
    go_simp
    with_reducible rfl
  rotate_left
  · simp only [Act.put, List.setIfInBounds_toArray, List.set_cons_zero, List.set_cons_succ, i64_w, i32_w]
    rfl
  refine pure_ (i := 17) (N := some 20) (v := ?_) (a' := ?_) #[true, true, true, true, true, true, true, true, true, true, true, true, true, true, true, true, true, true, false, false, false, false] rfl rfl (by kernel_rfl) (fun _ _ _ h => h) (Or.inl ⟨by rfl, ?_⟩) ?_ ?_
  rotate_left
  · intro w'
    go_simp
    with_reducible rfl
  rotate_left
  · simp only [Act.put, List.setIfInBounds_toArray, List.set_cons_zero, List.set_cons_succ, i64_w, i32_w]
    rfl
  refine one_ (i := 18) (N := none) #[true, true, true, true, true, true, true, true, true, true, true, true, true, true, true, true, true, true, true, false, false, false] rfl rfl (by kernel_rfl) (by decide) (fun K hK => ?_)
  obtain ⟨h1, r1⟩ := hHeld
  have y1 := r1.own.c6
  have yf1 := blk_frozen r1.own 6
  refine skip_ (w1 := ?_) (by rfl) rfl ?_ ?_
  rotate_left
  · go_simp
    rfl
  clear y1 yf1
  refine hK.out _ _ (⟨_, r1.put6 _⟩) (fun hHeld => ?_)
  clear hK K
  refine pure_ (i := 19) (N := some 21) (v := ?_) (a' := ?_) #[true, true, true, true, true, true, true, true, true, true, true, true, true, true, true, true, true, true, true, true, false, false] rfl rfl (by kernel_rfl) (fun _ _ _ h => h) (Or.inl ⟨by rfl, ?_⟩) ?_ ?_
  rotate_left
  · intro w'
    go_simp
    with_reducible rfl
  rotate_left
  · simp only [Act.put, List.setIfInBounds_toArray, List.set_cons_zero, List.set_cons_succ, i64_w, i32_w]
    rfl
  refine pure_ (i := 20) (N := some 22) (v := ?_) (a' := ?_) #[true, true, true, true, true, true, true, true, true, true, true, true, true, true, true, true, true, true, true, true, true, false] rfl rfl (by kernel_rfl) (fun _ _ _ h => h) (Or.inl ⟨by rfl, ?_⟩) ?_ ?_
  rotate_left
  · intro w'
    go_simp
    with_reducible rfl
  rotate_left
  · simp only [Act.put, List.setIfInBounds_toArray, List.set_cons_zero, List.set_cons_succ, i64_w, i32_w]
    rfl
  refine last_ (i := 21) (N := none) #[true, true, true, true, true, true, true, true, true, true, true, true, true, true, true, true, true, true, true, true, true, true] rfl rfl (by kernel_rfl) (by decide) (fun K hK => ?_)
  obtain ⟨h1, r1⟩ := hHeld
  have y1 := r1.own.c7
  have yf1 := blk_frozen r1.own 7
  refine skip_ (w1 := ?_) (by rfl) rfl ?_ ?_
  rotate_left
  · go_simp
    rfl
  clear y1 yf1 r1
  refine hK.out _ _ ?_
  clear hK K
  refine done_ (by kernel_rfl) ?_
  have e0 : ((p[0]'n1).toNat : Int) = bt p 0 := bt_at p 0 n1
  have e4 : ((p[4]'n2).toNat : Int) = bt p 4 := bt_at p 4 n2
  have r4 := bt_range p 4
  have e5 : wrap64 (wrap64 (bt p 4) + 1) = bt p 4 + 1 := by unfold wrap64; omega
  go_end0
  refine ⟨rfl, ?_⟩
  simp only [e0, e4, e5]
  exact ((T3.out.put5 x).put6 (decide (128 ≤ bt p 0))).put7 (bt p 4 + 1)
/-- What a priority says. -/
def wtF (f : Fr) (p : ByteArray) : Fr := { f with dep := num (p.extract 0 4) % 2147483648, ex := decide (128 ≤ bt p 0), wt := bt p 4 + 1 }
def headersF (f : Fr) (p : ByteArray) : Fr := if has f.fl 32 = true then { wtF f p with da := p.extract 5 p.size } else { f with da := p }
def promiseF (f : Fr) (p : ByteArray) : Fr := { f with la := num (p.extract 0 4) % 2147483648, da := p.extract 4 p.size }
def goAwayF (f : Fr) (p : ByteArray) : Fr := { f with la := num (p.extract 0 4) % 2147483648, co := num (p.extract 4 8), da := p.extract 8 p.size }
theorem ext4 (p : ByteArray) (i : Nat) : (p.extract i (i + 4)).size ≤ 4 := by simp; omega
theorem got_some (s : ByteArray) (hs : s.size ≤ 9223372036854775807) : ∀ (m i : Nat) (v : Int), i + m = s.size → ∃ x, frame_got.l0 (m + 1) s v (s.size : Int) (i : Int) = some x := by
  intro m
  induction m with
  | zero => intro i v hi; exact ⟨v, by rw [frame_got.l0, if_neg (by omega)]⟩
  | succ m ih =>
    intro i v hi
    have hw : wrap64 ((i : Int) + 1) = ((i + 1 : Nat) : Int) := by unfold wrap64; omega
    rw [frame_got.l0, if_pos (by omega), if_pos (by omega), if_pos (by omega), hw]
    exact ih (i + 1) _ (by omega)
theorem got_any (s : ByteArray) (w : World) (hs : s.size ≤ 9223372036854775807) : Calls Tryd.prog 56 #[.string s] w fun e w' => ∃ x, e = .returned (.int .i64 x) ∧ Below w.heap.size w w' := by
  obtain ⟨x, hx⟩ := got_some s hs s.size 0 0 (by omega)
  have h : frame_got.f (s.size + 1) s = some x := by unfold frame_got.f; exact hx
  exact (frame_got.calls _ s x w h).mono fun _ _ h => ⟨x, h.1, h.2.below⟩
theorem takeData_calls (g : Nat) (f : Fr) (A : Option Addr) (c : Nat) (p : ByteArray) (w0 w : World) (hf : At w g f A c) (hlow : Below w0.heap.size w0 w) (hge : w0.heap.size ≤ g)  :
    Calls Tryd.prog 89 #[.pointer (some ⟨g, 0, none⟩), .string p] w fun e w' => e = .returned (.bool true) ∧ TInv w0 w' g { f with da := p } A c := by
  have hT := Aside0.mk (TInv.mk hf hlow hge)
  have y3 := hf.c3
  have yf : w.frozen? ⟨g, 3, none⟩ = false := blk_frozen hf 3
  clear hf hlow hge
  go_enter Tryd.func89, Tryd.ntmps89
  go_wp2_with fail
  go_ret
  exact ⟨rfl, hT.out.put3 p⟩
theorem takePing_calls (g : Nat) (f : Fr) (A : Option Addr) (c : Nat) (p : ByteArray) (w0 w : World) (hf : At w g f A c) (hlow : Below w0.heap.size w0 w) (hge : w0.heap.size ≤ g) (x : Bool) (hx : ((p.size : Int) == 8) = x) (h63 : p.size ≤ 9223372036854775807) :
    Calls Tryd.prog 84 #[.pointer (some ⟨g, 0, none⟩), .string p] w fun e w' => e = .returned (.bool x) ∧ TInv w0 w' g { f with da := p } A c := by
  have hT := Aside0.mk (TInv.mk hf hlow hge)
  have y3 := hf.c3
  have yf : w.frozen? ⟨g, 3, none⟩ = false := blk_frozen hf 3
  clear hf hlow hge
  have HX := Aside0.mk hx
  clear hx
  go_enter Tryd.func84, Tryd.ntmps84
  go_wp2_with fail
  go_ret
  exact ⟨by rw [← HX.out]; rfl, hT.out.put3 p⟩
theorem takeReset_yes (g : Nat) (f : Fr) (A : Option Addr) (c : Nat) (p : ByteArray) (w0 w : World) (hf : At w g f A c) (hlow : Below w0.heap.size w0 w) (hge : w0.heap.size ≤ g) (hp : p.size = 4) :
    Calls Tryd.prog 78 #[.pointer (some ⟨g, 0, none⟩), .string p] w fun e w' => e = .returned (.bool true) ∧ TInv w0 w' g { f with co := num p } A c := by
  have hT := Aside0.mk (TInv.mk hf hlow hge)
  have hs : ((p.size : Int) == 4) = true := by rw [hp]; rfl
  have HSZ : Aside0 (p.size ≤ 4) := ⟨by omega⟩
  clear hf hlow hge hp
  go_enter Tryd.func78, Tryd.ntmps78
  go_wp2_with (go_at_call 56; refine (got_below p _ _ HSZ.out rfl).mono ?_; rintro e w3 ⟨rfl, hb⟩; have T3 := Aside0.mk (hT.out.below hb); have y8 := T3.out.own.c8; have yf : w3.frozen? ⟨g, 8, none⟩ = false := blk_frozen T3.out.own 8; clear hb)
  go_ret
  exact ⟨rfl, T3.out.put8 (num p)⟩
theorem takeReset_no (g : Nat) (f : Fr) (A : Option Addr) (c : Nat) (p : ByteArray) (w0 w : World) (hf : At w g f A c) (hlow : Below w0.heap.size w0 w) (hge : w0.heap.size ≤ g) (hp : p.size ≠ 4) (h63 : p.size ≤ 9223372036854775807) :
    Calls Tryd.prog 78 #[.pointer (some ⟨g, 0, none⟩), .string p] w fun e w' => e = .returned (.bool false) ∧ ∃ f', f'.ty = f.ty ∧ f'.st = f.st ∧ TInv w0 w' g f' A c := by
  have hT := Aside0.mk (TInv.mk hf hlow hge)
  have hs : ((p.size : Int) == 4) = false := beq_eq_false_iff_ne.mpr (by omega)
  have H63 := Aside0.mk h63
  clear hf hlow hge hp
  go_enter Tryd.func78, Tryd.ntmps78
  go_wp2_with (go_at_call 56; refine (got_any p _ H63.out).mono ?_; rintro e w3 ⟨x, rfl, hb⟩; have T3 := Aside0.mk (hT.out.below hb); have y8 := T3.out.own.c8; have yf : w3.frozen? ⟨g, 8, none⟩ = false := blk_frozen T3.out.own 8; clear hb)
  go_ret
  exact ⟨rfl, { f with co := x }, rfl, rfl, T3.out.put8 x⟩
theorem takeWindow_yes (g : Nat) (f : Fr) (A : Option Addr) (c : Nat) (p : ByteArray) (w0 w : World) (hf : At w g f A c) (hlow : Below w0.heap.size w0 w) (hge : w0.heap.size ≤ g) (hp : p.size = 4) :
    Calls Tryd.prog 88 #[.pointer (some ⟨g, 0, none⟩), .string p] w fun e w' => e = .returned (.bool true) ∧ TInv w0 w' g { f with la := num p % 2147483648 } A c := by
  have hT := Aside0.mk (TInv.mk hf hlow hge)
  have hs : ((p.size : Int) != 4) = false := by rw [hp]; rfl
  have HSZ : Aside0 (p.size ≤ 4) := ⟨by omega⟩
  clear hf hlow hge hp
  go_enter Tryd.func88, Tryd.ntmps88
  go_wp2_with (go_at_call 57; refine (id_below p _ _ HSZ.out rfl).mono ?_; rintro e w3 ⟨rfl, hb⟩; have T3 := Aside0.mk (hT.out.below hb); have y9 := T3.out.own.c9; have yf : w3.frozen? ⟨g, 9, none⟩ = false := blk_frozen T3.out.own 9; clear hb)
  go_ret
  exact ⟨rfl, T3.out.put9 (num p % 2147483648)⟩
theorem takeWindow_no (g : Nat) (f : Fr) (A : Option Addr) (c : Nat) (p : ByteArray) (w0 w : World) (hf : At w g f A c) (hlow : Below w0.heap.size w0 w) (hge : w0.heap.size ≤ g) (hp : p.size ≠ 4) :
    Calls Tryd.prog 88 #[.pointer (some ⟨g, 0, none⟩), .string p] w fun e w' => e = .returned (.bool false) ∧ TInv w0 w' g f A c := by
  have hT := Aside0.mk (TInv.mk hf hlow hge)
  have hs : ((p.size : Int) != 4) = true := bne_iff_ne.mpr (by omega)
  clear hf hlow hge hp
  go_enter Tryd.func88, Tryd.ntmps88
  go_wp2_with fail
  go_ret
  exact ⟨rfl, hT.out⟩
theorem takePriority_no (g : Nat) (f : Fr) (A : Option Addr) (c : Nat) (p : ByteArray) (w0 w : World) (hf : At w g f A c) (hlow : Below w0.heap.size w0 w) (hge : w0.heap.size ≤ g) (hp : p.size ≠ 5) :
    Calls Tryd.prog 76 #[.pointer (some ⟨g, 0, none⟩), .string p] w fun e w' => e = .returned (.bool false) ∧ TInv w0 w' g f A c := by
  have hT := Aside0.mk (TInv.mk hf hlow hge)
  have hs : ((p.size : Int) != 5) = true := bne_iff_ne.mpr (by omega)
  clear hf hlow hge hp
  go_enter Tryd.func76, Tryd.ntmps76
  go_wp2_with fail
  go_ret
  exact ⟨rfl, hT.out⟩
theorem takePriority_yes (g : Nat) (f : Fr) (A : Option Addr) (c : Nat) (p : ByteArray) (w0 w : World) (hf : At w g f A c) (hlow : Below w0.heap.size w0 w) (hge : w0.heap.size ≤ g) (hp : p.size = 5) :
    Calls Tryd.prog 76 #[.pointer (some ⟨g, 0, none⟩), .string p] w fun e w' => e = .returned (.bool true) ∧ TInv w0 w' g (wtF f p) A c := by
  have hT := Aside0.mk (TInv.mk hf hlow hge)
  have hs : ((p.size : Int) != 5) = false := by rw [hp]; rfl
  have HP := Aside0.mk hp
  clear hf hlow hge hp
  go_enter Tryd.func76, Tryd.ntmps76
  go_wp2_with (go_at_call 102; refine (takeWeight_calls g f A c p _ w0 _ hT.out.own hT.out.low hT.out.ge (by have := HP.out; omega) rfl).mono ?_; rintro e w3 ⟨rfl, ht⟩; have T3 := Aside0.mk ht; clear ht)
  go_ret
  exact ⟨rfl, T3.out⟩
theorem takeHeaders_calls (g : Nat) (f : Fr) (A : Option Addr) (c : Nat) (p : ByteArray) (w0 w : World) (hf : At w g f A c) (hlow : Below w0.heap.size w0 w) (hge : w0.heap.size ≤ g) (hp : has f.fl 32 = true → 5 ≤ p.size) :
    Calls Tryd.prog 74 #[.pointer (some ⟨g, 0, none⟩), .string p] w fun e w' => e = .returned (.bool true) ∧ TInv w0 w' g (headersF f p) A c := by
  have hT := Aside0.mk (TInv.mk hf hlow hge)
  have z1 := hf.c1
  have HP := Aside0.mk hp
  clear hp
  cases hx : has f.fl 32
  · have hx' : (Go.bits .and .i64 f.fl 32 != 0) = false := hx
    have HF : Aside0 (headersF f p = { f with da := p }) := ⟨if_neg (by rw [hx]; simp)⟩
    have y3 := hf.c3
    have yf : w.frozen? ⟨g, 3, none⟩ = false := blk_frozen hf 3
    clear hf hlow hge hx
    go_enter Tryd.func74, Tryd.ntmps74
    go_wp2_with fail
    go_ret
    exact ⟨rfl, by rw [HF.out]; exact hT.out.put3 p⟩
  · have hx' : (Go.bits .and .i64 f.fl 32 != 0) = true := hx
    have HF : Aside0 (headersF f p = { wtF f p with da := p.extract 5 p.size }) := ⟨if_pos hx⟩
    have hp5 := HP.out hx
    have HP5 := Aside0.mk hp5
    have b5 : (5 : Int) ≤ (p.size : Int) := by omega
    have n5 : 5 ≤ p.size := hp5
    clear hf hlow hge hx hp5
    go_enter Tryd.func74, Tryd.ntmps74
    go_wp2_with (go_at_call 102; refine (takeWeight_calls g f A c p _ w0 _ hT.out.own hT.out.low hT.out.ge HP5.out rfl).mono ?_; rintro e w3 ⟨rfl, ht⟩; have T3 := Aside0.mk ht; have y3 := ht.own.c3; have yf : w3.frozen? ⟨g, 3, none⟩ = false := blk_frozen ht.own 3; clear ht)
    go_ret
    exact ⟨rfl, by rw [HF.out]; exact T3.out.put3 (p.extract 5 p.size)⟩
theorem takePromise_calls (g : Nat) (f : Fr) (A : Option Addr) (c : Nat) (p : ByteArray) (w0 w : World) (hf : At w g f A c) (hlow : Below w0.heap.size w0 w) (hge : w0.heap.size ≤ g) (hp : 4 ≤ p.size) :
    Calls Tryd.prog 82 #[.pointer (some ⟨g, 0, none⟩), .string p] w fun e w' => e = .returned (.bool true) ∧ TInv w0 w' g (promiseF f p) A c := by
  have hT := Aside0.mk (TInv.mk hf hlow hge)
  have HSZ : Aside0 ((p.extract 0 4).size ≤ 4) := ⟨ext4 p 0⟩
  have b0 : (4 : Int) ≤ (p.size : Int) := by omega
  go_enter Tryd.func82, Tryd.ntmps82
  go_upto_region 1 with fail
  refine start_ (n := 13) (S := fun w' => ∃ h', TInv w0 w' g h' A c) (ds := [12]) #[false, false, false, false, false, false, false, false, false, false, false, false, false] (by kernel_rfl) rfl rfl (⟨_, (TInv.mk hf hlow hge).below (below_drew (Below.refl _ _))⟩) (fun hHeld => ?_)
  refine pure_ (i := 0) (N := some 5) (v := ?_) (a' := ?_) #[true, false, false, false, false, false, false, false, false, false, false, false, false] rfl rfl (by kernel_rfl) (fun _ _ _ h => h) (Or.inl ⟨by rfl, ?_⟩) ?_ ?_
  rotate_left
  · intro w'
    go_simp
    with_reducible rfl
  rotate_left
  · simp only [Act.put, List.setIfInBounds_toArray, List.set_cons_zero, List.set_cons_succ, i64_w, i32_w]
    rfl
  refine pure_ (i := 1) (N := some 6) (v := ?_) (a' := ?_) #[true, true, false, false, false, false, false, false, false, false, false, false, false] rfl rfl (by kernel_rfl) (fun _ _ _ h => h) (Or.inl ⟨by rfl, ?_⟩) ?_ ?_
  rotate_left
  · intro w'
    go_simp
    with_reducible rfl
  rotate_left
  · simp only [Act.put, List.setIfInBounds_toArray, List.set_cons_zero, List.set_cons_succ, i64_w, i32_w]
    rfl
  refine pure_ (i := 2) (N := some 7) (v := ?_) (a' := ?_) #[true, true, true, false, false, false, false, false, false, false, false, false, false] rfl rfl (by kernel_rfl) (fun _ _ _ h => h) (Or.inl ⟨by rfl, ?_⟩) ?_ ?_
  rotate_left
  · intro w'
    go_simp
    with_reducible rfl
  rotate_left
  · simp only [Act.put, List.setIfInBounds_toArray, List.set_cons_zero, List.set_cons_succ, i64_w, i32_w]
    rfl
  refine pure_ (i := 3) (N := some 8) (v := ?_) (a' := ?_) #[true, true, true, true, false, false, false, false, false, false, false, false, false] rfl rfl (by kernel_rfl) (fun _ _ _ h => h) (Or.inl ⟨by rfl, ?_⟩) ?_ ?_
  rotate_left
  · intro w'
    go_simp
    with_reducible rfl
  rotate_left
  · simp only [Act.put, List.setIfInBounds_toArray, List.set_cons_zero, List.set_cons_succ, i64_w, i32_w]
    rfl
  refine pure_ (i := 5) (N := some 10) (v := ?_) (a' := ?_) #[true, true, true, true, false, true, false, false, false, false, false, false, false] rfl rfl (by kernel_rfl) (fun _ _ _ h => h) (Or.inl ⟨by rfl, ?_⟩) ?_ ?_
  rotate_left
  · intro w'
    go_simp
    with_reducible rfl
  rotate_left
  · simp only [Act.put, List.setIfInBounds_toArray, List.set_cons_zero, List.set_cons_succ, i64_w, i32_w]
    rfl
  refine pure_ (i := 6) (N := some 11) (v := ?_) (a' := ?_) #[true, true, true, true, false, true, true, false, false, false, false, false, false] rfl rfl (by kernel_rfl) (fun _ _ _ h => h) (Or.inl ⟨by rfl, ?_⟩) ?_ ?_
  rotate_left
  · intro w'
    go_simp
    with_reducible rfl
  rotate_left
  · simp only [Act.put, List.setIfInBounds_toArray, List.set_cons_zero, List.set_cons_succ, i64_w, i32_w]
    rfl
  refine one_ (i := 4) (N := some 9) #[true, true, true, true, true, true, true, false, false, false, false, false, false] rfl rfl (by kernel_rfl) (by decide) (fun K hK => ?_)
  refine goes_ Tryd.func57 (by kernel_rfl) rfl #[.string (p.extract 0 4)] (by rfl) rfl rfl (by simp only [List.map_toArray, List.map_cons, List.map_nil]; rfl) ?_
  with_reducible refine (id_below (p.extract 0 4) _ _ HSZ.out rfl).mono ?_
  rintro e w3 ⟨rfl, hb⟩
  refine ⟨_, rfl, ?_⟩
  have T1 := Aside0.mk ((hT.out.below (below_drew (Below.refl _ _))).below hb)
  refine hK.out _ _ ((hHeld.imp fun _ h => h.below hb)) (fun hHeld => ?_)
  clear hK K
  refine norm_ (a' := ?_) ?_ ?_
  rotate_left
  · show Act.put _ (some 9) _ = _
    simp only [Act.put, List.setIfInBounds_toArray, List.set_cons_zero, List.set_cons_succ, i64_w, i32_w]
    rfl
  refine pure_ (i := 7) (N := some 12) (v := ?_) (a' := ?_) #[true, true, true, true, true, true, true, true, false, false, false, false, false] rfl rfl (by kernel_rfl) (fun _ _ _ h => h) (Or.inl ⟨by rfl, ?_⟩) ?_ ?_
  rotate_left
  · intro w'
    go_simp
    with_reducible rfl
  rotate_left
  · simp only [Act.put, List.setIfInBounds_toArray, List.set_cons_zero, List.set_cons_succ, i64_w, i32_w]
    rfl
  refine pure_ (i := 8) (N := some 13) (v := ?_) (a' := ?_) #[true, true, true, true, true, true, true, true, true, false, false, false, false] rfl rfl (by kernel_rfl) (fun _ _ _ h => h) (Or.inl ⟨by rfl, ?_⟩) ?_ ?_
  rotate_left
  · intro w'
    go_simp
    with_reducible rfl
  rotate_left
  · simp only [Act.put, List.setIfInBounds_toArray, List.set_cons_zero, List.set_cons_succ, i64_w, i32_w]
    rfl
  refine one_ (i := 9) (N := none) #[true, true, true, true, true, true, true, true, true, true, false, false, false] rfl rfl (by kernel_rfl) (by decide) (fun K hK => ?_)
  obtain ⟨h1, r1⟩ := hHeld
  have y1 := r1.own.c9
  have yf1 := blk_frozen r1.own 9
  refine skip_ (w1 := ?_) (by rfl) rfl ?_ ?_
  rotate_left
  · go_simp
    rfl
  clear y1 yf1
  refine hK.out _ _ (⟨_, r1.put9 _⟩) (fun hHeld => ?_)
  clear hK K
  refine pure_ (i := 10) (N := some 14) (v := ?_) (a' := ?_) #[true, true, true, true, true, true, true, true, true, true, true, false, false] rfl rfl (by kernel_rfl) (fun _ _ _ h => h) (Or.inl ⟨by rfl, ?_⟩) ?_ ?_
  rotate_left
  · intro w'
    go_simp
    with_reducible rfl
  rotate_left
  · simp only [Act.put, List.setIfInBounds_toArray, List.set_cons_zero, List.set_cons_succ, i64_w, i32_w]
    rfl
  refine pure_ (i := 11) (N := some 15) (v := ?_) (a' := ?_) #[true, true, true, true, true, true, true, true, true, true, true, true, false] rfl rfl (by kernel_rfl) (fun _ _ _ h => h) (Or.inl ⟨by rfl, ?_⟩) ?_ ?_
  rotate_left
  · intro w'
    go_simp
    with_reducible rfl
  rotate_left
  · simp only [Act.put, List.setIfInBounds_toArray, List.set_cons_zero, List.set_cons_succ, i64_w, i32_w]
    rfl
  refine last_ (i := 12) (N := none) #[true, true, true, true, true, true, true, true, true, true, true, true, true] rfl rfl (by kernel_rfl) (by decide) (fun K hK => ?_)
  obtain ⟨h1, r1⟩ := hHeld
  have y1 := r1.own.c3
  have yf1 := blk_frozen r1.own 3
  refine skip_ (w1 := ?_) (by rfl) rfl ?_ ?_
  rotate_left
  · go_simp
    rfl
  clear y1 yf1 r1
  refine hK.out _ _ ?_
  clear hK K
  refine done_ (by kernel_rfl) ?_
  go_wp2_with fail
  go_ret
  exact ⟨rfl, (T1.out.put9 (num (p.extract 0 4) % 2147483648)).put3 (p.extract 4 p.size)⟩
theorem takeGoAway_no (g : Nat) (f : Fr) (A : Option Addr) (c : Nat) (p : ByteArray) (w0 w : World) (hf : At w g f A c) (hlow : Below w0.heap.size w0 w) (hge : w0.heap.size ≤ g) (hp : p.size < 8) :
    Calls Tryd.prog 86 #[.pointer (some ⟨g, 0, none⟩), .string p] w fun e w' => e = .returned (.bool false) ∧ TInv w0 w' g f A c := by
  have hT := Aside0.mk (TInv.mk hf hlow hge)
  have hs : decide ((p.size : Int) < 8) = true := decide_eq_true (by omega)
  clear hf hlow hge
  go_enter Tryd.func86, Tryd.ntmps86
  go_wp2_with fail
  go_ret
  exact ⟨rfl, hT.out⟩
theorem takeGoAway_yes (g : Nat) (f : Fr) (A : Option Addr) (c : Nat) (p : ByteArray) (w0 w : World) (hf : At w g f A c) (hlow : Below w0.heap.size w0 w) (hge : w0.heap.size ≤ g) (hp : 8 ≤ p.size) :
    Calls Tryd.prog 86 #[.pointer (some ⟨g, 0, none⟩), .string p] w fun e w' => e = .returned (.bool true) ∧ TInv w0 w' g (goAwayF f p) A c := by
  have hT := Aside0.mk (TInv.mk hf hlow hge)
  have hs : decide ((p.size : Int) < 8) = false := decide_eq_false (by omega)
  have HSZ : Aside0 ((p.extract 0 4).size ≤ 4) := ⟨ext4 p 0⟩
  have HSZ2 : Aside0 ((p.extract 4 8).size ≤ 4) := ⟨ext4 p 4⟩
  have b0 : (4 : Int) ≤ (p.size : Int) := by omega
  have b8 : (8 : Int) ≤ (p.size : Int) := by omega
  go_enter Tryd.func86, Tryd.ntmps86
  go_upto_region 3 with fail
  refine start_ (n := 20) (S := fun w' => ∃ h', TInv w0 w' g h' A c) (ds := [19]) #[false, false, false, false, false, false, false, false, false, false, false, false, false, false, false, false, false, false, false, false] (by kernel_rfl) rfl rfl (⟨_, (TInv.mk hf hlow hge).below (below_drew (Below.refl _ _))⟩) (fun hHeld => ?_)
  refine pure_ (i := 0) (N := some 8) (v := ?_) (a' := ?_) #[true, false, false, false, false, false, false, false, false, false, false, false, false, false, false, false, false, false, false, false] rfl rfl (by kernel_rfl) (fun _ _ _ h => h) (Or.inl ⟨by rfl, ?_⟩) ?_ ?_
  rotate_left
  · intro w'
    go_simp
    with_reducible rfl
  rotate_left
  · simp only [Act.put, List.setIfInBounds_toArray, List.set_cons_zero, List.set_cons_succ, i64_w, i32_w]
    rfl
  refine pure_ (i := 1) (N := some 9) (v := ?_) (a' := ?_) #[true, true, false, false, false, false, false, false, false, false, false, false, false, false, false, false, false, false, false, false] rfl rfl (by kernel_rfl) (fun _ _ _ h => h) (Or.inl ⟨by rfl, ?_⟩) ?_ ?_
  rotate_left
  · intro w'
    go_simp
    with_reducible rfl
  rotate_left
  · simp only [Act.put, List.setIfInBounds_toArray, List.set_cons_zero, List.set_cons_succ, i64_w, i32_w]
    rfl
  refine pure_ (i := 2) (N := some 10) (v := ?_) (a' := ?_) #[true, true, true, false, false, false, false, false, false, false, false, false, false, false, false, false, false, false, false, false] rfl rfl (by kernel_rfl) (fun _ _ _ h => h) (Or.inl ⟨by rfl, ?_⟩) ?_ ?_
  rotate_left
  · intro w'
    go_simp
    with_reducible rfl
  rotate_left
  · simp only [Act.put, List.setIfInBounds_toArray, List.set_cons_zero, List.set_cons_succ, i64_w, i32_w]
    rfl
  refine pure_ (i := 3) (N := some 11) (v := ?_) (a' := ?_) #[true, true, true, true, false, false, false, false, false, false, false, false, false, false, false, false, false, false, false, false] rfl rfl (by kernel_rfl) (fun _ _ _ h => h) (Or.inl ⟨by rfl, ?_⟩) ?_ ?_
  rotate_left
  · intro w'
    go_simp
    with_reducible rfl
  rotate_left
  · simp only [Act.put, List.setIfInBounds_toArray, List.set_cons_zero, List.set_cons_succ, i64_w, i32_w]
    rfl
  refine pure_ (i := 4) (N := some 12) (v := ?_) (a' := ?_) #[true, true, true, true, true, false, false, false, false, false, false, false, false, false, false, false, false, false, false, false] rfl rfl (by kernel_rfl) (fun _ _ _ h => h) (Or.inl ⟨by rfl, ?_⟩) ?_ ?_
  rotate_left
  · intro w'
    go_simp
    with_reducible rfl
  rotate_left
  · simp only [Act.put, List.setIfInBounds_toArray, List.set_cons_zero, List.set_cons_succ, i64_w, i32_w]
    rfl
  refine pure_ (i := 6) (N := some 14) (v := ?_) (a' := ?_) #[true, true, true, true, true, false, true, false, false, false, false, false, false, false, false, false, false, false, false, false] rfl rfl (by kernel_rfl) (fun _ _ _ h => h) (Or.inl ⟨by rfl, ?_⟩) ?_ ?_
  rotate_left
  · intro w'
    go_simp
    with_reducible rfl
  rotate_left
  · simp only [Act.put, List.setIfInBounds_toArray, List.set_cons_zero, List.set_cons_succ, i64_w, i32_w]
    rfl
  refine pure_ (i := 7) (N := some 15) (v := ?_) (a' := ?_) #[true, true, true, true, true, false, true, true, false, false, false, false, false, false, false, false, false, false, false, false] rfl rfl (by kernel_rfl) (fun _ _ _ h => h) (Or.inl ⟨by rfl, ?_⟩) ?_ ?_
  rotate_left
  · intro w'
    go_simp
    with_reducible rfl
  rotate_left
  · simp only [Act.put, List.setIfInBounds_toArray, List.set_cons_zero, List.set_cons_succ, i64_w, i32_w]
    rfl
  refine pure_ (i := 9) (N := some 17) (v := ?_) (a' := ?_) #[true, true, true, true, true, false, true, true, false, true, false, false, false, false, false, false, false, false, false, false] rfl rfl (by kernel_rfl) (fun _ _ _ h => h) (Or.inl ⟨by rfl, ?_⟩) ?_ ?_
  rotate_left
  · intro w'
    go_simp
    with_reducible rfl
  rotate_left
  · simp only [Act.put, List.setIfInBounds_toArray, List.set_cons_zero, List.set_cons_succ, i64_w, i32_w]
    rfl
  refine pure_ (i := 10) (N := some 18) (v := ?_) (a' := ?_) #[true, true, true, true, true, false, true, true, false, true, true, false, false, false, false, false, false, false, false, false] rfl rfl (by kernel_rfl) (fun _ _ _ h => h) (Or.inl ⟨by rfl, ?_⟩) ?_ ?_
  rotate_left
  · intro w'
    go_simp
    with_reducible rfl
  rotate_left
  · simp only [Act.put, List.setIfInBounds_toArray, List.set_cons_zero, List.set_cons_succ, i64_w, i32_w]
    rfl
  refine one_ (i := 5) (N := some 13) #[true, true, true, true, true, true, true, true, false, true, true, false, false, false, false, false, false, false, false, false] rfl rfl (by kernel_rfl) (by decide) (fun K hK => ?_)
  refine goes_ Tryd.func57 (by kernel_rfl) rfl #[.string (p.extract 0 4)] (by rfl) rfl rfl (by simp only [List.map_toArray, List.map_cons, List.map_nil]; rfl) ?_
  with_reducible refine (id_below (p.extract 0 4) _ _ HSZ.out rfl).mono ?_
  rintro e w3 ⟨rfl, hb⟩
  refine ⟨_, rfl, ?_⟩
  have T1 := Aside0.mk ((hT.out.below (below_drew (Below.refl _ _))).below hb)
  refine hK.out _ _ ((hHeld.imp fun _ h => h.below hb)) (fun hHeld => ?_)
  clear hK K
  refine norm_ (a' := ?_) ?_ ?_
  rotate_left
  · show Act.put _ (some 13) _ = _
    simp only [Act.put, List.setIfInBounds_toArray, List.set_cons_zero, List.set_cons_succ, i64_w, i32_w]
    rfl
  refine one_ (i := 8) (N := some 16) #[true, true, true, true, true, true, true, true, true, true, true, false, false, false, false, false, false, false, false, false] rfl rfl (by kernel_rfl) (by decide) (fun K hK => ?_)
  refine goes_ Tryd.func56 (by kernel_rfl) rfl #[.string (p.extract 4 8)] (by rfl) rfl rfl (by simp only [List.map_toArray, List.map_cons, List.map_nil]; rfl) ?_
  with_reducible refine (got_below (p.extract 4 8) _ _ HSZ2.out rfl).mono ?_
  rintro e w3 ⟨rfl, hb⟩
  refine ⟨_, rfl, ?_⟩
  have T2 := Aside0.mk ((T1.out).below hb)
  refine hK.out _ _ ((hHeld.imp fun _ h => h.below hb)) (fun hHeld => ?_)
  clear hK K
  refine norm_ (a' := ?_) ?_ ?_
  rotate_left
  · show Act.put _ (some 16) _ = _
    simp only [Act.put, List.setIfInBounds_toArray, List.set_cons_zero, List.set_cons_succ, i64_w, i32_w]
    rfl
  refine pure_ (i := 11) (N := some 19) (v := ?_) (a' := ?_) #[true, true, true, true, true, true, true, true, true, true, true, true, false, false, false, false, false, false, false, false] rfl rfl (by kernel_rfl) (fun _ _ _ h => h) (Or.inl ⟨by rfl, ?_⟩) ?_ ?_
  rotate_left
  · intro w'
    go_simp
    with_reducible rfl
  rotate_left
  · simp only [Act.put, List.setIfInBounds_toArray, List.set_cons_zero, List.set_cons_succ, i64_w, i32_w]
    rfl
  refine pure_ (i := 12) (N := some 20) (v := ?_) (a' := ?_) #[true, true, true, true, true, true, true, true, true, true, true, true, true, false, false, false, false, false, false, false] rfl rfl (by kernel_rfl) (fun _ _ _ h => h) (Or.inl ⟨by rfl, ?_⟩) ?_ ?_
  rotate_left
  · intro w'
    go_simp
    with_reducible rfl
  rotate_left
  · simp only [Act.put, List.setIfInBounds_toArray, List.set_cons_zero, List.set_cons_succ, i64_w, i32_w]
    rfl
  refine one_ (i := 13) (N := none) #[true, true, true, true, true, true, true, true, true, true, true, true, true, true, false, false, false, false, false, false] rfl rfl (by kernel_rfl) (by decide) (fun K hK => ?_)
  obtain ⟨h1, r1⟩ := hHeld
  have y1 := r1.own.c9
  have yf1 := blk_frozen r1.own 9
  refine skip_ (w1 := ?_) (by rfl) rfl ?_ ?_
  rotate_left
  · go_simp
    rfl
  clear y1 yf1
  refine hK.out _ _ (⟨_, r1.put9 _⟩) (fun hHeld => ?_)
  clear hK K
  refine pure_ (i := 14) (N := some 21) (v := ?_) (a' := ?_) #[true, true, true, true, true, true, true, true, true, true, true, true, true, true, true, false, false, false, false, false] rfl rfl (by kernel_rfl) (fun _ _ _ h => h) (Or.inl ⟨by rfl, ?_⟩) ?_ ?_
  rotate_left
  · intro w'
    go_simp
    with_reducible rfl
  rotate_left
  · simp only [Act.put, List.setIfInBounds_toArray, List.set_cons_zero, List.set_cons_succ, i64_w, i32_w]
    rfl
  refine pure_ (i := 15) (N := some 22) (v := ?_) (a' := ?_) #[true, true, true, true, true, true, true, true, true, true, true, true, true, true, true, true, false, false, false, false] rfl rfl (by kernel_rfl) (fun _ _ _ h => h) (Or.inl ⟨by rfl, ?_⟩) ?_ ?_
  rotate_left
  · intro w'
    go_simp
    with_reducible rfl
  rotate_left
  · simp only [Act.put, List.setIfInBounds_toArray, List.set_cons_zero, List.set_cons_succ, i64_w, i32_w]
    rfl
  refine one_ (i := 16) (N := none) #[true, true, true, true, true, true, true, true, true, true, true, true, true, true, true, true, true, false, false, false] rfl rfl (by kernel_rfl) (by decide) (fun K hK => ?_)
  obtain ⟨h1, r1⟩ := hHeld
  have y1 := r1.own.c8
  have yf1 := blk_frozen r1.own 8
  refine skip_ (w1 := ?_) (by rfl) rfl ?_ ?_
  rotate_left
  · go_simp
    rfl
  clear y1 yf1
  refine hK.out _ _ (⟨_, r1.put8 _⟩) (fun hHeld => ?_)
  clear hK K
  refine pure_ (i := 17) (N := some 23) (v := ?_) (a' := ?_) #[true, true, true, true, true, true, true, true, true, true, true, true, true, true, true, true, true, true, false, false] rfl rfl (by kernel_rfl) (fun _ _ _ h => h) (Or.inl ⟨by rfl, ?_⟩) ?_ ?_
  rotate_left
  · intro w'
    go_simp
    with_reducible rfl
  rotate_left
  · simp only [Act.put, List.setIfInBounds_toArray, List.set_cons_zero, List.set_cons_succ, i64_w, i32_w]
    rfl
  refine pure_ (i := 18) (N := some 24) (v := ?_) (a' := ?_) #[true, true, true, true, true, true, true, true, true, true, true, true, true, true, true, true, true, true, true, false] rfl rfl (by kernel_rfl) (fun _ _ _ h => h) (Or.inl ⟨by rfl, ?_⟩) ?_ ?_
  rotate_left
  · intro w'
    go_simp
    with_reducible rfl
  rotate_left
  · simp only [Act.put, List.setIfInBounds_toArray, List.set_cons_zero, List.set_cons_succ, i64_w, i32_w]
    rfl
  refine last_ (i := 19) (N := none) #[true, true, true, true, true, true, true, true, true, true, true, true, true, true, true, true, true, true, true, true] rfl rfl (by kernel_rfl) (by decide) (fun K hK => ?_)
  obtain ⟨h1, r1⟩ := hHeld
  have y1 := r1.own.c3
  have yf1 := blk_frozen r1.own 3
  refine skip_ (w1 := ?_) (by rfl) rfl ?_ ?_
  rotate_left
  · go_simp
    rfl
  clear y1 yf1 r1
  refine hK.out _ _ ?_
  clear hK K
  refine done_ (by kernel_rfl) ?_
  go_wp2_with fail
  go_ret
  exact ⟨rfl, ((T2.out.put9 (num (p.extract 0 4) % 2147483648)).put8 (num (p.extract 4 8))).put3 (p.extract 8 p.size)⟩
end Go.Proofs.YtoffhlbdfhhhjaaDoor.Fr
