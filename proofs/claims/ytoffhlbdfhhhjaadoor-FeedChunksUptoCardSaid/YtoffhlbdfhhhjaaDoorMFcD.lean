/- FeedChunks: always true where the arguments are small. The package's variable holds what the program lays. -/
import Derived.Test.YtoffhlbdfhhhjaaDoorMFcC
import Derived.Test.YtoffhlbdfhhhjaaDoorMFdV
import Derived.Test.YtoffhlbdfhhhjaaDoorMFrK
namespace Go.Proofs.YtoffhlbdfhhhjaaDoor.Fr
open Go Go.RowKit Go.Proofs.YtoffhlbdfhhhjaaDoorW.PrintWords Go.Proofs.YtoffhlbdfhhhjaaDoorW.PrintLast Go.Proofs.YtoffhlbdfhhhjaaDoorW.PrintMore Go.Proofs.YtoffhlbdfhhhjaaDoor.QL
set_option linter.unusedSimpArgs false
set_option linter.unusedVariables false
set_option maxHeartbeats 40000000
set_option maxRecDepth 100000
theorem push_push (f : Fd) (a b : ByteArray) : pushF (pushF f a) b = pushF f (a ++ b) := by
  cases h : brB f
  · rw [push_nb a h, push_nb _ (show brB { f with wt := f.wt ++ a } = false from h), push_nb _ h]
    show ({ f with wt := (f.wt ++ a) ++ b } : Fd) = { f with wt := f.wt ++ (a ++ b) }
    rw [app_assoc]
  · rw [push_br a h, push_br b h, push_br _ h]
theorem push_nil (f : Fd) : pushF f ByteArray.empty = f := by
  cases h : brB f
  · rw [push_nb _ h, app_nil]
  · rw [push_br _ h]
theorem push_size (f : Fd) (a : ByteArray) : (pushF f a).wt.size ≤ f.wt.size + a.size ∧ (pushF f a).pf = f.pf := by
  cases h : brB f
  · rw [push_nb _ h]
    exact ⟨Nat.le_of_eq (app_size _ _), rfl⟩
  · rw [push_br _ h]
    exact ⟨Nat.le_add_right _ _, rfl⟩
/-- A feed G that got the first n bytes, and told B of them. -/
def Inv (f0 : Fd) (bytes : ByteArray) (G : Fd) (B : List Td) (n : Nat) : Prop := ∀ rest L2 f2 c s, Drains (pushF G rest) L2 f2 c s → Drains (pushF f0 (bytes.extract 0 n ++ rest)) (B ++ L2) f2 c s
theorem Inv.start (f0 : Fd) (bytes : ByteArray) : Inv f0 bytes f0 [] 0 := by
  intro rest L2 f2 c s d
  have e : bytes.extract 0 0 ++ rest = rest := by
    apply ba_ext
    rw [app_list, ex_list]
    rfl
  rw [e]
  exact d
theorem ex_join (b : ByteArray) (i j : Nat) (h : i ≤ j) (r : ByteArray) : b.extract 0 i ++ (b.extract i j ++ r) = b.extract 0 j ++ r := by
  apply ba_ext
  rw [app_list, app_list, app_list, ex_list, ex_list, ex_list, List.drop_zero, Nat.sub_zero, Nat.sub_zero, ← List.append_assoc]
  congr 1
  rw [show j = i + (j - i) by omega, List.take_add, show i + (j - i) - i = j - i by omega]
theorem Inv.push {f0 G : Fd} {bytes : ByteArray} {B : List Td} {n t : Nat} (h : Inv f0 bytes G B n) (hn : n ≤ t) : Inv f0 bytes (pushF G (bytes.extract n t)) B t := by
  intro rest L2 f2 c s d
  rw [push_push] at d
  have := h _ _ _ _ _ d
  rw [ex_join bytes n t hn] at this
  exact this
theorem Inv.drain {f0 G G1 : Fd} {bytes : ByteArray} {B L : List Td} {n : Nat} {c s : Int} (h : Inv f0 bytes G B n) (d : Drains G L G1 c s) : Inv f0 bytes G1 (B ++ L) n := by
  intro rest L2 f2 c2 s2 d2
  have := h rest _ _ _ _ (d.push rest d2)
  rw [← List.append_assoc] at this
  exact this
theorem Inv.len {f0 G G1 : Fd} {bytes : ByteArray} {B L : List Td} {n : Nat} {c s : Int} (h : Inv f0 bytes G B n) (d : Drains G L G1 c s) (h0 : OkF f0) (hw : f0.wt.size = 0) (hb : bytes.size ≤ 1048576) : B.length + L.length ≤ 1048576 := by
  have h1 := h ByteArray.empty L G1 c s (by rw [push_nil]; exact d)
  have h2 := (h1.sizes (h0.push _)).2.1
  have h3 := (push_size f0 (bytes.extract 0 n ++ ByteArray.empty)).1
  rw [app_size, ByteArray.size_extract] at h3
  have h4 : ByteArray.empty.size = 0 := rfl
  rw [List.length_append] at h2
  omega
theorem Inv.stop {f0 G f2 fA : Fd} {bytes : ByteArray} {B L A : List Td} {c s cA sA : Int} (h : Inv f0 bytes G B bytes.size) (d : Drains G L f2 c s) (hA : Drains (pushF f0 bytes) A fA cA sA) : A = B ++ L ∧ fA = f2 ∧ cA = c ∧ sA = s := by
  have h1 := h ByteArray.empty L f2 c s (by rw [push_nil]; exact d)
  rw [ex_all, app_nil] at h1
  exact hA.det h1
/-- Elder blocks but two are as they were. -/
structure El (g d N : Nat) (w w' : World) : Prop where
  size : w.heap.size ≤ w'.heap.size
  block : ∀ k : Nat, k < N → k ≠ g → k ≠ d → w'.heap[k]? = w.heap[k]?
theorem El.refl (g d N : Nat) (w : World) : El g d N w w := ⟨Nat.le_refl _, fun _ _ _ _ => rfl⟩
theorem El.below {g d N : Nat} {w W W1 : World} (h : El g d N w W) (hN : N ≤ w.heap.size) (hb : Below W.heap.size W W1) : El g d N w W1 := ⟨Nat.le_trans h.size hb.size, fun k hk h1 h2 => (hb.block k (by have := h.size; omega)).trans (h.block k hk h1 h2)⟩
theorem El.chg {g d N : Nat} {w W W1 : World} (h : El g d N w W) (hN : N ≤ w.heap.size) (hb : Chg g W W1) : El g d N w W1 := ⟨Nat.le_trans h.size hb.size, fun k hk h1 h2 => (hb.block k (by have := h.size; omega) h1).trans (h.block k hk h1 h2)⟩
theorem El.dr {g d N : Nat} {v : Value} {w W W1 : World} (h : El g d N w W) (hN : N ≤ w.heap.size) (hb : Dr g v W W1) (hv : ∀ k, v.ownBlock = some k → N ≤ k) : El g d N w W1 := ⟨Nat.le_trans h.size hb.size, fun k hk h1 h2 => (hb.block k (by have := h.size; omega) h1 (fun e => by have := hv k e.symm; omega)).trans (h.block k hk h1 h2)⟩
theorem El.row {g d N : Nat} {w W W1 : World} (h : El g d N w W) (ho : ∀ k : Nat, k ≠ d → W1.heap[k]? = W.heap[k]?) (hs : W.heap.size ≤ W1.heap.size) : El g d N w W1 := ⟨Nat.le_trans h.size hs, fun k hk h1 h2 => (ho k h2).trans (h.block k hk h1 h2)⟩
theorem El.fat {g d N k : Nat} {w W : World} {f : Fd} (h : El g d N w W) (hf : FAt w k f) (hk : k < N) (h1 : k ≠ g) (h2 : k ≠ d) : FAt W k f := (h.block k hk h1 h2).trans hf
theorem El.blk {g d N k : Nat} {w W : World} {o : Obj} (h : El g d N w W) (hf : w.heap[k]? = some o) (hk : k < N) (h1 : k ≠ g) (h2 : k ≠ d) : W.heap[k]? = some o := (h.block k hk h1 h2).trans hf
theorem El.rowT {g d base : Nat} {w W : World} {f : Fd} {v : Value} {xs : List Td} {cs : Array Value} {ok : Nat → Prop} (h : El g d w.heap.size w W) (hf : FAt w g f) (hd : w.heap[d]? = some (.cells cs 35 (0, 0))) (hr : Kd.R kTd 110 w base ok v xs) : Kd.R kTd 110 W base ok v xs :=
  Kd.R_mono (Kd.R_step (Kd.R_types (Kd.R_types hr hf (by intro q hq; rcases kTd_E q hq with rfl | rfl <;> decide)) hd (by intro q hq; rcases kTd_E q hq with rfl | rfl <;> decide)) (fun k hk hlt => h.block k hlt hk.1.2 hk.2)) (fun _ hk => hk.1.1)
theorem Dr.fat {g k : Nat} {v : Value} {w W : World} {f : Fd} (h : Dr g v w W) (hf : FAt w k f) (hn : k ≠ g) (hv : some k ≠ v.ownBlock) : FAt W k f := (h.block k (blk_lt hf) hn hv).trans hf
theorem nil_own {k : Nat} : some k ≠ (Value.slice none 0 0).ownBlock := by simp [Value.ownBlock]
theorem Dr.below0 {g base : Nat} {v : Value} {w0 W W1 : World} (h : Dr g v W W1) (hb : Below base w0 W) : GL W → g ≠ 0 → (∀ k, v.ownBlock = some k → 0 < k) → GL W1 := fun hG hg hv i n hi => (cell_same (h.block 0 hG.lt (fun e => hg e.symm) (fun e => by have := hv 0 e.symm; omega)) i).trans (hG i n hi)
theorem int_get {W : World} {A : Option Addr} {n : Nat} {xs : List Int} (h : Kd.C (Kd.int .i64) W A n xs) (j : Nat) (x : Int) (hx : xs[j]? = some x) : ∃ ad, A = some ad ∧ W.cell? (ad.add j) = some (.int .i64 x) := by
  obtain ⟨h1, h2, h3⟩ := h
  obtain ⟨ad, e, hc⟩ := h3 (by have := (List.getElem?_eq_some_iff.1 hx).1; omega)
  obtain ⟨c, hs, hk, hcell⟩ := hc j x hx
  have hk : c = [.int .i64 x] := hk
  subst hk
  have := hcell 0 _ rfl
  exact ⟨ad, e, by simpa [Kd.int, Kd.scalar] using this⟩
attribute [local go_sem high] eqA32
theorem chunks_calls (server : Bool) (limit : Int) (bytes : ByteArray) (A : Option Addr) (c0 : Nat) (cuts : List Int) (late : Bool) (w : World) (hG : GL w) (hr : Kd.C (Kd.int .i64) w A cuts.length cuts) (hb : bytes.size ≤ 1048576) (hn : cuts.length ≤ 1048576) (hl : -9223372036854775808 ≤ limit ∧ limit ≤ 9223372036854775807) (hcu : ∀ x ∈ cuts, -9223372036854775808 ≤ x ∧ x ≤ 9223372036854775807) :
    Calls Tryd.prog 9 #[.bool server, .int .i64 limit, .string bytes, .slice A cuts.length c0, .bool late] w fun e w' => e = .returned (.bool true) ∧ Below w.heap.size w w' := by
  have HG := Aside0.mk hG
  have HR := Aside0.mk hr
  have HBS := Aside0.mk hb
  have HN := Aside0.mk hn
  have HL := Aside0.mk hl
  have L0 := Aside0.mk (Below.refl w.heap.size w)
  have H0 := Aside0.mk hG.lt
  clear hG hr hb hn hl hcu
  go_enter Tryd.func9, Tryd.ntmps9
  go_upto_region 3 with (go_at_call 29; refine (head_calls _ HG.out).mono ?_; rintro e w1 ⟨rfl, hb⟩; have L1 := Aside0.mk hb; have G1 := Aside0.mk (HG.out.below hb); clear hb)
  go_upto_region 4 with (go_at_call 30; refine (most_calls limit _ HL.out.1 HL.out.2).mono ?_; rintro e w2 ⟨most, rfl, hb⟩; have L2 := Aside0.mk (below_then L1.out L1.out.size hb); have G2 := Aside0.mk (G1.out.below hb); clear hb)
  clear L0 L1 G1
  go_upto_region 5 with (go_at_call 31; refine (new_calls server most _).mono ?_; rintro e w3 ⟨rfl, hf, hb⟩; have Ff := Aside0.mk hf; have L3 := Aside0.mk (below_then L2.out L2.out.size hb); have G3 := Aside0.mk (G2.out.below hb); clear hf hb)
  obtain ⟨gf, hg⟩ : ∃ g, w2.heap.size = g := ⟨_, rfl⟩
  have HBf : Aside0 (w.heap.size ≤ gf) := ⟨by have := L2.out.size; omega⟩
  have HUf : Aside0 (w2.heap.size = gf) := ⟨hg⟩
  rw [hg] at Ff ⊢
  clear hg
  go_upto_region 6 with (go_at_call 31; refine (new_calls server most _).mono ?_; rintro e w4 ⟨rfl, hf, hb⟩; have HK3 := Aside0.mk (blk_lt Ff.out); have Fg := Aside0.mk hf; have Ff := Aside0.mk (Ff.out.low hb); have L4 := Aside0.mk (below_then L3.out L3.out.size hb); have G4 := Aside0.mk (G3.out.below hb); clear hf hb)
  obtain ⟨gg, hg⟩ : ∃ g, w3.heap.size = g := ⟨_, rfl⟩
  have HBg : Aside0 (w.heap.size ≤ gg) := ⟨by have := L3.out.size; omega⟩
  have HUg : Aside0 (w3.heap.size = gg) := ⟨hg⟩
  rw [hg] at Fg ⊢
  clear hg
  go_upto_region 7 with (go_at_call 31; refine (new_calls server most _).mono ?_; rintro e w5 ⟨rfl, hf, hb⟩; have HK4 := Aside0.mk (blk_lt Fg.out); have Fh := Aside0.mk hf; have Ff := Aside0.mk (Ff.out.low hb); have Fg := Aside0.mk (Fg.out.low hb); have L5 := Aside0.mk (below_then L4.out L4.out.size hb); have G5 := Aside0.mk (G4.out.below hb); clear hf hb)
  obtain ⟨gh, hg⟩ : ∃ g, w4.heap.size = g := ⟨_, rfl⟩
  have HBh : Aside0 (w.heap.size ≤ gh) := ⟨by have := L4.out.size; omega⟩
  have HUh : Aside0 (w4.heap.size = gh) := ⟨hg⟩
  rw [hg] at Fh ⊢
  clear hg
  have NFG : Aside0 (gf ≠ gg ∧ gf ≠ gh ∧ gg ≠ gh ∧ gf < w5.heap.size ∧ gg < w5.heap.size ∧ gh < w5.heap.size) := ⟨by
    have h1 := blk_lt Ff.out
    have h2 := blk_lt Fg.out
    have h3 := blk_lt Fh.out
    have h4 := HUf.out
    have h5 := HUg.out
    have h6 := HUh.out
    have h7 := L2.out.size
    have h8 := L3.out.size
    have h9 := L4.out.size
    have k1 := HK3.out
    have k2 := HK4.out
    omega⟩
  clear L2 L3 L4 G2 G3 G4 HUf HUg HUh HK3 HK4
  obtain ⟨f0, hf0⟩ : ∃ f, newF server most = f := ⟨_, rfl⟩
  have HOK : Aside0 (OkF f0 ∧ f0.wt.size = 0 ∧ f0.pf.size ≤ 24) := ⟨by rw [← hf0]; exact ⟨.inl rfl, rfl, by cases server; (show ByteArray.empty.size ≤ 24; decide); (show prefaceB.size ≤ 24; decide)⟩⟩
  rw [hf0] at Ff Fg Fh
  clear hf0
  obtain ⟨LA, fA, cA, sA, hdA⟩ := drains_ex (pushF f0 bytes).wt.size (pushF f0 bytes) (Nat.le_refl _) (HOK.out.1.push _)
  have HDA := Aside0.mk hdA
  have HSA : Aside0 ((pushF f0 bytes).wt.size ≤ 1048576 ∧ (pushF f0 bytes).pf.size ≤ 24 ∧ LA.length ≤ 1048576) := ⟨by
    have h1 := push_size f0 bytes
    have h2 := hdA.sizes (HOK.out.1.push _)
    have h3 := HOK.out
    have h4 := HBS.out
    rw [h1.2]
    omega⟩
  clear hdA
  go_upto_region 9 with fail
  go_upto_region 10 with (go_at_call 32; refine (push_calls gf f0 bytes _ Ff.out (by have := HOK.out; have := HBS.out; omega)).mono ?_; rintro e w6 ⟨rfl, hf, hb⟩; have Ff0 := Ff; have Ff := Aside0.mk hf; have Fg := Aside0.mk (hb.blk Fg.out NFG.out.1.symm); have Fh := Aside0.mk (hb.blk Fh.out NFG.out.2.1.symm); have L6 := Aside0.mk (hb.below L5.out HBf.out L5.out.size); have G6 := Aside0.mk (G5.out.chg (fat_ne G5.out Ff0.out) hb); have S6 := Aside0.mk hb.size; clear hf hb)
  clear Ff0 L5 G5
  go_upto_region 11 with (go_at_call 33; refine (drained_calls w.heap.size w gf (pushF f0 bytes) fA LA cA sA (.slice none 0 0) [] _ G6.out HDA.out Ff.out (HOK.out.1.push _) HSA.out.1 HSA.out.2.1 (Kd.R_nil _ _ _ _ _) L6.out L6.out.size HBf.out (by have := HSA.out; simp only [List.length_nil]; omega) H0.out).mono ?_; rintro e w7 ⟨va, rfl, hr, hf, hb, hd, hat⟩; have Fg := Aside0.mk (hd.fat Fg.out NFG.out.1.symm nil_own); have Fh := Aside0.mk (hd.fat Fh.out NFG.out.2.1.symm nil_own); have G7 := Aside0.mk (hd.below0 L6.out G6.out (by have := HBf.out; have := H0.out; omega) (fun k h => absurd h.symm nil_own)); have Ff := Aside0.mk hf; have Ra := Aside0.mk hr; have L7 := Aside0.mk hb; have S7 := Aside0.mk hd.size; clear hr hf hb hd hat)
  clear L6 G6
  obtain ⟨w8, hW⟩ : ∃ W, w7.alloc (.cells #[.int .i64 cA, .int .i64 sA] 35) = W := ⟨_, rfl⟩
  obtain ⟨ge, hge⟩ : ∃ q, w7.heap.size = q := ⟨_, rfl⟩
  have hb : Below w7.heap.size w7 w8 := by rw [← hW]; exact below_alloc (Below.refl _ _) _
  have Be : Aside0 (w8.heap[ge]? = some (.cells #[.int .i64 cA, .int .i64 sA] 35 (0, 0))) := ⟨by rw [← hW, ← hge]; exact blk_new _ _⟩
  have Ff := Aside0.mk (Ff.out.low hb)
  have Fg := Aside0.mk (Fg.out.low hb)
  have Fh := Aside0.mk (Fh.out.low hb)
  have Ra := Aside0.mk (Kd.R_below Ra.out hb)
  have L8 := Aside0.mk (below_then L7.out L7.out.size hb)
  have G8 := Aside0.mk (G7.out.below hb)
  rw [hW, hge]
  clear hW hge hb L7 G7 S6 S7
  go_upto_region 13 with fail
  obtain ⟨w9, hW⟩ : ∃ W, w8.alloc (.cells #[.int .i64 0, .int .i64 0] 35) = W := ⟨_, rfl⟩
  obtain ⟨gd, hgd⟩ : ∃ q, w8.heap.size = q := ⟨_, rfl⟩
  have hb : Below w8.heap.size w8 w9 := by rw [← hW]; exact below_alloc (Below.refl _ _) _
  have Bd : Aside0 (w9.heap[gd]? = some (.cells #[.int .i64 0, .int .i64 0] 35 (0, 0))) := ⟨by rw [← hW, ← hgd]; exact blk_new _ _⟩
  have Be8 := Be
  have Be := Aside0.mk (blk_below Be8.out hb)
  have Ff := Aside0.mk (Ff.out.low hb)
  have Fg := Aside0.mk (Fg.out.low hb)
  have Fh := Aside0.mk (Fh.out.low hb)
  have Ra := Aside0.mk (Kd.R_below Ra.out hb)
  have HBD : Aside0 (w.heap.size ≤ gd) := ⟨by have := L8.out.size; omega⟩
  have L9 := Aside0.mk (below_then L8.out L8.out.size hb)
  have G9 := Aside0.mk (G8.out.below hb)
  have NED : Aside0 (ge ≠ gd) := ⟨by have := blk_lt Be8.out; omega⟩
  rw [hW, hgd]
  clear hW hgd hb L8 G8 Be8
  go_upto_if 15 with fail
  have EL0 := Aside0.mk (El.refl gg gd w9.heap.size w9)
  go_loopw [17, 19, 20] (fun vb vf v w' => ∃ (i n : Nat) (G : Fd) (B : List Td) (cd sd : Int), v = .int .i64 (i : Int) ∧ vf = .int .i64 (n : Int) ∧ Aside0 (i ≤ cuts.length + 1) ∧ Aside0 (n ≤ bytes.size ∧ (i = cuts.length + 1 → n = bytes.size)) ∧ Aside0 (Inv f0 bytes G B n) ∧ Aside0 (OkF G ∧ G.wt.size ≤ n ∧ G.pf.size ≤ 24) ∧ Aside0 (FAt w' gg G) ∧ Aside0 (Kd.R kTd 110 w' w.heap.size (fun _ => True) vb B) ∧ Aside0 (w'.heap[gd]? = some (.cells #[.int .i64 cd, .int .i64 sd] 35 (0, 0))) ∧ Aside0 (Below w.heap.size w w') ∧ Aside0 (GL w') ∧ Aside0 (El gg gd w9.heap.size w9 w') ∧ Aside0 (∀ k, vb.ownBlock = some k → w9.heap.size ≤ k)) (fun _ _ v _ => ((cuts.length : Int) + 1 - intOf v).toNat)
  case atStart => exact ⟨0, 0, f0, [], 0, 0, rfl, rfl, ⟨Nat.zero_le _⟩, ⟨Nat.zero_le _, fun h => by omega⟩, ⟨Inv.start _ _⟩, ⟨HOK.out.1, Nat.le_of_eq HOK.out.2.1, HOK.out.2.2⟩, Fg, ⟨Kd.R_nil _ _ _ _ _⟩, Bd, L9, G9, EL0, ⟨fun k h => absurd h.symm nil_own⟩⟩
  case round =>
    obtain ⟨i, n, G, B, cd, sd, rfl, rfl, HI, HNN, HIV, HGS, F1, R1, D1, L1, G1, E1, V1⟩ := hrel
    by_cases hil : i ≤ cuts.length
    · have d1 : decide ((i : Int) ≤ (cuts.length : Int)) = true := decide_eq_true (by omega)
      have d2 : decide (i ≤ cuts.length) = true := decide_eq_true hil
      obtain ⟨m, hm⟩ : ∃ m, i + 1 = m := ⟨_, rfl⟩
      have hw1 : wrap64 ((i : Int) + 1) = (m : Int) := by have := HN.out; unfold wrap64; omega
      have HIM : Aside0 (i ≤ cuts.length ∧ i + 1 = m) := ⟨hil, hm⟩
      obtain ⟨y, hy⟩ : ∃ y, decide (i < cuts.length) = y := ⟨_, rfl⟩
      have hy2 : decide ((i : Int) < (cuts.length : Int)) = y := by rw [← hy]; congr 1; exact propext (by omega)
      have HY := Aside0.mk hy
      obtain ⟨tq, hto⟩ : ∃ tq : Int, (if i < cuts.length then cuts.getD i 0 else (bytes.size : Int)) = tq := ⟨_, rfl⟩
      have HTO := Aside0.mk hto
      clear hm hil hto
      go_upto_if 68 with fail
      clear hy hy2
      go_cut [21] from 57 to 96 (fun v wc => v = .int .i64 tq ∧ Aside0 (wc = wr))
      case first =>
        cases y
        · go_wp2_with fail
          go_meet
          case rel => exact ⟨by rw [← HTO.out, if_neg (of_decide_eq_false HY.out)], ⟨rfl⟩⟩
        · have hlt : i < cuts.length := of_decide_eq_true HY.out
          obtain ⟨x, hx⟩ : ∃ x, cuts[i]? = some x := ⟨_, List.getElem?_eq_getElem hlt⟩
          have hxt : x = tq := by
            have h := HTO.out
            rw [if_pos hlt, List.getD_eq_getElem?_getD, hx] at h
            exact h
          subst hxt
          obtain ⟨ad, rfl, z0⟩ := int_get (Kd.C_below HR.out L1.out) i x hx
          have p0 : (0 : Int) ≤ (i : Int) := by omega
          have p1 : (i : Int) < (cuts.length : Int) := by omega
          clear hlt hx
          go_wp2_with fail
          go_meet
          case rel => exact ⟨rfl, ⟨rfl⟩⟩
      case rest =>
        obtain ⟨rfl, HWC⟩ := hcut
        rw [HWC.out]
        clear HWC
        by_cases hb1 : tq < (n : Int)
        · have c1 : decide (tq < (n : Int)) = true := decide_eq_true hb1
          have HBAD : Aside0 (¬ i + 1 = cuts.length + 1) := ⟨by intro h; have h2 := HTO.out; rw [if_neg (by omega)] at h2; have := HNN.out.1; omega⟩
          clear hb1
          go_wp2_with fail
          go_roundw
          case rel => exact ⟨i + 1, n, G, B, cd, sd, congrArg (Value.int .i64) (by rw [hw1, HIM.out.2]), rfl, ⟨by have := HIM.out.1; omega⟩, ⟨HNN.out.1, fun h => absurd h (HBAD.out)⟩, HIV, HGS, F1, R1, D1, L1, G1, E1, V1⟩
          case measure =>
            rw [hw1]
            show ((cuts.length : Int) + 1 - (m : Int)).toNat < ((cuts.length : Int) + 1 - (i : Int)).toNat
            have := HIM.out
            omega
        by_cases hb2 : (bytes.size : Int) < tq
        · have c1 : decide (tq < (n : Int)) = false := decide_eq_false hb1
          have c2 : decide ((bytes.size : Int) < tq) = true := decide_eq_true hb2
          have HBAD : Aside0 (¬ i + 1 = cuts.length + 1) := ⟨by intro h; have h2 := HTO.out; rw [if_neg (by omega)] at h2; omega⟩
          clear hb1 hb2
          go_wp2_with fail
          go_roundw
          case rel => exact ⟨i + 1, n, G, B, cd, sd, congrArg (Value.int .i64) (by rw [hw1, HIM.out.2]), rfl, ⟨by have := HIM.out.1; omega⟩, ⟨HNN.out.1, fun h => absurd h (HBAD.out)⟩, HIV, HGS, F1, R1, D1, L1, G1, E1, V1⟩
          case measure =>
            rw [hw1]
            show ((cuts.length : Int) + 1 - (m : Int)).toNat < ((cuts.length : Int) + 1 - (i : Int)).toNat
            have := HIM.out
            omega
        obtain ⟨t, rfl⟩ : ∃ t : Nat, tq = (t : Int) := ⟨tq.toNat, by omega⟩
        have c1 : decide ((t : Int) < (n : Int)) = false := decide_eq_false hb1
        have c1' : decide (t < n) = false := decide_eq_false (by omega)
        have c2 : decide ((bytes.size : Int) < (t : Int)) = false := decide_eq_false hb2
        have c2' : decide (bytes.size < t) = false := decide_eq_false (by omega)
        have HT : Aside0 (n ≤ t ∧ t ≤ bytes.size) := ⟨by omega⟩
        have q0 : (0 : Int) ≤ (n : Int) := by omega
        have q1 : (n : Int) ≤ (t : Int) := by omega
        have q2 : (t : Int) ≤ (bytes.size : Int) := by omega
        have HTE : Aside0 (m = cuts.length + 1 → t = bytes.size) := ⟨by intro h; have h1 := HIM.out; have h2 := HTO.out; rw [if_neg (by omega)] at h2; omega⟩
        clear hb1 hb2
        go_upto_region 22 with (go_at_call 32; refine (push_calls gg G (bytes.extract n t) _ F1.out (by have := HGS.out; have := HT.out; have := HBS.out; rw [ByteArray.size_extract]; omega)).mono ?_; rintro e w10 ⟨rfl, hf, hb⟩; have F2 := Aside0.mk hf; have R2 := Aside0.mk (hb.rowT F1.out R1.out); have D2 := Aside0.mk (hb.blk D1.out (blk_ne D1.out F1.out (by decide))); have L2 := Aside0.mk (hb.below L1.out HBg.out L1.out.size); have G2 := Aside0.mk (G1.out.chg (fat_ne G1.out F1.out) hb); have E2 := Aside0.mk (E1.out.chg (Nat.le_refl _) hb); clear hf hb)
        obtain ⟨P, hP⟩ : ∃ P, pushF G (bytes.extract n t) = P := ⟨_, rfl⟩
        have HIV2 : Aside0 (Inv f0 bytes P B t) := ⟨by rw [← hP]; exact HIV.out.push HT.out.1⟩
        have HPS : Aside0 (OkF P ∧ P.wt.size ≤ t ∧ P.pf.size ≤ 24) := ⟨by
          have h1 := push_size G (bytes.extract n t)
          rw [ByteArray.size_extract] at h1
          have h2 := HGS.out
          have h3 := HT.out
          rw [← hP]
          refine ⟨h2.1.push _, by omega, by rw [h1.2]; exact h2.2.2⟩⟩
        rw [hP] at F2
        clear hP q0 q1 q2 c1 c1' c2 c2' F1 R1 D1 L1 G1 E1 HIV HGS
        cases late
        · obtain ⟨LB, fB, cB, sB, hdB⟩ := drains_ex P.wt.size P (Nat.le_refl _) HPS.out.1
          have HDB := Aside0.mk hdB
          have HLB := Aside0.mk (HIV2.out.len hdB HOK.out.1 HOK.out.2.1 HBS.out)
          have HSB := Aside0.mk (hdB.sizes HPS.out.1)
          clear hdB
          go_wp2_with (first
            | (go_at_call 33; refine (drained_calls w.heap.size w gg P fB LB cB sB u17 B _ G2.out HDB.out F2.out HPS.out.1 (by have := HPS.out; have := HT.out; have := HBS.out; omega) HPS.out.2.2 R2.out L2.out L2.out.size HBg.out HLB.out H0.out).mono ?_; rintro e w11 ⟨vb, rfl, hr, hf, hb, hd, hat⟩; have F3 := Aside0.mk hf; have R3 := Aside0.mk hr; have D3 := Aside0.mk (hd.block _ (blk_lt D2.out) (blk_ne D2.out F2.out (by decide)) (Kd.R_ne R2.out D2.out (by decide)) |>.trans D2.out); have L3 := Aside0.mk hb; have G3 := Aside0.mk (hd.below0 L2.out G2.out (by have := HBg.out; have := H0.out; omega) (fun k h => by have := V1.out k h; have := G9.out.lt; omega)); have E3 := Aside0.mk (E2.out.dr (Nat.le_refl _) hd V1.out); have V3 : Aside0 (∀ k, vb.ownBlock = some k → w9.heap.size ≤ k) := ⟨by intro k hk; rcases hat with e | ⟨b, e, h⟩; exact V1.out k (e ▸ hk); (rw [e] at hk; injection hk with hk; have := E2.out.size; omega)⟩; clear hr hf hb hd hat)
            | (refine wpList_store_row rfl 35 _ _ rfl gd #[.int .i64 cB, .int .i64 sB] rfl rfl 35 _ D3.out (by kernel_rfl) (by kernel_rfl) (by kernel_rfl) ?_; obtain ⟨W15, ew, q4, qo, qb⟩ := row_store _ gd #[.int .i64 cB, .int .i64 sB] 35 _ D3.out; rw [ew]; have F4 : Aside0 (FAt _ gg fB) := ⟨(qo gg (blk_ne F3.out D3.out (by decide))).trans F3.out⟩; have R4 : Aside0 (Kd.R kTd 110 _ w.heap.size (fun _ => True) vb (B ++ LB)) := ⟨Kd.R_mono (Kd.R_step (Kd.R_types R3.out D3.out (by intro q hq; rcases kTd_E q hq with rfl | rfl <;> decide)) (fun k hk _ => qo k hk.2)) (fun _ _ => trivial)⟩; have D4 := Aside0.mk q4; have L4 := Aside0.mk (qb _ _ L3.out HBD.out); have G4 : Aside0 (GL _) := ⟨fun i n hi => (cell_same (qo 0 (by have := HBD.out; have := H0.out; omega)) i).trans (G3.out i n hi)⟩; have E4 := Aside0.mk (E3.out.row qo (qb 0 _ (Below.refl _ _) (Nat.zero_le _)).size); clear q4 qo qb ew))
          go_roundw
          case rel => exact ⟨m, t, fB, B ++ LB, cB, sB, congrArg (Value.int .i64) hw1, rfl, ⟨by have := HIM.out; omega⟩, ⟨HT.out.2, HTE.out⟩, ⟨HIV2.out.drain HDB.out⟩, ⟨HSB.out.1, by have := HSB.out; have := HPS.out; omega, by have := HSB.out; have := HPS.out; omega⟩, F4, ⟨R4.out⟩, D4, L4, G4, E4, V3⟩
          case measure =>
            rw [hw1]
            show ((cuts.length : Int) + 1 - (m : Int)).toNat < ((cuts.length : Int) + 1 - (i : Int)).toNat
            have := HIM.out
            omega
        · go_wp2_with fail
          go_roundw
          case rel => exact ⟨m, t, P, B, cd, sd, congrArg (Value.int .i64) hw1, rfl, ⟨by have := HIM.out; omega⟩, ⟨HT.out.2, HTE.out⟩, HIV2, HPS, F2, ⟨R2.out⟩, D2, L2, G2, E2, V1⟩
          case measure =>
            rw [hw1]
            show ((cuts.length : Int) + 1 - (m : Int)).toNat < ((cuts.length : Int) + 1 - (i : Int)).toNat
            have := HIM.out
            omega
    · have hie : i = cuts.length + 1 := by have := HI.out; omega
      subst hie
      obtain rfl : n = bytes.size := HNN.out.2 rfl
      have d1 : decide (((cuts.length + 1 : Nat) : Int) ≤ (cuts.length : Int)) = false := decide_eq_false (by omega)
      have d2 : decide (cuts.length + 1 ≤ cuts.length) = false := decide_eq_false (by omega)
      obtain ⟨LB, fB, cB, sB, hdB⟩ := drains_ex G.wt.size G (Nat.le_refl _) HGS.out.1
      have HDB := Aside0.mk hdB
      have HLB := Aside0.mk (HIV.out.len hdB HOK.out.1 HOK.out.2.1 HBS.out)
      have heq := HIV.out.stop hdB HDA.out
      have HEQ := Aside0.mk heq
      have HN0 : Aside0 (0 < w9.heap.size) := ⟨G9.out.lt⟩
      clear hil HI hdB heq
      go_upto_region 26 with (first
        | (go_at_call 33; refine (drained_calls w.heap.size w gg G fB LB cB sB u17 B _ G1.out HDB.out F1.out HGS.out.1 (by have := HGS.out; have := HBS.out; omega) HGS.out.2.2 R1.out L1.out L1.out.size HBg.out HLB.out H0.out).mono ?_; rintro e w11 ⟨vB, rfl, hr, hf, hb, hd, hat⟩; have F3 := Aside0.mk hf; have R3 := Aside0.mk hr; have D3 := Aside0.mk (hd.block _ (blk_lt D1.out) (blk_ne D1.out F1.out (by decide)) (Kd.R_ne R1.out D1.out (by decide)) |>.trans D1.out); have L3 := Aside0.mk hb; have G3 := Aside0.mk (hd.below0 L1.out G1.out (by have := HBg.out; have := H0.out; omega) (fun k h => by have := V1.out k h; have := HN0.out; omega)); have E3 := Aside0.mk (E1.out.dr (Nat.le_refl _) hd V1.out); have V3 : Aside0 (∀ k, vB.ownBlock = some k → w9.heap.size ≤ k) := ⟨by intro k hk; rcases hat with e | ⟨b, e, h⟩; exact V1.out k (e ▸ hk); (rw [e] at hk; injection hk with hk; have := E1.out.size; omega)⟩; clear hr hf hb hd hat)
        | (refine wpList_store_row rfl 35 _ _ rfl gd #[.int .i64 cB, .int .i64 sB] rfl rfl 35 _ D3.out (by kernel_rfl) (by kernel_rfl) (by kernel_rfl) ?_; obtain ⟨W15, ew, q4, qo, qb⟩ := row_store _ gd #[.int .i64 cB, .int .i64 sB] 35 _ D3.out; rw [ew]; have F4 : Aside0 (FAt _ gg fB) := ⟨(qo gg (blk_ne F3.out D3.out (by decide))).trans F3.out⟩; have R4 : Aside0 (Kd.R kTd 110 _ w.heap.size (fun _ => True) vB (B ++ LB)) := ⟨Kd.R_mono (Kd.R_step (Kd.R_types R3.out D3.out (by intro q hq; rcases kTd_E q hq with rfl | rfl <;> decide)) (fun k hk _ => qo k hk.2)) (fun _ _ => trivial)⟩; have D4 := Aside0.mk q4; have L4 := Aside0.mk (qb _ _ L3.out HBD.out); have G4 : Aside0 (GL _) := ⟨fun i n hi => (cell_same (qo 0 (by have := HBD.out; have := H0.out; omega)) i).trans (G3.out i n hi)⟩; have E4 := Aside0.mk (E3.out.row qo (qb 0 _ (Below.refl _ _) (Nat.zero_le _)).size); clear q4 qo qb ew))
      clear d1 d2 F3 R3 D3 L3 G3 E3 F1 R1 D1 L1 G1 E1 V1
      obtain ⟨q1, q2, q3, q4⟩ := HEQ.out
      subst q2; subst q3; subst q4
      rw [← q1] at R4
      clear q1 HEQ
      have Ff2 := Aside0.mk (E4.out.fat Ff.out (blk_lt Ff.out) NFG.out.1 (blk_ne Ff.out Bd.out (by decide)))
      have Fh2 := Aside0.mk (E4.out.fat Fh.out (blk_lt Fh.out) NFG.out.2.2.1.symm (blk_ne Fh.out Bd.out (by decide)))
      have Be2 := Aside0.mk (E4.out.blk Be.out (blk_lt Be.out) (blk_ne Be.out Fg.out (by decide)) NED.out)
      have Ra2 := Aside0.mk (E4.out.rowT Fg.out Bd.out Ra.out)
      clear Ff Fg Fh Be Ra Bd EL0 E4 L9 G9
      go_upto_region 29 with fail
      obtain ⟨w20, hW⟩ : ∃ W, W15.alloc (.cells #[.int .i64 0, .int .i64 0] 35) = W := ⟨_, rfl⟩
      obtain ⟨gx, hgx⟩ : ∃ q, W15.heap.size = q := ⟨_, rfl⟩
      have hb : Below W15.heap.size W15 w20 := by rw [← hW]; exact below_alloc (Below.refl _ _) _
      have Bx : Aside0 (w20.heap[gx]? = some (.cells #[.int .i64 0, .int .i64 0] 35 (0, 0))) := ⟨by rw [← hW, ← hgx]; exact blk_new _ _⟩
      have HBX : Aside0 (w.heap.size ≤ gx) := ⟨by have := L4.out.size; omega⟩
      have NX : Aside0 (ge ≠ gx ∧ gd ≠ gx) := ⟨by have := blk_lt Be2.out; have := blk_lt D4.out; omega⟩
      have Ff := Aside0.mk (Ff2.out.low hb)
      have Fg := Aside0.mk (F4.out.low hb)
      have Fh := Aside0.mk (Fh2.out.low hb)
      have Be := Aside0.mk (blk_below Be2.out hb)
      have Bd := Aside0.mk (blk_below D4.out hb)
      have Ra := Aside0.mk (Kd.R_below Ra2.out hb)
      have Rb := Aside0.mk (Kd.R_below R4.out hb)
      have L9 := Aside0.mk (below_then L4.out L4.out.size hb)
      have G9 := Aside0.mk (G4.out.below hb)
      rw [hW, hgx]
      clear hW hgx hb Ff2 F4 Fh2 Be2 D4 Ra2 R4 L4 G4 V3 HN0
      have HN0 : Aside0 (0 < w20.heap.size) := ⟨G9.out.lt⟩
      have EL0 := Aside0.mk (El.refl gh gx w20.heap.size w20)
      go_loopw [22, 23] (fun vc v w' => ∃ (k : Nat) (G : Fd) (C : List Td) (cd sd : Int), v = .int .i64 (k : Int) ∧ Aside0 (k ≤ bytes.size ∧ k ≤ 300) ∧ Aside0 (Inv f0 bytes G C k) ∧ Aside0 (OkF G ∧ G.wt.size ≤ k ∧ G.pf.size ≤ 24) ∧ Aside0 (FAt w' gh G) ∧ Aside0 (Kd.R kTd 110 w' w.heap.size (fun _ => True) vc C) ∧ Aside0 (w'.heap[gx]? = some (.cells #[.int .i64 cd, .int .i64 sd] 35 (0, 0))) ∧ Aside0 (Below w.heap.size w w') ∧ Aside0 (GL w') ∧ Aside0 (El gh gx w20.heap.size w20 w') ∧ Aside0 (∀ k, vc.ownBlock = some k → w20.heap.size ≤ k)) (fun _ v _ => ((300 : Int) - intOf v).toNat)
      case atStart => exact ⟨0, f0, [], 0, 0, rfl, ⟨Nat.zero_le _, Nat.zero_le _⟩, ⟨Inv.start _ _⟩, ⟨HOK.out.1, Nat.le_of_eq HOK.out.2.1, HOK.out.2.2⟩, Fh, ⟨Kd.R_nil _ _ _ _ _⟩, Bx, L9, G9, EL0, ⟨fun k h => absurd h.symm nil_own⟩⟩
      case round =>
        obtain ⟨k, G, C, cd, sd, rfl, HK, HIV, HGS, F1, R1, D1, L1, G1, E1, V1⟩ := hrel
        have y0 : (0 : Int) ≤ (k : Int) := by omega
        have y1 : (k : Int) ≤ (bytes.size : Int) := by have := HK.out; omega
        by_cases hk1 : k < bytes.size
        · have d1 : decide ((k : Int) < (bytes.size : Int)) = true := decide_eq_true (by omega)
          have d2 : decide (k < bytes.size) = true := decide_eq_true hk1
          by_cases hk2 : k < 300
          · have d3 : decide ((k : Int) < 300) = true := decide_eq_true (by omega)
            have d4 : decide (k < 300) = true := decide_eq_true hk2
            obtain ⟨m, hm⟩ : ∃ m, k + 1 = m := ⟨_, rfl⟩
            have hw1 : wrap64 ((k : Int) + 1) = (m : Int) := by unfold wrap64; omega
            have hw2 : (k : Int) + 1 = (m : Int) := by omega
            have hw3 : wrap64 (m : Int) = (m : Int) := by rw [← hw2]; exact hw1.trans hw2.symm
            have HKM : Aside0 (k < bytes.size ∧ k < 300 ∧ k + 1 = m) := ⟨hk1, hk2, hm⟩
            have x1 : (k : Int) ≤ (m : Int) := by omega
            have x2 : (m : Int) ≤ (bytes.size : Int) := by omega
            clear hk1 hk2 hm
            go_upto_region 31 with (go_at_call 32; refine (push_calls gh G (bytes.extract k m) _ F1.out (by have := HGS.out; have := HKM.out; have := HBS.out; rw [ByteArray.size_extract]; omega)).mono ?_; rintro e w21 ⟨rfl, hf, hb⟩; have F2 := Aside0.mk hf; have R2 := Aside0.mk (hb.rowT F1.out R1.out); have D2 := Aside0.mk (hb.blk D1.out (blk_ne D1.out F1.out (by decide))); have L2 := Aside0.mk (hb.below L1.out HBh.out L1.out.size); have G2 := Aside0.mk (G1.out.chg (fat_ne G1.out F1.out) hb); have E2 := Aside0.mk (E1.out.chg (Nat.le_refl _) hb); clear hf hb)
            obtain ⟨P, hP⟩ : ∃ P, pushF G (bytes.extract k m) = P := ⟨_, rfl⟩
            have HIV2 : Aside0 (Inv f0 bytes P C m) := ⟨by rw [← hP]; exact HIV.out.push (by have := HKM.out; omega)⟩
            have HPS : Aside0 (OkF P ∧ P.wt.size ≤ m ∧ P.pf.size ≤ 24 ∧ m ≤ bytes.size) := ⟨by
              have h1 := push_size G (bytes.extract k m)
              rw [ByteArray.size_extract] at h1
              have h2 := HGS.out
              have h3 := HKM.out
              rw [← hP]
              exact ⟨h2.1.push _, by omega, by rw [h1.2]; exact h2.2.2, by omega⟩⟩
            rw [hP] at F2
            obtain ⟨LC, fC, cC, sC, hdC⟩ := drains_ex P.wt.size P (Nat.le_refl _) HPS.out.1
            have HDC := Aside0.mk hdC
            have HLC := Aside0.mk (HIV2.out.len hdC HOK.out.1 HOK.out.2.1 HBS.out)
            have HSC := Aside0.mk (hdC.sizes HPS.out.1)
            clear hP x1 x2 d1 d2 d3 d4 y0 y1 F1 R1 D1 L1 G1 E1 HIV HGS hdC
            go_wp2_with (first
              | (go_at_call 33; refine (drained_calls w.heap.size w gh P fC LC cC sC u22 C _ G2.out HDC.out F2.out HPS.out.1 (by have := HPS.out; have := HBS.out; omega) HPS.out.2.2.1 R2.out L2.out L2.out.size HBh.out HLC.out H0.out).mono ?_; rintro e w11 ⟨vC, rfl, hr, hf, hb, hd, hat⟩; have F3 := Aside0.mk hf; have R3 := Aside0.mk hr; have D3 := Aside0.mk (hd.block _ (blk_lt D2.out) (blk_ne D2.out F2.out (by decide)) (Kd.R_ne R2.out D2.out (by decide)) |>.trans D2.out); have L3 := Aside0.mk hb; have G3 := Aside0.mk (hd.below0 L2.out G2.out (by have := HBh.out; have := H0.out; omega) (fun k h => by have := V1.out k h; have := HN0.out; omega)); have E3 := Aside0.mk (E2.out.dr (Nat.le_refl _) hd V1.out); have V3 : Aside0 (∀ k, vC.ownBlock = some k → w20.heap.size ≤ k) := ⟨by intro k hk; rcases hat with e | ⟨b, e, h⟩; exact V1.out k (e ▸ hk); (rw [e] at hk; injection hk with hk; have := E2.out.size; omega)⟩; clear hr hf hb hd hat)
              | (refine wpList_store_row rfl 35 _ _ rfl gx #[.int .i64 cC, .int .i64 sC] rfl rfl 35 _ D3.out (by kernel_rfl) (by kernel_rfl) (by kernel_rfl) ?_; obtain ⟨W15, ew, q4, qo, qb⟩ := row_store _ gx #[.int .i64 cC, .int .i64 sC] 35 _ D3.out; rw [ew]; have F4 : Aside0 (FAt _ gh fC) := ⟨(qo gh (blk_ne F3.out D3.out (by decide))).trans F3.out⟩; have R4 : Aside0 (Kd.R kTd 110 _ w.heap.size (fun _ => True) vC (C ++ LC)) := ⟨Kd.R_mono (Kd.R_step (Kd.R_types R3.out D3.out (by intro q hq; rcases kTd_E q hq with rfl | rfl <;> decide)) (fun k hk _ => qo k hk.2)) (fun _ _ => trivial)⟩; have D4 := Aside0.mk q4; have L4 := Aside0.mk (qb _ _ L3.out HBX.out); have G4 : Aside0 (GL _) := ⟨fun i n hi => (cell_same (qo 0 (by have := HBX.out; have := H0.out; omega)) i).trans (G3.out i n hi)⟩; have E4 := Aside0.mk (E3.out.row qo (qb 0 _ (Below.refl _ _) (Nat.zero_le _)).size); clear q4 qo qb ew))
            go_roundw
            case rel => refine ⟨_, _, _, _, _, _, _, _, _, _, _, _, _, _, _, _, _, _, _, _, _, _, _, _, _, ?_, rfl⟩; exact ⟨m, fC, C ++ LC, cC, sC, congrArg (Value.int .i64) (by first | rfl | exact hw1 | exact hw2 | exact hw3), ⟨by have := HKM.out; omega⟩, ⟨HIV2.out.drain HDC.out⟩, ⟨HSC.out.1, by have := HSC.out; have := HPS.out; omega, by have := HSC.out; have := HPS.out; omega⟩, F4, ⟨R4.out⟩, D4, L4, G4, E4, V3⟩
            case measure =>
              first
                | (show ((300 : Int) - (m : Int)).toNat < ((300 : Int) - (k : Int)).toNat; have := HKM.out; omega)
                | (rw [hw1]; show ((300 : Int) - (m : Int)).toNat < ((300 : Int) - (k : Int)).toNat; have := HKM.out; omega)
                | (rw [hw3]; show ((300 : Int) - (m : Int)).toNat < ((300 : Int) - (k : Int)).toNat; have := HKM.out; omega)
          · have d3 : decide ((k : Int) < 300) = false := decide_eq_false (by omega)
            have d4 : decide (k < 300) = false := decide_eq_false hk2
            clear hk1 hk2
            go_upto_region 34 with (go_at_call 32; refine (push_calls gh G (bytes.extract k bytes.size) _ F1.out (by have := HGS.out; have := HK.out; have := HBS.out; rw [ByteArray.size_extract]; omega)).mono ?_; rintro e w21 ⟨rfl, hf, hb⟩; have F2 := Aside0.mk hf; have R2 := Aside0.mk (hb.rowT F1.out R1.out); have D2 := Aside0.mk (hb.blk D1.out (blk_ne D1.out F1.out (by decide))); have L2 := Aside0.mk (hb.below L1.out HBh.out L1.out.size); have G2 := Aside0.mk (G1.out.chg (fat_ne G1.out F1.out) hb); have E2 := Aside0.mk (E1.out.chg (Nat.le_refl _) hb); clear hf hb)
            obtain ⟨P, hP⟩ : ∃ P, pushF G (bytes.extract k bytes.size) = P := ⟨_, rfl⟩
            have HIV2 : Aside0 (Inv f0 bytes P C bytes.size) := ⟨by rw [← hP]; exact HIV.out.push HK.out.1⟩
            have HPS : Aside0 (OkF P ∧ P.wt.size ≤ bytes.size ∧ P.pf.size ≤ 24 ∧ True) := ⟨by
              have h1 := push_size G (bytes.extract k bytes.size)
              rw [ByteArray.size_extract] at h1
              have h2 := HGS.out
              have h3 := HK.out
              rw [← hP]
              exact ⟨h2.1.push _, by omega, by rw [h1.2]; exact h2.2.2, trivial⟩⟩
            rw [hP] at F2
            obtain ⟨LC, fC, cC, sC, hdC⟩ := drains_ex P.wt.size P (Nat.le_refl _) HPS.out.1
            have HDC := Aside0.mk hdC
            have HLC := Aside0.mk (HIV2.out.len hdC HOK.out.1 HOK.out.2.1 HBS.out)
            have HEQ := Aside0.mk (HIV2.out.stop hdC HDA.out)
            clear hP y0 y1 F1 R1 D1 L1 G1 E1 HIV HGS hdC
            go_upto_region 35 with (first
              | (go_at_call 33; refine (drained_calls w.heap.size w gh P fC LC cC sC u22 C _ G2.out HDC.out F2.out HPS.out.1 (by have := HPS.out; have := HBS.out; omega) HPS.out.2.2.1 R2.out L2.out L2.out.size HBh.out HLC.out H0.out).mono ?_; rintro e w11 ⟨vC, rfl, hr, hf, hb, hd, hat⟩; have F3 := Aside0.mk hf; have R3 := Aside0.mk hr; have D3 := Aside0.mk (hd.block _ (blk_lt D2.out) (blk_ne D2.out F2.out (by decide)) (Kd.R_ne R2.out D2.out (by decide)) |>.trans D2.out); have L3 := Aside0.mk hb; have G3 := Aside0.mk (hd.below0 L2.out G2.out (by have := HBh.out; have := H0.out; omega) (fun k h => by have := V1.out k h; have := HN0.out; omega)); have E3 := Aside0.mk (E2.out.dr (Nat.le_refl _) hd V1.out); have V3 : Aside0 (∀ k, vC.ownBlock = some k → w20.heap.size ≤ k) := ⟨by intro k hk; rcases hat with e | ⟨b, e, h⟩; exact V1.out k (e ▸ hk); (rw [e] at hk; injection hk with hk; have := E2.out.size; omega)⟩; clear hr hf hb hd hat)
                | (refine wpList_store_row rfl 35 _ _ rfl gx #[.int .i64 cC, .int .i64 sC] rfl rfl 35 _ D3.out (by kernel_rfl) (by kernel_rfl) (by kernel_rfl) ?_; obtain ⟨W15, ew, q4, qo, qb⟩ := row_store _ gx #[.int .i64 cC, .int .i64 sC] 35 _ D3.out; rw [ew]; have F4 : Aside0 (FAt _ gh fC) := ⟨(qo gh (blk_ne F3.out D3.out (by decide))).trans F3.out⟩; have R4 : Aside0 (Kd.R kTd 110 _ w.heap.size (fun _ => True) vC (C ++ LC)) := ⟨Kd.R_mono (Kd.R_step (Kd.R_types R3.out D3.out (by intro q hq; rcases kTd_E q hq with rfl | rfl <;> decide)) (fun k hk _ => qo k hk.2)) (fun _ _ => trivial)⟩; have D4 := Aside0.mk q4; have L4 := Aside0.mk (qb _ _ L3.out HBX.out); have G4 : Aside0 (GL _) := ⟨fun i n hi => (cell_same (qo 0 (by have := HBX.out; have := H0.out; omega)) i).trans (G3.out i n hi)⟩; have E4 := Aside0.mk (E3.out.row qo (qb 0 _ (Below.refl _ _) (Nat.zero_le _)).size); clear q4 qo qb ew))
            obtain ⟨q1, q2, q3, q4⟩ := HEQ.out
            subst q2; subst q3; subst q4
            rw [← q1] at R4
            clear q1 HEQ F3 R3 D3 L3 G3 E3 F2 R2 D2 L2 G2 E2
            have Ff2 := Aside0.mk (E4.out.fat Ff.out (blk_lt Ff.out) NFG.out.2.1 (blk_ne Ff.out Bx.out (by decide)))
            have Fg2 := Aside0.mk (E4.out.fat Fg.out (blk_lt Fg.out) NFG.out.2.2.1 (blk_ne Fg.out Bx.out (by decide)))
            have Be2 := Aside0.mk (E4.out.blk Be.out (blk_lt Be.out) (blk_ne Be.out Fh.out (by decide)) NX.out.1)
            have Bd2 := Aside0.mk (E4.out.blk Bd.out (blk_lt Bd.out) (blk_ne Bd.out Fh.out (by decide)) NX.out.2)
            have Ra2 := Aside0.mk (E4.out.rowT Fh.out Bx.out Ra.out)
            have Rb2 := Aside0.mk (E4.out.rowT Fh.out Bx.out Rb.out)
            obtain ⟨Aa, ca, ha, _, hCa⟩ := Kd.R_reads Ra2.out
            obtain ⟨Ab, cb, hb_, _, hCb⟩ := Kd.R_reads Rb2.out
            obtain ⟨Ac, cc, hc_, _, hCc⟩ := Kd.R_reads R4.out
            have RW := Aside0.mk (And.intro hCa (And.intro hCb hCc))
            have WF := Aside0.mk (And.intro Ff2.out (And.intro Fg2.out (And.intro F4.out L4.out)))
            have q0 := blk_cell Be2.out 0
            have q1 := blk_cell Be2.out 1
            have q2 := blk_cell Bd2.out 0
            have q3 := blk_cell Bd2.out 1
            have q4 := blk_cell D4.out 0
            have q5 := blk_cell D4.out 1
            clear hCa hCb hCc
            rw [ha, hb_, hc_]
            clear ha hb_ hc_ Ra Rb Ra2 Rb2 R4 Be Bd Be2 Bd2 D4 Ff Fg Fh Ff2 Fg2 F4 L4 G4 E4 V3
            go_wp2_with (first
              | (go_at_call 34; with_reducible refine (sameTold_calls Aa Ab ca cb LA _ HSA.out.2.2 RW.out.1 RW.out.2.1).mono ?_; rintro e w30 ⟨rfl, hb⟩; replace WF := Aside0.mk (show FAt w30 gf fA ∧ FAt w30 gg fA ∧ FAt w30 gh fA ∧ Below w.heap.size w w30 from ⟨WF.out.1.low hb, WF.out.2.1.low hb, WF.out.2.2.1.low hb, below_then WF.out.2.2.2 WF.out.2.2.2.size hb⟩); replace RW := Aside0.mk (show Kd.C kTd w30 Aa LA.length LA ∧ Kd.C kTd w30 Ab LA.length LA ∧ Kd.C kTd w30 Ac LA.length LA from ⟨Kd.C_below RW.out.1 hb, Kd.C_below RW.out.2.1 hb, Kd.C_below RW.out.2.2 hb⟩); clear hb)
              | (go_at_call 34; with_reducible refine (sameTold_calls Aa Ac ca cc LA _ HSA.out.2.2 RW.out.1 RW.out.2.2).mono ?_; rintro e w30 ⟨rfl, hb⟩; replace WF := Aside0.mk (show FAt w30 gf fA ∧ FAt w30 gg fA ∧ FAt w30 gh fA ∧ Below w.heap.size w w30 from ⟨WF.out.1.low hb, WF.out.2.1.low hb, WF.out.2.2.1.low hb, below_then WF.out.2.2.2 WF.out.2.2.2.size hb⟩); replace RW := Aside0.mk (show Kd.C kTd w30 Aa LA.length LA ∧ Kd.C kTd w30 Ab LA.length LA ∧ Kd.C kTd w30 Ac LA.length LA from ⟨Kd.C_below RW.out.1 hb, Kd.C_below RW.out.2.1 hb, Kd.C_below RW.out.2.2 hb⟩); clear hb)
              | (go_at_call 35; with_reducible refine (waiting_calls gf fA _ WF.out.1).mono ?_; rintro e w30 ⟨rfl, hb⟩; replace WF := Aside0.mk (show FAt w30 gf fA ∧ FAt w30 gg fA ∧ FAt w30 gh fA ∧ Below w.heap.size w w30 from ⟨WF.out.1.low hb, WF.out.2.1.low hb, WF.out.2.2.1.low hb, below_then WF.out.2.2.2 WF.out.2.2.2.size hb⟩); replace RW := Aside0.mk (show Kd.C kTd w30 Aa LA.length LA ∧ Kd.C kTd w30 Ab LA.length LA ∧ Kd.C kTd w30 Ac LA.length LA from ⟨Kd.C_below RW.out.1 hb, Kd.C_below RW.out.2.1 hb, Kd.C_below RW.out.2.2 hb⟩); clear hb)
              | (go_at_call 35; with_reducible refine (waiting_calls gg fA _ WF.out.2.1).mono ?_; rintro e w30 ⟨rfl, hb⟩; replace WF := Aside0.mk (show FAt w30 gf fA ∧ FAt w30 gg fA ∧ FAt w30 gh fA ∧ Below w.heap.size w w30 from ⟨WF.out.1.low hb, WF.out.2.1.low hb, WF.out.2.2.1.low hb, below_then WF.out.2.2.2 WF.out.2.2.2.size hb⟩); replace RW := Aside0.mk (show Kd.C kTd w30 Aa LA.length LA ∧ Kd.C kTd w30 Ab LA.length LA ∧ Kd.C kTd w30 Ac LA.length LA from ⟨Kd.C_below RW.out.1 hb, Kd.C_below RW.out.2.1 hb, Kd.C_below RW.out.2.2 hb⟩); clear hb)
              | (go_at_call 35; with_reducible refine (waiting_calls gh fA _ WF.out.2.2.1).mono ?_; rintro e w30 ⟨rfl, hb⟩; replace WF := Aside0.mk (show FAt w30 gf fA ∧ FAt w30 gg fA ∧ FAt w30 gh fA ∧ Below w.heap.size w w30 from ⟨WF.out.1.low hb, WF.out.2.1.low hb, WF.out.2.2.1.low hb, below_then WF.out.2.2.2 WF.out.2.2.2.size hb⟩); replace RW := Aside0.mk (show Kd.C kTd w30 Aa LA.length LA ∧ Kd.C kTd w30 Ab LA.length LA ∧ Kd.C kTd w30 Ac LA.length LA from ⟨Kd.C_below RW.out.1 hb, Kd.C_below RW.out.2.1 hb, Kd.C_below RW.out.2.2 hb⟩); clear hb))
            go_ret
            exact ⟨rfl, WF.out.2.2.2⟩
        · have d1 : decide ((k : Int) < (bytes.size : Int)) = false := decide_eq_false (by omega)
          have d2 : decide (k < bytes.size) = false := decide_eq_false hk1
          clear hk1
          go_upto_region 34 with (go_at_call 32; refine (push_calls gh G (bytes.extract k bytes.size) _ F1.out (by have := HGS.out; have := HK.out; have := HBS.out; rw [ByteArray.size_extract]; omega)).mono ?_; rintro e w21 ⟨rfl, hf, hb⟩; have F2 := Aside0.mk hf; have R2 := Aside0.mk (hb.rowT F1.out R1.out); have D2 := Aside0.mk (hb.blk D1.out (blk_ne D1.out F1.out (by decide))); have L2 := Aside0.mk (hb.below L1.out HBh.out L1.out.size); have G2 := Aside0.mk (G1.out.chg (fat_ne G1.out F1.out) hb); have E2 := Aside0.mk (E1.out.chg (Nat.le_refl _) hb); clear hf hb)
          obtain ⟨P, hP⟩ : ∃ P, pushF G (bytes.extract k bytes.size) = P := ⟨_, rfl⟩
          have HIV2 : Aside0 (Inv f0 bytes P C bytes.size) := ⟨by rw [← hP]; exact HIV.out.push HK.out.1⟩
          have HPS : Aside0 (OkF P ∧ P.wt.size ≤ bytes.size ∧ P.pf.size ≤ 24 ∧ True) := ⟨by
            have h1 := push_size G (bytes.extract k bytes.size)
            rw [ByteArray.size_extract] at h1
            have h2 := HGS.out
            have h3 := HK.out
            rw [← hP]
            exact ⟨h2.1.push _, by omega, by rw [h1.2]; exact h2.2.2, trivial⟩⟩
          rw [hP] at F2
          obtain ⟨LC, fC, cC, sC, hdC⟩ := drains_ex P.wt.size P (Nat.le_refl _) HPS.out.1
          have HDC := Aside0.mk hdC
          have HLC := Aside0.mk (HIV2.out.len hdC HOK.out.1 HOK.out.2.1 HBS.out)
          have HEQ := Aside0.mk (HIV2.out.stop hdC HDA.out)
          clear hP y0 y1 F1 R1 D1 L1 G1 E1 HIV HGS hdC
          go_upto_region 35 with (first
            | (go_at_call 33; refine (drained_calls w.heap.size w gh P fC LC cC sC u22 C _ G2.out HDC.out F2.out HPS.out.1 (by have := HPS.out; have := HBS.out; omega) HPS.out.2.2.1 R2.out L2.out L2.out.size HBh.out HLC.out H0.out).mono ?_; rintro e w11 ⟨vC, rfl, hr, hf, hb, hd, hat⟩; have F3 := Aside0.mk hf; have R3 := Aside0.mk hr; have D3 := Aside0.mk (hd.block _ (blk_lt D2.out) (blk_ne D2.out F2.out (by decide)) (Kd.R_ne R2.out D2.out (by decide)) |>.trans D2.out); have L3 := Aside0.mk hb; have G3 := Aside0.mk (hd.below0 L2.out G2.out (by have := HBh.out; have := H0.out; omega) (fun k h => by have := V1.out k h; have := HN0.out; omega)); have E3 := Aside0.mk (E2.out.dr (Nat.le_refl _) hd V1.out); have V3 : Aside0 (∀ k, vC.ownBlock = some k → w20.heap.size ≤ k) := ⟨by intro k hk; rcases hat with e | ⟨b, e, h⟩; exact V1.out k (e ▸ hk); (rw [e] at hk; injection hk with hk; have := E2.out.size; omega)⟩; clear hr hf hb hd hat)
              | (refine wpList_store_row rfl 35 _ _ rfl gx #[.int .i64 cC, .int .i64 sC] rfl rfl 35 _ D3.out (by kernel_rfl) (by kernel_rfl) (by kernel_rfl) ?_; obtain ⟨W15, ew, q4, qo, qb⟩ := row_store _ gx #[.int .i64 cC, .int .i64 sC] 35 _ D3.out; rw [ew]; have F4 : Aside0 (FAt _ gh fC) := ⟨(qo gh (blk_ne F3.out D3.out (by decide))).trans F3.out⟩; have R4 : Aside0 (Kd.R kTd 110 _ w.heap.size (fun _ => True) vC (C ++ LC)) := ⟨Kd.R_mono (Kd.R_step (Kd.R_types R3.out D3.out (by intro q hq; rcases kTd_E q hq with rfl | rfl <;> decide)) (fun k hk _ => qo k hk.2)) (fun _ _ => trivial)⟩; have D4 := Aside0.mk q4; have L4 := Aside0.mk (qb _ _ L3.out HBX.out); have G4 : Aside0 (GL _) := ⟨fun i n hi => (cell_same (qo 0 (by have := HBX.out; have := H0.out; omega)) i).trans (G3.out i n hi)⟩; have E4 := Aside0.mk (E3.out.row qo (qb 0 _ (Below.refl _ _) (Nat.zero_le _)).size); clear q4 qo qb ew))
          obtain ⟨q1, q2, q3, q4⟩ := HEQ.out
          subst q2; subst q3; subst q4
          rw [← q1] at R4
          clear q1 HEQ F3 R3 D3 L3 G3 E3 F2 R2 D2 L2 G2 E2
          have Ff2 := Aside0.mk (E4.out.fat Ff.out (blk_lt Ff.out) NFG.out.2.1 (blk_ne Ff.out Bx.out (by decide)))
          have Fg2 := Aside0.mk (E4.out.fat Fg.out (blk_lt Fg.out) NFG.out.2.2.1 (blk_ne Fg.out Bx.out (by decide)))
          have Be2 := Aside0.mk (E4.out.blk Be.out (blk_lt Be.out) (blk_ne Be.out Fh.out (by decide)) NX.out.1)
          have Bd2 := Aside0.mk (E4.out.blk Bd.out (blk_lt Bd.out) (blk_ne Bd.out Fh.out (by decide)) NX.out.2)
          have Ra2 := Aside0.mk (E4.out.rowT Fh.out Bx.out Ra.out)
          have Rb2 := Aside0.mk (E4.out.rowT Fh.out Bx.out Rb.out)
          obtain ⟨Aa, ca, ha, _, hCa⟩ := Kd.R_reads Ra2.out
          obtain ⟨Ab, cb, hb_, _, hCb⟩ := Kd.R_reads Rb2.out
          obtain ⟨Ac, cc, hc_, _, hCc⟩ := Kd.R_reads R4.out
          have RW := Aside0.mk (And.intro hCa (And.intro hCb hCc))
          have WF := Aside0.mk (And.intro Ff2.out (And.intro Fg2.out (And.intro F4.out L4.out)))
          have q0 := blk_cell Be2.out 0
          have q1 := blk_cell Be2.out 1
          have q2 := blk_cell Bd2.out 0
          have q3 := blk_cell Bd2.out 1
          have q4 := blk_cell D4.out 0
          have q5 := blk_cell D4.out 1
          clear hCa hCb hCc
          rw [ha, hb_, hc_]
          clear ha hb_ hc_ Ra Rb Ra2 Rb2 R4 Be Bd Be2 Bd2 D4 Ff Fg Fh Ff2 Fg2 F4 L4 G4 E4 V3
          go_wp2_with (first
            | (go_at_call 34; with_reducible refine (sameTold_calls Aa Ab ca cb LA _ HSA.out.2.2 RW.out.1 RW.out.2.1).mono ?_; rintro e w30 ⟨rfl, hb⟩; replace WF := Aside0.mk (show FAt w30 gf fA ∧ FAt w30 gg fA ∧ FAt w30 gh fA ∧ Below w.heap.size w w30 from ⟨WF.out.1.low hb, WF.out.2.1.low hb, WF.out.2.2.1.low hb, below_then WF.out.2.2.2 WF.out.2.2.2.size hb⟩); replace RW := Aside0.mk (show Kd.C kTd w30 Aa LA.length LA ∧ Kd.C kTd w30 Ab LA.length LA ∧ Kd.C kTd w30 Ac LA.length LA from ⟨Kd.C_below RW.out.1 hb, Kd.C_below RW.out.2.1 hb, Kd.C_below RW.out.2.2 hb⟩); clear hb)
            | (go_at_call 34; with_reducible refine (sameTold_calls Aa Ac ca cc LA _ HSA.out.2.2 RW.out.1 RW.out.2.2).mono ?_; rintro e w30 ⟨rfl, hb⟩; replace WF := Aside0.mk (show FAt w30 gf fA ∧ FAt w30 gg fA ∧ FAt w30 gh fA ∧ Below w.heap.size w w30 from ⟨WF.out.1.low hb, WF.out.2.1.low hb, WF.out.2.2.1.low hb, below_then WF.out.2.2.2 WF.out.2.2.2.size hb⟩); replace RW := Aside0.mk (show Kd.C kTd w30 Aa LA.length LA ∧ Kd.C kTd w30 Ab LA.length LA ∧ Kd.C kTd w30 Ac LA.length LA from ⟨Kd.C_below RW.out.1 hb, Kd.C_below RW.out.2.1 hb, Kd.C_below RW.out.2.2 hb⟩); clear hb)
            | (go_at_call 35; with_reducible refine (waiting_calls gf fA _ WF.out.1).mono ?_; rintro e w30 ⟨rfl, hb⟩; replace WF := Aside0.mk (show FAt w30 gf fA ∧ FAt w30 gg fA ∧ FAt w30 gh fA ∧ Below w.heap.size w w30 from ⟨WF.out.1.low hb, WF.out.2.1.low hb, WF.out.2.2.1.low hb, below_then WF.out.2.2.2 WF.out.2.2.2.size hb⟩); replace RW := Aside0.mk (show Kd.C kTd w30 Aa LA.length LA ∧ Kd.C kTd w30 Ab LA.length LA ∧ Kd.C kTd w30 Ac LA.length LA from ⟨Kd.C_below RW.out.1 hb, Kd.C_below RW.out.2.1 hb, Kd.C_below RW.out.2.2 hb⟩); clear hb)
            | (go_at_call 35; with_reducible refine (waiting_calls gg fA _ WF.out.2.1).mono ?_; rintro e w30 ⟨rfl, hb⟩; replace WF := Aside0.mk (show FAt w30 gf fA ∧ FAt w30 gg fA ∧ FAt w30 gh fA ∧ Below w.heap.size w w30 from ⟨WF.out.1.low hb, WF.out.2.1.low hb, WF.out.2.2.1.low hb, below_then WF.out.2.2.2 WF.out.2.2.2.size hb⟩); replace RW := Aside0.mk (show Kd.C kTd w30 Aa LA.length LA ∧ Kd.C kTd w30 Ab LA.length LA ∧ Kd.C kTd w30 Ac LA.length LA from ⟨Kd.C_below RW.out.1 hb, Kd.C_below RW.out.2.1 hb, Kd.C_below RW.out.2.2 hb⟩); clear hb)
            | (go_at_call 35; with_reducible refine (waiting_calls gh fA _ WF.out.2.2.1).mono ?_; rintro e w30 ⟨rfl, hb⟩; replace WF := Aside0.mk (show FAt w30 gf fA ∧ FAt w30 gg fA ∧ FAt w30 gh fA ∧ Below w.heap.size w w30 from ⟨WF.out.1.low hb, WF.out.2.1.low hb, WF.out.2.2.1.low hb, below_then WF.out.2.2.2 WF.out.2.2.2.size hb⟩); replace RW := Aside0.mk (show Kd.C kTd w30 Aa LA.length LA ∧ Kd.C kTd w30 Ab LA.length LA ∧ Kd.C kTd w30 Ac LA.length LA from ⟨Kd.C_below RW.out.1 hb, Kd.C_below RW.out.2.1 hb, Kd.C_below RW.out.2.2 hb⟩); clear hb))
          go_ret
          exact ⟨rfl, WF.out.2.2.2⟩
end Go.Proofs.YtoffhlbdfhhhjaaDoor.Fr
