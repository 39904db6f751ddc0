/- The law SettingParams, walked. The package variables hold what the program lays; the list fits in memory. -/
import Derived.Test.YtcjphkgmcfpfeaaDoorMRefC
import Derived.Test.YtcjphkgmcfpfeaaDoorMRefD
import Derived.Test.YtcjphkgmcfpfeaaDoorMRefE
import Derived.Test.YtcjphkgmcfpfeaaDoorMRefF
import Derived.Test.YtcjphkgmcfpfeaaDoorMRefG
namespace Go.Proofs.YtcjphkgmcfpfeaaDoor.MS
open Go Go.RowKit Go.Proofs.YtcjphkgmcfpfeaaDoorW.PrintWords Go.Proofs.YtcjphkgmcfpfeaaDoorW.PrintLast Go.Proofs.YtcjphkgmcfpfeaaDoorW.PrintMore Go.Proofs.YtcjphkgmcfpfeaaDoor.QL
set_option linter.unusedSimpArgs false
set_option linter.unusedVariables false
set_option maxHeartbeats 40000000
set_option maxRecDepth 100000
attribute [local go_sem high] eqA23 eqA28
theorem tables_from (l : List S28) (hz : l.length < 17592186044416) (m : Nat) (i : Nat) (acc : List Int) (h : l.length = i + m) (ha : acc.length ≤ i) : setting_Tables.l0 (m + 1) acc l (l.length : Int) (i : Int) = some (acc ++ tables (l.drop i)) := by
  induction m generalizing i acc with
  | zero =>
    unfold setting_Tables.l0
    rw [if_neg (by omega), List.drop_eq_nil_of_le (by omega)]
    simp [tables]
  | succ m ih =>
    unfold setting_Tables.l0
    have e : wrap64 ((i : Int) + 1) = ((i + 1 : Nat) : Int) := by unfold wrap64; omega
    have hi : i < l.length := by omega
    have er : rd_T28 l (i : Int) = l[i] := by simp [rd_T28, hi]
    rw [if_pos (by omega), if_pos (by omega), if_pos (by omega), e, List.drop_eq_getElem_cons hi, er]
    by_cases h1 : (l[i]).f0 = 1
    · rw [if_pos h1, if_pos (by omega), ih (i + 1) _ (by omega) (by simp; omega)]
      simp [tables, h1]
    · rw [if_neg h1, ih (i + 1) _ (by omega) (by omega)]
      simp [tables, h1]
theorem tables_f (l : List S28) (hz : l.length < 17592186044416) : setting_Tables.f (l.length + 1) l = some (tables l) := by
  unfold setting_Tables.f
  have h := tables_from l hz l.length 0 [] (by omega) (by simp)
  simpa using h
theorem ints_from (L : List Int) (hl : L.length ≤ 9223372036854775806) (n : Nat) (i : Nat) (h : L.length = i + n) : heraldlaw08_sameInts.l0 (n + 1) L L (i : Int) = some true := by
  induction n generalizing i with
  | zero =>
    unfold heraldlaw08_sameInts.l0
    rw [if_neg (by omega)]
  | succ n ih =>
    unfold heraldlaw08_sameInts.l0
    have e : wrap64 ((i : Int) + 1) = ((i + 1 : Nat) : Int) := by unfold wrap64; omega
    rw [if_pos (by omega), if_pos (by omega), if_pos (by omega), if_pos rfl, e]
    exact ih (i + 1) (by omega)
theorem ints_self (L : List Int) (hl : L.length ≤ 9223372036854775806) : heraldlaw08_sameInts.f (L.length + 1) L L = some true := by
  unfold heraldlaw08_sameInts.f
  rw [if_pos rfl]
  exact ints_from L hl L.length 0 (by omega)
theorem tables1_calls (A : Option Addr) (c : Nat) (l : List S28) (w : World) (hr : Kd.C k28 w A l.length l) (hc : l.length ≤ c) (hz : l.length < 17592186044416) : Calls Tryd.prog 13 #[.slice A l.length c] w fun e w' => ∃ A1 c1, e = .returned (.slice A1 (tables l).length c1) ∧ (tables l).length ≤ c1 ∧ Kd.C (Kd.int .i64) w' A1 (tables l).length (tables l) ∧ Below w.heap.size w w' := by
  refine (setting_Tables.calls _ A c l (tables l) w hr hc (tables_f l hz)).mono ?_
  rintro e w' ⟨v, rfl, hv, hb⟩
  obtain ⟨A1, c1, rfl, h1, h2⟩ := Kd.R_reads hv
  exact ⟨A1, c1, rfl, h1, h2, hb⟩
theorem tables2_calls (A : Option Addr) (c : Nat) (l : List S28) (w : World) (hr : Kd.C k28 w A l.length l) (hc : l.length ≤ c) (hz : l.length * 8 ≤ 140737488351232) (hT : GT w) : Calls Tryd.prog 16 #[.slice A l.length c] w fun e w' => ∃ A1 c1, e = .returned (.slice A1 (tables l).length c1) ∧ (tables l).length ≤ c1 ∧ Kd.C (Kd.int .i64) w' A1 (tables l).length (tables l) ∧ Below w.heap.size w w' := by
  refine (tables8_calls A c l w hr hc hz hT).mono ?_
  rintro e w' ⟨v, rfl, hv, hb⟩
  obtain ⟨A1, c1, rfl, h1, h2⟩ := Kd.R_reads hv
  exact ⟨A1, c1, rfl, h1, h2, hb⟩
theorem ints_ex (A B : Option Addr) (c d : Nat) (L : List Int) (hl : L.length ≤ 9223372036854775806) (w : World) (h1 : Kd.C (Kd.int .i64) w A L.length L) (h2 : L.length ≤ c) (h3 : Kd.C (Kd.int .i64) w B L.length L) (h4 : L.length ≤ d) : Calls Tryd.prog 15 #[.slice A L.length c, .slice B L.length d] w fun e w' => e = .returned (.bool true) ∧ Below w.heap.size w w' := (heraldlaw08_sameInts.calls (L.length + 1) A c L B d L true w h1 h2 h3 h4 (ints_self L hl)).mono (fun _ _ h => ⟨h.1, by first | exact h.2 | exact h.2.below⟩)
theorem paramsC1 (s t : St) (cl : Bool) (L : List S28) (h : params cl s t 6 = L) (w : World) : Calls Tryd.prog 14 #[.agg #[.int .i64 s.a, .int .i64 s.b, .int .i64 s.c, .int .i64 s.d, .int .i64 s.e, .int .i64 s.f], .agg #[.int .i64 t.a, .int .i64 t.b, .int .i64 t.c, .int .i64 t.d, .int .i64 t.e, .int .i64 t.f], .bool cl] w fun e w' => ∃ A c, e = .returned (.slice A L.length c) ∧ L.length ≤ c ∧ Kd.C k28 w' A L.length L ∧ Below w.heap.size w w' := by
  subst h
  refine (params_calls s t cl w).mono ?_
  rintro e w' ⟨v, rfl, hv, hb⟩
  obtain ⟨A, c, rfl, h1, h2⟩ := Kd.R_reads hv
  exact ⟨A, c, rfl, h1, h2, hb⟩
theorem paramsC2 (s t : St) (cl : Bool) (L : List S28) (h : params cl s t 6 = L) (w : World) : Calls Tryd.prog 18 #[.agg #[.int .i64 s.a, .int .i64 s.b, .int .i64 s.c, .int .i64 s.d, .int .i64 s.e, .int .i64 s.f], .agg #[.int .i64 t.a, .int .i64 t.b, .int .i64 t.c, .int .i64 t.d, .int .i64 t.e, .int .i64 t.f], .bool cl] w fun e w' => ∃ A c, e = .returned (.slice A L.length c) ∧ L.length ≤ c ∧ Kd.C k28 w' A L.length L ∧ Below w.heap.size w w' := by
  subst h
  refine (params8_calls s t cl w).mono ?_
  rintro e w' ⟨v, rfl, hv, hb⟩
  obtain ⟨A, c, rfl, h1, h2⟩ := Kd.R_reads hv
  exact ⟨A, c, rfl, h1, h2, hb⟩
theorem apply1x (s : St) (A : Option Addr) (c : Nat) (l : List S28) (cl : Bool) (s2 : St) (c2 : Int) (w : World) (hr : Kd.C k28 w A l.length l) (hc : l.length ≤ c) (h : apply cl s l = (s2, c2)) : Calls Tryd.prog 11 #[.agg #[.int .i64 s.a, .int .i64 s.b, .int .i64 s.c, .int .i64 s.d, .int .i64 s.e, .int .i64 s.f], .slice A l.length c, .bool cl] w fun e w' => e = .returned (.tuple #[.agg #[.int .i64 s2.a, .int .i64 s2.b, .int .i64 s2.c, .int .i64 s2.d, .int .i64 s2.e, .int .i64 s2.f], .int .i64 c2]) ∧ Below w.heap.size w w' := by
  have h1 := apply_calls s A c l cl w hr hc
  rw [h] at h1
  exact h1
theorem apply2x (s : St) (A : Option Addr) (c : Nat) (l : List S28) (cl : Bool) (s2 : St) (c2 : Int) (w : World) (hr : Kd.C k28 w A l.length l) (hc : l.length ≤ c) (hT : GT w) (h : apply cl s l = (s2, c2)) : Calls Tryd.prog 12 #[.agg #[.int .i64 s.a, .int .i64 s.b, .int .i64 s.c, .int .i64 s.d, .int .i64 s.e, .int .i64 s.f], .slice A l.length c, .bool cl] w fun e w' => e = .returned (.tuple #[.agg #[.int .i64 s2.a, .int .i64 s2.b, .int .i64 s2.c, .int .i64 s2.d, .int .i64 s2.e, .int .i64 s2.f], .int .i64 c2]) ∧ Below w.heap.size w w' := by
  have h1 := apply8_calls s A c l cl w hr hc hT
  rw [h] at h1
  exact h1
theorem fits1x (s : St) (w : World) : Calls Tryd.prog 21 #[.agg #[.int .i64 s.a, .int .i64 s.b, .int .i64 s.c, .int .i64 s.d, .int .i64 s.e, .int .i64 s.f]] w fun e w' => e = .returned (.bool (fitsB s)) ∧ Below w.heap.size w w' := setting_Fits.calls s.a s.b s.c s.d s.e s.f _ w (fits_f s)
theorem sp_calls (s tt : St) (A : Option Addr) (c : Nat) (l : List S28) (cl : Bool) (w : World) (hG : GL w) (hT : GT w) (hlo : GLow w) (hhi : GHigh w) (hr : Kd.C k28 w A l.length l) (hc : l.length ≤ c) (hz : l.length * 16 ≤ 140737488351232) :
    Calls Tryd.prog 3 #[.agg #[.int .i64 s.a, .int .i64 s.b, .int .i64 s.c, .int .i64 s.d, .int .i64 s.e, .int .i64 s.f], .agg #[.int .i64 tt.a, .int .i64 tt.b, .int .i64 tt.c, .int .i64 tt.d, .int .i64 tt.e, .int .i64 tt.f], .slice A l.length c, .bool cl] w fun e w' => e = .returned (.bool true) ∧ Below w.heap.size w w' := by
  have HR := Aside0.mk hr
  have HC := Aside0.mk hc
  have HZ := Aside0.mk hz
  have HG := Aside0.mk hG
  have HT := Aside0.mk hT
  have HLO := Aside0.mk hlo
  have HHI := Aside0.mk hhi
  have hl63 : l.length ≤ 9223372036854775807 := hr.2.1
  have HB := Aside0.mk (Below.refl w.heap.size w)
  obtain ⟨s2, c2x, hs2⟩ : ∃ a b, apply cl s l = (a, b) := ⟨_, _, rfl⟩
  have HS2 := Aside0.mk hs2
  obtain ⟨PL, hPL⟩ : ∃ L, params cl s tt 6 = L := ⟨_, rfl⟩
  have HPL := Aside0.mk hPL
  have hpl6 : PL.length ≤ 6 := hPL ▸ params_len cl s tt 6
  have HPL6 := Aside0.mk hpl6
  obtain ⟨TL, hTL⟩ : ∃ L, tables l = L := ⟨_, rfl⟩
  have HTLE : Aside0 (TL.length ≤ 9223372036854775806) := ⟨by rw [← hTL]; have := tables_len l; omega⟩
  have HTL := Aside0.mk hTL
  clear hr hc hz hG hT hlo hhi hs2 hPL hpl6 hTL
  go_enter Tryd.func3, Tryd.ntmps3
  go_upto_region 1 with fail
  obtain ⟨Ws, hWs⟩ : ∃ W, (w.alloc (.cells #[.int .i64 s.a, .int .i64 s.b, .int .i64 s.c, .int .i64 s.d, .int .i64 s.e, .int .i64 s.f] 23)).alloc (.cells #[.int .i64 tt.a, .int .i64 tt.b, .int .i64 tt.c, .int .i64 tt.d, .int .i64 tt.e, .int .i64 tt.f] 23) = W := ⟨_, rfl⟩
  have B4s : Aside0 (Ws.heap[w.heap.size]? = some (.cells #[.int .i64 s.a, .int .i64 s.b, .int .i64 s.c, .int .i64 s.d, .int .i64 s.e, .int .i64 s.f] 23 (0, 0))) := ⟨by rw [← hWs]; exact blk_alloc (blk_new w _) _⟩
  have B5s : Aside0 (Ws.heap[w.heap.size + 1]? = some (.cells #[.int .i64 tt.a, .int .i64 tt.b, .int .i64 tt.c, .int .i64 tt.d, .int .i64 tt.e, .int .i64 tt.f] 23 (0, 0))) := ⟨by
    rw [← hWs]
    have h := blk_new (w.alloc (.cells #[.int .i64 s.a, .int .i64 s.b, .int .i64 s.c, .int .i64 s.d, .int .i64 s.e, .int .i64 s.f] 23)) (.cells #[.int .i64 tt.a, .int .i64 tt.b, .int .i64 tt.c, .int .i64 tt.d, .int .i64 tt.e, .int .i64 tt.f] 23)
    rwa [World.size_alloc] at h⟩
  have LS : Aside0 (Below w.heap.size w Ws) := ⟨by rw [← hWs]; exact below_alloc (below_alloc HB.out _) _⟩
  rw [hWs]
  clear hWs
  go_upto_region 2 with (first
    | (go_at_call 8; refine (lent_calls A c l _ (Kd.C_below HR.out LS.out) HC.out HZ.out).mono ?_; rintro e W ⟨A9, c9, rfl, hc9, hr9, hb⟩; have HB1 := Aside0.mk hb; have HC9 := Aside0.mk hc9; have HR9 := Aside0.mk hr9; clear hb hc9 hr9))
  have B4 := Aside0.mk (blk_below B4s.out HB1.out)
  have B5 := Aside0.mk (blk_below B5s.out HB1.out)
  have LW := Aside0.mk (below_then LS.out LS.out.size HB1.out)
  have hll : (l ++ marks).length = l.length + 2 := by simp
  have CM : Aside0 (Kd.C k28 W A9 (l.length + 2) (l ++ marks)) := ⟨by
    have h := (Kd.R_reads' HR9.out).2.2
    rwa [hll] at h⟩
  have CL : Aside0 (Kd.C k28 W A9 l.length l) := ⟨by
    have h := CM.out
    rw [← hll] at h
    have h2 := Kd.C_take (m := l.length) h (by simp)
    rwa [List.take_left] at h2⟩
  have HC9l : Aside0 (l.length ≤ c9) := ⟨by have := HC9.out; omega⟩
  clear hll HR9 B4s B5s LS HB1
  go_wp2_with fail
  go_loopw [10] (fun i w' => ∃ n : Nat, n ≤ l.length ∧ i = .int .i64 n ∧ Aside0 (Below W.heap.size W w')) (fun i _ => l.length - (intOf i).toNat)
  case atStart => exact ⟨0, Nat.zero_le _, rfl, ⟨Below.refl _ _⟩⟩
  case round =>
    obtain ⟨n, hn, rfl, HX⟩ := hrel
    by_cases hlt : n < l.length
    · have p0 : (0 : Int) ≤ n := by omega
      have q0 : (n : Int) < (l.length : Int) := by omega
      have LX := Aside0.mk (below_then LW.out LW.out.size HX.out)
      obtain ⟨ad, e0, y0, y1⟩ := at_T28 HR.out n p0 q0
      cases e0
      replace y0 := (LX.out.cell (World.block_lt_of_cell? w _ y0)).trans y0
      replace y1 := (LX.out.cell (World.block_lt_of_cell? w _ y1)).trans y1
      obtain ⟨id, hid⟩ : ∃ K, (rd_T28 l (n : Int)).f0 = K := ⟨_, rfl⟩
      obtain ⟨v, hv⟩ : ∃ K, (rd_T28 l (n : Int)).f1 = K := ⟨_, rfl⟩
      simp only [Int.toNat_natCast] at y0 y1
      rw [hid] at y0
      rw [hv] at y1
      clear hid hv
      obtain ⟨x, hx⟩ : ∃ x, valid id v cl = x := ⟨_, rfl⟩
      obtain ⟨kv, hkv⟩ := valid_f id v cl
      rw [hx] at hkv
      have HVV := Aside0.mk hx
      have HKV := Aside0.mk hkv
      clear hx hkv
      have c2 : Below W.heap.size W wr.drew := below_drew HX.out
      go_upto_region 5 with fail
      refine start_ (n := 13) (S := fun w' => w'.cell? (ad.add (n * 2)) = some (.int .i64 id) ∧ w'.cell? ⟨(ad.add (n * 2)).block, (ad.add (n * 2)).off + 1, none⟩ = some (.int .i64 v) ∧ Below W.heap.size W w') (ds := []) #[false, false, false, false, false, false, false, false, false, false, false, false, false] (by kernel_rfl) rfl rfl ⟨y0, y1, c2⟩ (fun hHeld => ?_)
      refine pure_ (i := 0) (N := some 25) (v := ?_) (a' := ?_) #[true, false, false, false, false, false, false, false, false, false, false, false, false] rfl rfl (by kernel_rfl) (fun _ _ _ h => h) (Or.inl ⟨by rfl, ?_⟩) ?_ ?_
      rotate_left
      · intro w'
        go_simp
        with_reducible rfl
      rotate_left
      · simp only [Act.put, List.setIfInBounds_toArray, List.set_cons_zero, List.set_cons_succ, i64_w, i32_w]
        rfl
      refine pure_ (i := 1) (N := some 26) (v := ?_) (a' := ?_) #[true, true, false, false, false, false, false, false, false, false, false, false, false] rfl rfl (by kernel_rfl) (fun _ _ _ h => h) (Or.inl ⟨by rfl, ?_⟩) ?_ ?_
      rotate_left
      · intro w'
        go_simp
        with_reducible rfl
      rotate_left
      · simp only [Act.put, List.setIfInBounds_toArray, List.set_cons_zero, List.set_cons_succ, i64_w, i32_w]
        rfl
      refine pure_ (i := 2) (N := some 27) (v := ?_) (a' := ?_) #[true, true, true, false, false, false, false, false, false, false, false, false, false] rfl rfl (by kernel_rfl) (fun _ _ _ h => h) (Or.inl ⟨by rfl, ?_⟩) ?_ ?_
      rotate_left
      · intro w'
        go_simp
        with_reducible rfl
      rotate_left
      · simp only [Act.put, List.setIfInBounds_toArray, List.set_cons_zero, List.set_cons_succ, i64_w, i32_w]
        rfl
      refine pure_ (i := 4) (N := some 29) (v := ?_) (a' := ?_) #[true, true, true, false, true, false, false, false, false, false, false, false, false] rfl rfl (by kernel_rfl) (fun _ _ _ h => h) (Or.inl ⟨by rfl, ?_⟩) ?_ ?_
      rotate_left
      · intro w'
        go_simp
        with_reducible rfl
      rotate_left
      · simp only [Act.put, List.setIfInBounds_toArray, List.set_cons_zero, List.set_cons_succ, i64_w, i32_w]
        rfl
      refine pure_ (i := 6) (N := some 31) (v := ?_) (a' := ?_) #[true, true, true, false, true, false, true, false, false, false, false, false, false] rfl rfl (by kernel_rfl) (fun _ _ _ h => h) (Or.inl ⟨by rfl, ?_⟩) ?_ ?_
      rotate_left
      · intro w'
        go_simp
        with_reducible rfl
      rotate_left
      · simp only [Act.put, List.setIfInBounds_toArray, List.set_cons_zero, List.set_cons_succ, i64_w, i32_w]
        rfl
      refine pure_ (i := 7) (N := some 32) (v := ?_) (a' := ?_) #[true, true, true, false, true, false, true, true, false, false, false, false, false] rfl rfl (by kernel_rfl) (fun _ _ _ h => h) (Or.inl ⟨by rfl, ?_⟩) ?_ ?_
      rotate_left
      · intro w'
        go_simp
        with_reducible rfl
      rotate_left
      · simp only [Act.put, List.setIfInBounds_toArray, List.set_cons_zero, List.set_cons_succ, i64_w, i32_w]
        rfl
      refine pure_ (i := 8) (N := some 33) (v := ?_) (a' := ?_) #[true, true, true, false, true, false, true, true, true, false, false, false, false] rfl rfl (by kernel_rfl) (fun _ _ _ h => h) (Or.inl ⟨by rfl, ?_⟩) ?_ ?_
      rotate_left
      · intro w'
        go_simp
        with_reducible rfl
      rotate_left
      · simp only [Act.put, List.setIfInBounds_toArray, List.set_cons_zero, List.set_cons_succ, i64_w, i32_w]
        rfl
      refine pure_ (i := 10) (N := some 35) (v := ?_) (a' := ?_) #[true, true, true, false, true, false, true, true, true, false, true, false, false] rfl rfl (by kernel_rfl) (fun _ _ _ h => h) (Or.inl ⟨by rfl, ?_⟩) ?_ ?_
      rotate_left
      · intro w'
        go_simp
        with_reducible rfl
      rotate_left
      · simp only [Act.put, List.setIfInBounds_toArray, List.set_cons_zero, List.set_cons_succ, i64_w, i32_w]
        rfl
      refine take_ (i := 3) (N := some 28) (v := ?_) (a' := ?_) #[true, true, true, true, true, false, true, true, true, false, true, false, false] rfl rfl (by kernel_rfl) (fun _ _ _ h => h) (Or.inl ⟨by rfl, ?_⟩) hHeld ?_ ?_
      rotate_left
      · rintro w' ⟨s0, s1, s2⟩
        go_simp
        with_reducible rfl
      rotate_left
      · simp only [Act.put, List.setIfInBounds_toArray, List.set_cons_zero, List.set_cons_succ, i64_w, i32_w]
        rfl
      refine take_ (i := 9) (N := some 34) (v := ?_) (a' := ?_) #[true, true, true, true, true, false, true, true, true, true, true, false, false] rfl rfl (by kernel_rfl) (fun _ _ _ h => h) (Or.inl ⟨by rfl, ?_⟩) hHeld ?_ ?_
      rotate_left
      · rintro w' ⟨s0, s1, s2⟩
        go_simp
        with_reducible rfl
      rotate_left
      · simp only [Act.put, List.setIfInBounds_toArray, List.set_cons_zero, List.set_cons_succ, i64_w, i32_w]
        rfl
      refine one_ (i := 5) (N := some 30) #[true, true, true, true, true, true, true, true, true, true, true, false, false] rfl rfl (by kernel_rfl) (by decide) (fun K hK => ?_)
      refine goes_ Tryd.func9 (by kernel_rfl) rfl #[.agg #[.int .i64 id, .int .i64 v], .bool cl] (by rfl) rfl rfl (by simp only [List.map_toArray, List.map_cons, List.map_nil]; rfl) ?_
      with_reducible refine (setting_Valid.calls kv id v cl x _ HKV.out).mono ?_
      rintro e w3 ⟨rfl, hb⟩
      refine ⟨_, rfl, ?_⟩
      refine hK.out _ _ ⟨(hb.cell (World.block_lt_of_cell? _ _ hHeld.1)).trans hHeld.1, (hb.cell (World.block_lt_of_cell? _ _ hHeld.2.1)).trans hHeld.2.1, below_then hHeld.2.2 (hHeld.2.2).size hb⟩ (fun hHeld => ?_)
      clear hK K
      refine norm_ (a' := ?_) ?_ ?_
      rotate_left
      · show Act.put _ (some 30) _ = _
        simp only [Act.put, List.setIfInBounds_toArray, List.set_cons_zero, List.set_cons_succ, i64_w, i32_w]
        rfl
      refine one_ (i := 11) (N := some 36) #[true, true, true, true, true, true, true, true, true, true, true, true, false] rfl rfl (by kernel_rfl) (by decide) (fun K hK => ?_)
      refine goes_ Tryd.func10 (by kernel_rfl) rfl #[.agg #[.int .i64 id, .int .i64 v], .bool cl] (by rfl) rfl rfl (by simp only [List.map_toArray, List.map_cons, List.map_nil]; rfl) ?_
      with_reducible refine (valid8_calls id v cl x HVV.out _).mono ?_
      rintro e w3 ⟨rfl, hb⟩
      refine ⟨_, rfl, ?_⟩
      refine hK.out _ _ ⟨(hb.cell (World.block_lt_of_cell? _ _ hHeld.1)).trans hHeld.1, (hb.cell (World.block_lt_of_cell? _ _ hHeld.2.1)).trans hHeld.2.1, below_then hHeld.2.2 (hHeld.2.2).size hb⟩ (fun hHeld => ?_)
      clear hK K
      refine norm_ (a' := ?_) ?_ ?_
      rotate_left
      · show Act.put _ (some 36) _ = _
        simp only [Act.put, List.setIfInBounds_toArray, List.set_cons_zero, List.set_cons_succ, i64_w, i32_w]
        rfl
      refine pure_ (i := 12) (N := some 37) (v := ?_) (a' := ?_) #[true, true, true, true, true, true, true, true, true, true, true, true, true] rfl rfl (by kernel_rfl) (fun _ _ _ h => h) (Or.inl ⟨by rfl, ?_⟩) ?_ ?_
      rotate_left
      · intro w'
        go_simp
        with_reducible rfl
      rotate_left
      · simp only [Act.put, List.setIfInBounds_toArray, List.set_cons_zero, List.set_cons_succ, i64_w, i32_w]
        rfl
      refine done_ (by kernel_rfl) ?_
      go_wp2_with fail
      go_roundw
      case rel => exact ⟨n + 1, by omega, by go_num, ⟨hHeld.2.2⟩⟩
      case measure => simp [intOf]; omega
    · have hlt2 : decide ((n : Int) < (l.length : Int)) = false := decide_eq_false (by omega)
      have LX := Aside0.mk (below_then LW.out LW.out.size HX.out)
      have N4 := Aside0.mk (blk_below B4.out HX.out)
      have z0 : wr.cell? ⟨w.heap.size, 0, none⟩ = some (.int .i64 s.a) := blk_cell N4.out 0
      have z1 : wr.cell? ⟨w.heap.size, 1, none⟩ = some (.int .i64 s.b) := blk_cell N4.out 1
      have z2 : wr.cell? ⟨w.heap.size, 2, none⟩ = some (.int .i64 s.c) := blk_cell N4.out 2
      have z3 : wr.cell? ⟨w.heap.size, 3, none⟩ = some (.int .i64 s.d) := blk_cell N4.out 3
      have z4 : wr.cell? ⟨w.heap.size, 4, none⟩ = some (.int .i64 s.e) := blk_cell N4.out 4
      have z5 : wr.cell? ⟨w.heap.size, 5, none⟩ = some (.int .i64 s.f) := blk_cell N4.out 5
      go_upto_region 8 with (first
        | (go_at_call 11; refine (apply1x s A9 c9 l cl s2 c2x _ (Kd.C_below CL.out HX.out) HC9l.out HS2.out).mono ?_; rintro e w7 ⟨rfl, hb⟩; have HB7 := Aside0.mk hb; clear hb))
      clear z0 z1 z2 z3 z4 z5
      obtain ⟨W7, hW7⟩ : ∃ W, w7.alloc (.cells #[.int .i64 s2.a, .int .i64 s2.b, .int .i64 s2.c, .int .i64 s2.d, .int .i64 s2.e, .int .i64 s2.f] 23) = W := ⟨_, rfl⟩
      obtain ⟨b11, hb11⟩ : ∃ x, w7.heap.size = x := ⟨_, rfl⟩
      have X7 : Aside0 (Below W.heap.size W W7) := ⟨by rw [← hW7]; exact below_alloc (below_then HX.out HX.out.size HB7.out) _⟩
      have B11 : Aside0 (W7.heap[b11]? = some (.cells #[.int .i64 s2.a, .int .i64 s2.b, .int .i64 s2.c, .int .i64 s2.d, .int .i64 s2.e, .int .i64 s2.f] 23 (0, 0))) := ⟨by rw [← hW7, ← hb11]; exact blk_new w7 _⟩
      rw [hW7, hb11]
      clear hW7 hb11 HB7 N4
      have N4 := Aside0.mk (blk_below B4.out X7.out)
      have L7 := Aside0.mk (below_then LW.out LW.out.size X7.out)
      have z0 : W7.cell? ⟨w.heap.size, 0, none⟩ = some (.int .i64 s.a) := blk_cell N4.out 0
      have z1 : W7.cell? ⟨w.heap.size, 1, none⟩ = some (.int .i64 s.b) := blk_cell N4.out 1
      have z2 : W7.cell? ⟨w.heap.size, 2, none⟩ = some (.int .i64 s.c) := blk_cell N4.out 2
      have z3 : W7.cell? ⟨w.heap.size, 3, none⟩ = some (.int .i64 s.d) := blk_cell N4.out 3
      have z4 : W7.cell? ⟨w.heap.size, 4, none⟩ = some (.int .i64 s.e) := blk_cell N4.out 4
      have z5 : W7.cell? ⟨w.heap.size, 5, none⟩ = some (.int .i64 s.f) := blk_cell N4.out 5
      go_upto_region 9 with (first
        | (go_at_call 12; refine (apply2x s A c l cl s2 c2x _ (Kd.C_below HR.out L7.out) HC.out (HT.out.below L7.out) HS2.out).mono ?_; rintro e w8 ⟨rfl, hb⟩; have HB8 := Aside0.mk hb; clear hb))
      clear z0 z1 z2 z3 z4 z5
      obtain ⟨W8, hW8⟩ : ∃ W, w8.alloc (.cells #[.int .i64 s2.a, .int .i64 s2.b, .int .i64 s2.c, .int .i64 s2.d, .int .i64 s2.e, .int .i64 s2.f] 23) = W := ⟨_, rfl⟩
      obtain ⟨b13, hb13⟩ : ∃ x, w8.heap.size = x := ⟨_, rfl⟩
      have X8 : Aside0 (Below W7.heap.size W7 W8) := ⟨by rw [← hW8]; exact below_alloc HB8.out _⟩
      have B13 : Aside0 (W8.heap[b13]? = some (.cells #[.int .i64 s2.a, .int .i64 s2.b, .int .i64 s2.c, .int .i64 s2.d, .int .i64 s2.e, .int .i64 s2.f] 23 (0, 0))) := ⟨by rw [← hW8, ← hb13]; exact blk_new w8 _⟩
      rw [hW8, hb13]
      clear hW8 hb13 HB8 N4
      have V4 := Aside0.mk (blk_below (blk_below B4.out X7.out) X8.out)
      have V5 := Aside0.mk (blk_below (blk_below B5.out X7.out) X8.out)
      have V11 := Aside0.mk (blk_below B11.out X8.out)
      have L8 := Aside0.mk (below_then L7.out L7.out.size X8.out)
      have CL8 := Aside0.mk (Kd.C_below (Kd.C_below CL.out X7.out) X8.out)
      have CM8 := Aside0.mk (Kd.C_below (Kd.C_below CM.out X7.out) X8.out)
      have hz8 : l.length * 8 ≤ 140737488351232 := by have := HZ.out; omega
      have HZ8 := Aside0.mk hz8
      clear hz8
      go_upto_region 10 with (first
        | (go_at_call 13; have ht1 := tables1_calls A9 c9 l W8 CL8.out HC9l.out (by have := HZ.out; omega); rw [HTL.out] at ht1; refine ht1.mono ?_; rintro e w9 ⟨A15, c15, rfl, h1, h2, hb⟩; have HT1 := Aside0.mk h1; have HT2 := Aside0.mk h2; have HB9 := Aside0.mk hb; clear h1 h2 hb ht1))
      have U4 := Aside0.mk (blk_below V4.out HB9.out)
      have U5 := Aside0.mk (blk_below V5.out HB9.out)
      have z0 : w9.cell? ⟨w.heap.size, 0, none⟩ = some (.int .i64 s.a) := blk_cell U4.out 0
      have z1 : w9.cell? ⟨w.heap.size, 1, none⟩ = some (.int .i64 s.b) := blk_cell U4.out 1
      have z2 : w9.cell? ⟨w.heap.size, 2, none⟩ = some (.int .i64 s.c) := blk_cell U4.out 2
      have z3 : w9.cell? ⟨w.heap.size, 3, none⟩ = some (.int .i64 s.d) := blk_cell U4.out 3
      have z4 : w9.cell? ⟨w.heap.size, 4, none⟩ = some (.int .i64 s.e) := blk_cell U4.out 4
      have z5 : w9.cell? ⟨w.heap.size, 5, none⟩ = some (.int .i64 s.f) := blk_cell U4.out 5
      have y0 : w9.cell? ⟨w.heap.size + 1, 0, none⟩ = some (.int .i64 tt.a) := blk_cell U5.out 0
      have y1 : w9.cell? ⟨w.heap.size + 1, 1, none⟩ = some (.int .i64 tt.b) := blk_cell U5.out 1
      have y2 : w9.cell? ⟨w.heap.size + 1, 2, none⟩ = some (.int .i64 tt.c) := blk_cell U5.out 2
      have y3 : w9.cell? ⟨w.heap.size + 1, 3, none⟩ = some (.int .i64 tt.d) := blk_cell U5.out 3
      have y4 : w9.cell? ⟨w.heap.size + 1, 4, none⟩ = some (.int .i64 tt.e) := blk_cell U5.out 4
      have y5 : w9.cell? ⟨w.heap.size + 1, 5, none⟩ = some (.int .i64 tt.f) := blk_cell U5.out 5
      go_upto_region 11 with (first
        | (go_at_call 14; refine (paramsC1 s tt cl PL HPL.out _).mono ?_; rintro e w10 ⟨A16, c16, rfl, h1, h2, hb⟩; have HP1 := Aside0.mk h1; have HP2 := Aside0.mk h2; have HB10 := Aside0.mk (below_then HB9.out HB9.out.size hb); have HT2' := Aside0.mk (Kd.C_below HT2.out hb); clear h1 h2 hb))
      clear z0 z1 z2 z3 z4 z5
      clear y0 y1 y2 y3 y4 y5
      have G4 := Aside0.mk (blk_below V4.out HB10.out)
      have G5 := Aside0.mk (blk_below V5.out HB10.out)
      have G11 := Aside0.mk (blk_below V11.out HB10.out)
      have G13 := Aside0.mk (blk_below B13.out HB10.out)
      have L10 := Aside0.mk (below_then L8.out L8.out.size HB10.out)
      have x0 : w10.cell? ⟨b11, 0, none⟩ = some (.int .i64 s2.a) := blk_cell G11.out 0
      have x1 : w10.cell? ⟨b11, 1, none⟩ = some (.int .i64 s2.b) := blk_cell G11.out 1
      have x2 : w10.cell? ⟨b11, 2, none⟩ = some (.int .i64 s2.c) := blk_cell G11.out 2
      have x3 : w10.cell? ⟨b11, 3, none⟩ = some (.int .i64 s2.d) := blk_cell G11.out 3
      have x4 : w10.cell? ⟨b11, 4, none⟩ = some (.int .i64 s2.e) := blk_cell G11.out 4
      have x5 : w10.cell? ⟨b11, 5, none⟩ = some (.int .i64 s2.f) := blk_cell G11.out 5
      have u0 : w10.cell? ⟨b13, 0, none⟩ = some (.int .i64 s2.a) := blk_cell G13.out 0
      have u1 : w10.cell? ⟨b13, 1, none⟩ = some (.int .i64 s2.b) := blk_cell G13.out 1
      have u2 : w10.cell? ⟨b13, 2, none⟩ = some (.int .i64 s2.c) := blk_cell G13.out 2
      have u3 : w10.cell? ⟨b13, 3, none⟩ = some (.int .i64 s2.d) := blk_cell G13.out 3
      have u4 : w10.cell? ⟨b13, 4, none⟩ = some (.int .i64 s2.e) := blk_cell G13.out 4
      have u5 : w10.cell? ⟨b13, 5, none⟩ = some (.int .i64 s2.f) := blk_cell G13.out 5
      go_upto_region 13 with (first
        | (go_at_call 16; have ht1 := tables2_calls A c l w10 (Kd.C_below HR.out L10.out) HC.out HZ8.out (HT.out.below L10.out); rw [HTL.out] at ht1; refine ht1.mono ?_; rintro e w11 ⟨A69, c69, rfl, h1, h2, hb⟩; have HQ1 := Aside0.mk h1; have HQ2 := Aside0.mk h2; have HB11 := Aside0.mk hb; have HT3 := Aside0.mk (Kd.C_below HT2'.out hb); clear h1 h2 hb ht1)
        | (go_at_call 15; (with_reducible refine (ints_ex A15 A69 c15 c69 TL HTLE.out _ HT3.out HT1.out HQ2.out HQ1.out).mono ?_); rintro e w12 ⟨rfl, hb⟩; have HB12 := Aside0.mk (below_then HB11.out HB11.out.size hb); clear hb; have k0 : w12.cell? ⟨w.heap.size, 0, none⟩ = some (.int .i64 s.a) := blk_cell (blk_below G4.out HB12.out) 0; have k1 : w12.cell? ⟨w.heap.size, 1, none⟩ = some (.int .i64 s.b) := blk_cell (blk_below G4.out HB12.out) 1; have k2 : w12.cell? ⟨w.heap.size, 2, none⟩ = some (.int .i64 s.c) := blk_cell (blk_below G4.out HB12.out) 2; have k3 : w12.cell? ⟨w.heap.size, 3, none⟩ = some (.int .i64 s.d) := blk_cell (blk_below G4.out HB12.out) 3; have k4 : w12.cell? ⟨w.heap.size, 4, none⟩ = some (.int .i64 s.e) := blk_cell (blk_below G4.out HB12.out) 4; have k5 : w12.cell? ⟨w.heap.size, 5, none⟩ = some (.int .i64 s.f) := blk_cell (blk_below G4.out HB12.out) 5; have j0 : w12.cell? ⟨w.heap.size + 1, 0, none⟩ = some (.int .i64 tt.a) := blk_cell (blk_below G5.out HB12.out) 0; have j1 : w12.cell? ⟨w.heap.size + 1, 1, none⟩ = some (.int .i64 tt.b) := blk_cell (blk_below G5.out HB12.out) 1; have j2 : w12.cell? ⟨w.heap.size + 1, 2, none⟩ = some (.int .i64 tt.c) := blk_cell (blk_below G5.out HB12.out) 2; have j3 : w12.cell? ⟨w.heap.size + 1, 3, none⟩ = some (.int .i64 tt.d) := blk_cell (blk_below G5.out HB12.out) 3; have j4 : w12.cell? ⟨w.heap.size + 1, 4, none⟩ = some (.int .i64 tt.e) := blk_cell (blk_below G5.out HB12.out) 4; have j5 : w12.cell? ⟨w.heap.size + 1, 5, none⟩ = some (.int .i64 tt.f) := blk_cell (blk_below G5.out HB12.out) 5)
        | (go_at_call 18; refine (paramsC2 s tt cl PL HPL.out _).mono ?_; rintro e w13 ⟨A78, c78, rfl, h1, h2, hb⟩; have HY1 := Aside0.mk h1; have HY2 := Aside0.mk h2; have HB13 := Aside0.mk (below_then HB12.out HB12.out.size hb); clear h1 h2 hb)
        | (go_at_call 17; (with_reducible refine (same_ex2 A16 A78 c16 c78 PL (by have := HPL6.out; omega) _ (Kd.C_below HP2.out HB13.out) HP1.out HY2.out HY1.out).mono ?_); rintro e w14 ⟨rfl, hb⟩; have HB14 := Aside0.mk (below_then HB13.out HB13.out.size hb); clear hb))
      clear x0 x1 x2 x3 x4 x5 u0 u1 u2 u3 u4 u5 k0 k1 k2 k3 k4 k5 j0 j1 j2 j3 j4 j5
      have L14 := Aside0.mk (below_then L10.out L10.out.size HB14.out)
      have d0 : w14.cell? ⟨w.heap.size, 0, none⟩ = some (.int .i64 s.a) := blk_cell (blk_below G4.out HB14.out) 0
      have d1 : w14.cell? ⟨w.heap.size, 1, none⟩ = some (.int .i64 s.b) := blk_cell (blk_below G4.out HB14.out) 1
      have d2 : w14.cell? ⟨w.heap.size, 2, none⟩ = some (.int .i64 s.c) := blk_cell (blk_below G4.out HB14.out) 2
      have d3 : w14.cell? ⟨w.heap.size, 3, none⟩ = some (.int .i64 s.d) := blk_cell (blk_below G4.out HB14.out) 3
      have d4 : w14.cell? ⟨w.heap.size, 4, none⟩ = some (.int .i64 s.e) := blk_cell (blk_below G4.out HB14.out) 4
      have d5 : w14.cell? ⟨w.heap.size, 5, none⟩ = some (.int .i64 s.f) := blk_cell (blk_below G4.out HB14.out) 5
      have d6 : w14.cell? ⟨b11, 0, none⟩ = some (.int .i64 s2.a) := blk_cell (blk_below G11.out HB14.out) 0
      have d7 : w14.cell? ⟨b11, 1, none⟩ = some (.int .i64 s2.b) := blk_cell (blk_below G11.out HB14.out) 1
      have d8 : w14.cell? ⟨b11, 2, none⟩ = some (.int .i64 s2.c) := blk_cell (blk_below G11.out HB14.out) 2
      have d9 : w14.cell? ⟨b11, 3, none⟩ = some (.int .i64 s2.d) := blk_cell (blk_below G11.out HB14.out) 3
      have d10 : w14.cell? ⟨b11, 4, none⟩ = some (.int .i64 s2.e) := blk_cell (blk_below G11.out HB14.out) 4
      have d11 : w14.cell? ⟨b11, 5, none⟩ = some (.int .i64 s2.f) := blk_cell (blk_below G11.out HB14.out) 5
      have d12 : w14.cell? ⟨b13, 0, none⟩ = some (.int .i64 s2.a) := blk_cell (blk_below G13.out HB14.out) 0
      have d13 : w14.cell? ⟨b13, 1, none⟩ = some (.int .i64 s2.b) := blk_cell (blk_below G13.out HB14.out) 1
      have d14 : w14.cell? ⟨b13, 2, none⟩ = some (.int .i64 s2.c) := blk_cell (blk_below G13.out HB14.out) 2
      have d15 : w14.cell? ⟨b13, 3, none⟩ = some (.int .i64 s2.d) := blk_cell (blk_below G13.out HB14.out) 3
      have d16 : w14.cell? ⟨b13, 4, none⟩ = some (.int .i64 s2.e) := blk_cell (blk_below G13.out HB14.out) 4
      have d17 : w14.cell? ⟨b13, 5, none⟩ = some (.int .i64 s2.f) := blk_cell (blk_below G13.out HB14.out) 5
      have d18 : Below w.heap.size w w14.drew := below_drew L14.out
      have d19 : Kd.C k28 w14.drew A9 (l.length + 2) (l ++ marks) := Kd.C_below (Kd.C_below (Kd.C_below CM8.out HB10.out) HB14.out) (below_drew (Below.refl _ _))
      refine start_ (n := 26) (S := fun w' => w'.cell? ⟨w.heap.size, 0, none⟩ = some (.int .i64 s.a) ∧ w'.cell? ⟨w.heap.size, 1, none⟩ = some (.int .i64 s.b) ∧ w'.cell? ⟨w.heap.size, 2, none⟩ = some (.int .i64 s.c) ∧ w'.cell? ⟨w.heap.size, 3, none⟩ = some (.int .i64 s.d) ∧ w'.cell? ⟨w.heap.size, 4, none⟩ = some (.int .i64 s.e) ∧ w'.cell? ⟨w.heap.size, 5, none⟩ = some (.int .i64 s.f) ∧ w'.cell? ⟨b11, 0, none⟩ = some (.int .i64 s2.a) ∧ w'.cell? ⟨b11, 1, none⟩ = some (.int .i64 s2.b) ∧ w'.cell? ⟨b11, 2, none⟩ = some (.int .i64 s2.c) ∧ w'.cell? ⟨b11, 3, none⟩ = some (.int .i64 s2.d) ∧ w'.cell? ⟨b11, 4, none⟩ = some (.int .i64 s2.e) ∧ w'.cell? ⟨b11, 5, none⟩ = some (.int .i64 s2.f) ∧ w'.cell? ⟨b13, 0, none⟩ = some (.int .i64 s2.a) ∧ w'.cell? ⟨b13, 1, none⟩ = some (.int .i64 s2.b) ∧ w'.cell? ⟨b13, 2, none⟩ = some (.int .i64 s2.c) ∧ w'.cell? ⟨b13, 3, none⟩ = some (.int .i64 s2.d) ∧ w'.cell? ⟨b13, 4, none⟩ = some (.int .i64 s2.e) ∧ w'.cell? ⟨b13, 5, none⟩ = some (.int .i64 s2.f) ∧ Below w.heap.size w w' ∧ Kd.C k28 w' A9 (l.length + 2) (l ++ marks)) (ds := []) #[false, false, false, false, false, false, false, false, false, false, false, false, false, false, false, false, false, false, false, false, false, false, false, false, false, false] (by kernel_rfl) rfl rfl ⟨d0, d1, d2, d3, d4, d5, d6, d7, d8, d9, d10, d11, d12, d13, d14, d15, d16, d17, d18, d19⟩ (fun hHeld => ?_)
      refine one_ (i := 0) (N := some 82) #[true, false, false, false, false, false, false, false, false, false, false, false, false, false, false, false, false, false, false, false, false, false, false, false, false, false] rfl rfl (by kernel_rfl) (by decide) (fun K hK => ?_)
      refine goes_ Tryd.func19 (by kernel_rfl) rfl #[] (by rfl) rfl rfl (by simp only [List.map_toArray, List.map_cons, List.map_nil]) ?_
      with_reducible refine (default_lit _ (HG.out.below hHeld.2.2.2.2.2.2.2.2.2.2.2.2.2.2.2.2.2.2.1)).mono ?_
      rintro e w3 ⟨rfl, hb⟩
      refine ⟨_, rfl, ?_⟩
      refine hK.out _ _ ⟨(hb.cell (World.block_lt_of_cell? _ _ hHeld.1)).trans hHeld.1, (hb.cell (World.block_lt_of_cell? _ _ hHeld.2.1)).trans hHeld.2.1, (hb.cell (World.block_lt_of_cell? _ _ hHeld.2.2.1)).trans hHeld.2.2.1, (hb.cell (World.block_lt_of_cell? _ _ hHeld.2.2.2.1)).trans hHeld.2.2.2.1, (hb.cell (World.block_lt_of_cell? _ _ hHeld.2.2.2.2.1)).trans hHeld.2.2.2.2.1, (hb.cell (World.block_lt_of_cell? _ _ hHeld.2.2.2.2.2.1)).trans hHeld.2.2.2.2.2.1, (hb.cell (World.block_lt_of_cell? _ _ hHeld.2.2.2.2.2.2.1)).trans hHeld.2.2.2.2.2.2.1, (hb.cell (World.block_lt_of_cell? _ _ hHeld.2.2.2.2.2.2.2.1)).trans hHeld.2.2.2.2.2.2.2.1, (hb.cell (World.block_lt_of_cell? _ _ hHeld.2.2.2.2.2.2.2.2.1)).trans hHeld.2.2.2.2.2.2.2.2.1, (hb.cell (World.block_lt_of_cell? _ _ hHeld.2.2.2.2.2.2.2.2.2.1)).trans hHeld.2.2.2.2.2.2.2.2.2.1, (hb.cell (World.block_lt_of_cell? _ _ hHeld.2.2.2.2.2.2.2.2.2.2.1)).trans hHeld.2.2.2.2.2.2.2.2.2.2.1, (hb.cell (World.block_lt_of_cell? _ _ hHeld.2.2.2.2.2.2.2.2.2.2.2.1)).trans hHeld.2.2.2.2.2.2.2.2.2.2.2.1, (hb.cell (World.block_lt_of_cell? _ _ hHeld.2.2.2.2.2.2.2.2.2.2.2.2.1)).trans hHeld.2.2.2.2.2.2.2.2.2.2.2.2.1, (hb.cell (World.block_lt_of_cell? _ _ hHeld.2.2.2.2.2.2.2.2.2.2.2.2.2.1)).trans hHeld.2.2.2.2.2.2.2.2.2.2.2.2.2.1, (hb.cell (World.block_lt_of_cell? _ _ hHeld.2.2.2.2.2.2.2.2.2.2.2.2.2.2.1)).trans hHeld.2.2.2.2.2.2.2.2.2.2.2.2.2.2.1, (hb.cell (World.block_lt_of_cell? _ _ hHeld.2.2.2.2.2.2.2.2.2.2.2.2.2.2.2.1)).trans hHeld.2.2.2.2.2.2.2.2.2.2.2.2.2.2.2.1, (hb.cell (World.block_lt_of_cell? _ _ hHeld.2.2.2.2.2.2.2.2.2.2.2.2.2.2.2.2.1)).trans hHeld.2.2.2.2.2.2.2.2.2.2.2.2.2.2.2.2.1, (hb.cell (World.block_lt_of_cell? _ _ hHeld.2.2.2.2.2.2.2.2.2.2.2.2.2.2.2.2.2.1)).trans hHeld.2.2.2.2.2.2.2.2.2.2.2.2.2.2.2.2.2.1, below_then hHeld.2.2.2.2.2.2.2.2.2.2.2.2.2.2.2.2.2.2.1 (hHeld.2.2.2.2.2.2.2.2.2.2.2.2.2.2.2.2.2.2.1).size hb, Kd.C_below hHeld.2.2.2.2.2.2.2.2.2.2.2.2.2.2.2.2.2.2.2 hb⟩ (fun hHeld => ?_)
      clear hK K
      refine norm_ (a' := ?_) ?_ ?_
      rotate_left
      · show Act.put _ (some 82) _ = _
        simp only [Act.put, List.setIfInBounds_toArray, List.set_cons_zero, List.set_cons_succ, i64_w, i32_w]
        rfl
      refine one_ (i := 1) (N := some 83) #[true, true, false, false, false, false, false, false, false, false, false, false, false, false, false, false, false, false, false, false, false, false, false, false, false, false] rfl rfl (by kernel_rfl) (by decide) (fun K hK => ?_)
      refine goes_ Tryd.func20 (by kernel_rfl) rfl #[] (by rfl) rfl rfl (by simp only [List.map_toArray, List.map_cons, List.map_nil]) ?_
      with_reducible refine (default8_calls _).mono ?_
      rintro e w3 ⟨rfl, hb⟩
      refine ⟨_, rfl, ?_⟩
      refine hK.out _ _ ⟨(hb.cell (World.block_lt_of_cell? _ _ hHeld.1)).trans hHeld.1, (hb.cell (World.block_lt_of_cell? _ _ hHeld.2.1)).trans hHeld.2.1, (hb.cell (World.block_lt_of_cell? _ _ hHeld.2.2.1)).trans hHeld.2.2.1, (hb.cell (World.block_lt_of_cell? _ _ hHeld.2.2.2.1)).trans hHeld.2.2.2.1, (hb.cell (World.block_lt_of_cell? _ _ hHeld.2.2.2.2.1)).trans hHeld.2.2.2.2.1, (hb.cell (World.block_lt_of_cell? _ _ hHeld.2.2.2.2.2.1)).trans hHeld.2.2.2.2.2.1, (hb.cell (World.block_lt_of_cell? _ _ hHeld.2.2.2.2.2.2.1)).trans hHeld.2.2.2.2.2.2.1, (hb.cell (World.block_lt_of_cell? _ _ hHeld.2.2.2.2.2.2.2.1)).trans hHeld.2.2.2.2.2.2.2.1, (hb.cell (World.block_lt_of_cell? _ _ hHeld.2.2.2.2.2.2.2.2.1)).trans hHeld.2.2.2.2.2.2.2.2.1, (hb.cell (World.block_lt_of_cell? _ _ hHeld.2.2.2.2.2.2.2.2.2.1)).trans hHeld.2.2.2.2.2.2.2.2.2.1, (hb.cell (World.block_lt_of_cell? _ _ hHeld.2.2.2.2.2.2.2.2.2.2.1)).trans hHeld.2.2.2.2.2.2.2.2.2.2.1, (hb.cell (World.block_lt_of_cell? _ _ hHeld.2.2.2.2.2.2.2.2.2.2.2.1)).trans hHeld.2.2.2.2.2.2.2.2.2.2.2.1, (hb.cell (World.block_lt_of_cell? _ _ hHeld.2.2.2.2.2.2.2.2.2.2.2.2.1)).trans hHeld.2.2.2.2.2.2.2.2.2.2.2.2.1, (hb.cell (World.block_lt_of_cell? _ _ hHeld.2.2.2.2.2.2.2.2.2.2.2.2.2.1)).trans hHeld.2.2.2.2.2.2.2.2.2.2.2.2.2.1, (hb.cell (World.block_lt_of_cell? _ _ hHeld.2.2.2.2.2.2.2.2.2.2.2.2.2.2.1)).trans hHeld.2.2.2.2.2.2.2.2.2.2.2.2.2.2.1, (hb.cell (World.block_lt_of_cell? _ _ hHeld.2.2.2.2.2.2.2.2.2.2.2.2.2.2.2.1)).trans hHeld.2.2.2.2.2.2.2.2.2.2.2.2.2.2.2.1, (hb.cell (World.block_lt_of_cell? _ _ hHeld.2.2.2.2.2.2.2.2.2.2.2.2.2.2.2.2.1)).trans hHeld.2.2.2.2.2.2.2.2.2.2.2.2.2.2.2.2.1, (hb.cell (World.block_lt_of_cell? _ _ hHeld.2.2.2.2.2.2.2.2.2.2.2.2.2.2.2.2.2.1)).trans hHeld.2.2.2.2.2.2.2.2.2.2.2.2.2.2.2.2.2.1, below_then hHeld.2.2.2.2.2.2.2.2.2.2.2.2.2.2.2.2.2.2.1 (hHeld.2.2.2.2.2.2.2.2.2.2.2.2.2.2.2.2.2.2.1).size hb, Kd.C_below hHeld.2.2.2.2.2.2.2.2.2.2.2.2.2.2.2.2.2.2.2 hb⟩ (fun hHeld => ?_)
      clear hK K
      refine norm_ (a' := ?_) ?_ ?_
      rotate_left
      · show Act.put _ (some 83) _ = _
        simp only [Act.put, List.setIfInBounds_toArray, List.set_cons_zero, List.set_cons_succ, i64_w, i32_w]
        rfl
      refine pure_ (i := 2) (N := some 84) (v := ?_) (a' := ?_) #[true, true, true, false, false, false, false, false, false, false, false, false, false, false, false, false, false, false, false, false, false, false, false, false, false, false] rfl rfl (by kernel_rfl) (fun _ _ _ h => h) (Or.inl ⟨by rfl, ?_⟩) ?_ ?_
      rotate_left
      · intro w'
        go_simp
        with_reducible rfl
      rotate_left
      · simp only [Act.put, List.setIfInBounds_toArray, List.set_cons_zero, List.set_cons_succ, i64_w, i32_w]
        rfl
      refine pure_ (i := 3) (N := some 85) (v := ?_) (a' := ?_) #[true, true, true, true, false, false, false, false, false, false, false, false, false, false, false, false, false, false, false, false, false, false, false, false, false, false] rfl rfl (by kernel_rfl) (fun _ _ _ h => h) (Or.inl ⟨by rfl, ?_⟩) ?_ ?_
      rotate_left
      · intro w'
        go_simp
        with_reducible rfl
      rotate_left
      · simp only [Act.put, List.setIfInBounds_toArray, List.set_cons_zero, List.set_cons_succ, i64_w, i32_w]
        rfl
      refine take_ (i := 4) (N := some 86) (v := ?_) (a' := ?_) #[true, true, true, true, true, false, false, false, false, false, false, false, false, false, false, false, false, false, false, false, false, false, false, false, false, false] rfl rfl (by kernel_rfl) (fun _ _ _ h => h) (Or.inl ⟨by rfl, ?_⟩) hHeld ?_ ?_
      rotate_left
      · rintro w' ⟨s0, s1, s2, s3, s4, s5, s6, s7, s8, s9, s10, s11, s12, s13, s14, s15, s16, s17, s18, s19⟩
        go_simp
        with_reducible rfl
      rotate_left
      · simp only [Act.put, List.setIfInBounds_toArray, List.set_cons_zero, List.set_cons_succ, i64_w, i32_w]
        rfl
      refine take_ (i := 6) (N := some 88) (v := ?_) (a' := ?_) #[true, true, true, true, true, false, true, false, false, false, false, false, false, false, false, false, false, false, false, false, false, false, false, false, false, false] rfl rfl (by kernel_rfl) (fun _ _ _ h => h) (Or.inl ⟨by rfl, ?_⟩) hHeld ?_ ?_
      rotate_left
      · rintro w' ⟨s0, s1, s2, s3, s4, s5, s6, s7, s8, s9, s10, s11, s12, s13, s14, s15, s16, s17, s18, s19⟩
        go_simp
        with_reducible rfl
      rotate_left
      · simp only [Act.put, List.setIfInBounds_toArray, List.set_cons_zero, List.set_cons_succ, i64_w, i32_w]
        rfl
      refine one_ (i := 5) (N := some 87) #[true, true, true, true, true, true, true, false, false, false, false, false, false, false, false, false, false, false, false, false, false, false, false, false, false, false] rfl rfl (by kernel_rfl) (by decide) (fun K hK => ?_)
      refine goes_ Tryd.func21 (by kernel_rfl) rfl #[.agg #[.int .i64 s.a, .int .i64 s.b, .int .i64 s.c, .int .i64 s.d, .int .i64 s.e, .int .i64 s.f]] (by rfl) rfl rfl (by simp only [List.map_toArray, List.map_cons, List.map_nil]; rfl) ?_
      with_reducible refine (fits1x s _).mono ?_
      rintro e w3 ⟨rfl, hb⟩
      refine ⟨_, rfl, ?_⟩
      refine hK.out _ _ ⟨(hb.cell (World.block_lt_of_cell? _ _ hHeld.1)).trans hHeld.1, (hb.cell (World.block_lt_of_cell? _ _ hHeld.2.1)).trans hHeld.2.1, (hb.cell (World.block_lt_of_cell? _ _ hHeld.2.2.1)).trans hHeld.2.2.1, (hb.cell (World.block_lt_of_cell? _ _ hHeld.2.2.2.1)).trans hHeld.2.2.2.1, (hb.cell (World.block_lt_of_cell? _ _ hHeld.2.2.2.2.1)).trans hHeld.2.2.2.2.1, (hb.cell (World.block_lt_of_cell? _ _ hHeld.2.2.2.2.2.1)).trans hHeld.2.2.2.2.2.1, (hb.cell (World.block_lt_of_cell? _ _ hHeld.2.2.2.2.2.2.1)).trans hHeld.2.2.2.2.2.2.1, (hb.cell (World.block_lt_of_cell? _ _ hHeld.2.2.2.2.2.2.2.1)).trans hHeld.2.2.2.2.2.2.2.1, (hb.cell (World.block_lt_of_cell? _ _ hHeld.2.2.2.2.2.2.2.2.1)).trans hHeld.2.2.2.2.2.2.2.2.1, (hb.cell (World.block_lt_of_cell? _ _ hHeld.2.2.2.2.2.2.2.2.2.1)).trans hHeld.2.2.2.2.2.2.2.2.2.1, (hb.cell (World.block_lt_of_cell? _ _ hHeld.2.2.2.2.2.2.2.2.2.2.1)).trans hHeld.2.2.2.2.2.2.2.2.2.2.1, (hb.cell (World.block_lt_of_cell? _ _ hHeld.2.2.2.2.2.2.2.2.2.2.2.1)).trans hHeld.2.2.2.2.2.2.2.2.2.2.2.1, (hb.cell (World.block_lt_of_cell? _ _ hHeld.2.2.2.2.2.2.2.2.2.2.2.2.1)).trans hHeld.2.2.2.2.2.2.2.2.2.2.2.2.1, (hb.cell (World.block_lt_of_cell? _ _ hHeld.2.2.2.2.2.2.2.2.2.2.2.2.2.1)).trans hHeld.2.2.2.2.2.2.2.2.2.2.2.2.2.1, (hb.cell (World.block_lt_of_cell? _ _ hHeld.2.2.2.2.2.2.2.2.2.2.2.2.2.2.1)).trans hHeld.2.2.2.2.2.2.2.2.2.2.2.2.2.2.1, (hb.cell (World.block_lt_of_cell? _ _ hHeld.2.2.2.2.2.2.2.2.2.2.2.2.2.2.2.1)).trans hHeld.2.2.2.2.2.2.2.2.2.2.2.2.2.2.2.1, (hb.cell (World.block_lt_of_cell? _ _ hHeld.2.2.2.2.2.2.2.2.2.2.2.2.2.2.2.2.1)).trans hHeld.2.2.2.2.2.2.2.2.2.2.2.2.2.2.2.2.1, (hb.cell (World.block_lt_of_cell? _ _ hHeld.2.2.2.2.2.2.2.2.2.2.2.2.2.2.2.2.2.1)).trans hHeld.2.2.2.2.2.2.2.2.2.2.2.2.2.2.2.2.2.1, below_then hHeld.2.2.2.2.2.2.2.2.2.2.2.2.2.2.2.2.2.2.1 (hHeld.2.2.2.2.2.2.2.2.2.2.2.2.2.2.2.2.2.2.1).size hb, Kd.C_below hHeld.2.2.2.2.2.2.2.2.2.2.2.2.2.2.2.2.2.2.2 hb⟩ (fun hHeld => ?_)
      clear hK K
      refine norm_ (a' := ?_) ?_ ?_
      rotate_left
      · show Act.put _ (some 87) _ = _
        simp only [Act.put, List.setIfInBounds_toArray, List.set_cons_zero, List.set_cons_succ, i64_w, i32_w]
        rfl
      refine one_ (i := 7) (N := some 89) #[true, true, true, true, true, true, true, true, false, false, false, false, false, false, false, false, false, false, false, false, false, false, false, false, false, false] rfl rfl (by kernel_rfl) (by decide) (fun K hK => ?_)
      refine goes_ Tryd.func22 (by kernel_rfl) rfl #[.agg #[.int .i64 s.a, .int .i64 s.b, .int .i64 s.c, .int .i64 s.d, .int .i64 s.e, .int .i64 s.f]] (by rfl) rfl rfl (by simp only [List.map_toArray, List.map_cons, List.map_nil]; rfl) ?_
      with_reducible refine (fits8_calls s _ (HLO.out.below hHeld.2.2.2.2.2.2.2.2.2.2.2.2.2.2.2.2.2.2.1) (HHI.out.below hHeld.2.2.2.2.2.2.2.2.2.2.2.2.2.2.2.2.2.2.1)).mono ?_
      rintro e w3 ⟨rfl, hb⟩
      refine ⟨_, rfl, ?_⟩
      refine hK.out _ _ ⟨(hb.cell (World.block_lt_of_cell? _ _ hHeld.1)).trans hHeld.1, (hb.cell (World.block_lt_of_cell? _ _ hHeld.2.1)).trans hHeld.2.1, (hb.cell (World.block_lt_of_cell? _ _ hHeld.2.2.1)).trans hHeld.2.2.1, (hb.cell (World.block_lt_of_cell? _ _ hHeld.2.2.2.1)).trans hHeld.2.2.2.1, (hb.cell (World.block_lt_of_cell? _ _ hHeld.2.2.2.2.1)).trans hHeld.2.2.2.2.1, (hb.cell (World.block_lt_of_cell? _ _ hHeld.2.2.2.2.2.1)).trans hHeld.2.2.2.2.2.1, (hb.cell (World.block_lt_of_cell? _ _ hHeld.2.2.2.2.2.2.1)).trans hHeld.2.2.2.2.2.2.1, (hb.cell (World.block_lt_of_cell? _ _ hHeld.2.2.2.2.2.2.2.1)).trans hHeld.2.2.2.2.2.2.2.1, (hb.cell (World.block_lt_of_cell? _ _ hHeld.2.2.2.2.2.2.2.2.1)).trans hHeld.2.2.2.2.2.2.2.2.1, (hb.cell (World.block_lt_of_cell? _ _ hHeld.2.2.2.2.2.2.2.2.2.1)).trans hHeld.2.2.2.2.2.2.2.2.2.1, (hb.cell (World.block_lt_of_cell? _ _ hHeld.2.2.2.2.2.2.2.2.2.2.1)).trans hHeld.2.2.2.2.2.2.2.2.2.2.1, (hb.cell (World.block_lt_of_cell? _ _ hHeld.2.2.2.2.2.2.2.2.2.2.2.1)).trans hHeld.2.2.2.2.2.2.2.2.2.2.2.1, (hb.cell (World.block_lt_of_cell? _ _ hHeld.2.2.2.2.2.2.2.2.2.2.2.2.1)).trans hHeld.2.2.2.2.2.2.2.2.2.2.2.2.1, (hb.cell (World.block_lt_of_cell? _ _ hHeld.2.2.2.2.2.2.2.2.2.2.2.2.2.1)).trans hHeld.2.2.2.2.2.2.2.2.2.2.2.2.2.1, (hb.cell (World.block_lt_of_cell? _ _ hHeld.2.2.2.2.2.2.2.2.2.2.2.2.2.2.1)).trans hHeld.2.2.2.2.2.2.2.2.2.2.2.2.2.2.1, (hb.cell (World.block_lt_of_cell? _ _ hHeld.2.2.2.2.2.2.2.2.2.2.2.2.2.2.2.1)).trans hHeld.2.2.2.2.2.2.2.2.2.2.2.2.2.2.2.1, (hb.cell (World.block_lt_of_cell? _ _ hHeld.2.2.2.2.2.2.2.2.2.2.2.2.2.2.2.2.1)).trans hHeld.2.2.2.2.2.2.2.2.2.2.2.2.2.2.2.2.1, (hb.cell (World.block_lt_of_cell? _ _ hHeld.2.2.2.2.2.2.2.2.2.2.2.2.2.2.2.2.2.1)).trans hHeld.2.2.2.2.2.2.2.2.2.2.2.2.2.2.2.2.2.1, below_then hHeld.2.2.2.2.2.2.2.2.2.2.2.2.2.2.2.2.2.2.1 (hHeld.2.2.2.2.2.2.2.2.2.2.2.2.2.2.2.2.2.2.1).size hb, Kd.C_below hHeld.2.2.2.2.2.2.2.2.2.2.2.2.2.2.2.2.2.2.2 hb⟩ (fun hHeld => ?_)
      clear hK K
      refine norm_ (a' := ?_) ?_ ?_
      rotate_left
      · show Act.put _ (some 89) _ = _
        simp only [Act.put, List.setIfInBounds_toArray, List.set_cons_zero, List.set_cons_succ, i64_w, i32_w]
        rfl
      refine pure_ (i := 8) (N := some 90) (v := ?_) (a' := ?_) #[true, true, true, true, true, true, true, true, true, false, false, false, false, false, false, false, false, false, false, false, false, false, false, false, false, false] rfl rfl (by kernel_rfl) (fun _ _ _ h => h) (Or.inl ⟨by rfl, ?_⟩) ?_ ?_
      rotate_left
      · intro w'
        go_simp
        with_reducible rfl
      rotate_left
      · simp only [Act.put, List.setIfInBounds_toArray, List.set_cons_zero, List.set_cons_succ, i64_w, i32_w]
        rfl
      refine pure_ (i := 9) (N := some 91) (v := ?_) (a' := ?_) #[true, true, true, true, true, true, true, true, true, true, false, false, false, false, false, false, false, false, false, false, false, false, false, false, false, false] rfl rfl (by kernel_rfl) (fun _ _ _ h => h) (Or.inl ⟨by rfl, ?_⟩) ?_ ?_
      rotate_left
      · intro w'
        go_simp
        with_reducible rfl
      rotate_left
      · simp only [Act.put, List.setIfInBounds_toArray, List.set_cons_zero, List.set_cons_succ, i64_w, i32_w]
        rfl
      refine pure_ (i := 10) (N := some 92) (v := ?_) (a' := ?_) #[true, true, true, true, true, true, true, true, true, true, true, false, false, false, false, false, false, false, false, false, false, false, false, false, false, false] rfl rfl (by kernel_rfl) (fun _ _ _ h => h) (Or.inl ⟨by rfl, ?_⟩) ?_ ?_
      rotate_left
      · intro w'
        go_simp
        with_reducible rfl
      rotate_left
      · simp only [Act.put, List.setIfInBounds_toArray, List.set_cons_zero, List.set_cons_succ, i64_w, i32_w]
        rfl
      refine take_ (i := 11) (N := some 93) (v := ?_) (a' := ?_) #[true, true, true, true, true, true, true, true, true, true, true, true, false, false, false, false, false, false, false, false, false, false, false, false, false, false] rfl rfl (by kernel_rfl) (fun _ _ _ h => h) (Or.inl ⟨by rfl, ?_⟩) hHeld ?_ ?_
      rotate_left
      · rintro w' ⟨s0, s1, s2, s3, s4, s5, s6, s7, s8, s9, s10, s11, s12, s13, s14, s15, s16, s17, s18, s19⟩
        go_simp
        with_reducible rfl
      rotate_left
      · simp only [Act.put, List.setIfInBounds_toArray, List.set_cons_zero, List.set_cons_succ, i64_w, i32_w]
        rfl
      refine take_ (i := 13) (N := some 95) (v := ?_) (a' := ?_) #[true, true, true, true, true, true, true, true, true, true, true, true, false, true, false, false, false, false, false, false, false, false, false, false, false, false] rfl rfl (by kernel_rfl) (fun _ _ _ h => h) (Or.inl ⟨by rfl, ?_⟩) hHeld ?_ ?_
      rotate_left
      · rintro w' ⟨s0, s1, s2, s3, s4, s5, s6, s7, s8, s9, s10, s11, s12, s13, s14, s15, s16, s17, s18, s19⟩
        go_simp
        with_reducible rfl
      rotate_left
      · simp only [Act.put, List.setIfInBounds_toArray, List.set_cons_zero, List.set_cons_succ, i64_w, i32_w]
        rfl
      refine one_ (i := 12) (N := some 94) #[true, true, true, true, true, true, true, true, true, true, true, true, true, true, false, false, false, false, false, false, false, false, false, false, false, false] rfl rfl (by kernel_rfl) (by decide) (fun K hK => ?_)
      refine goes_ Tryd.func21 (by kernel_rfl) rfl #[.agg #[.int .i64 s2.a, .int .i64 s2.b, .int .i64 s2.c, .int .i64 s2.d, .int .i64 s2.e, .int .i64 s2.f]] (by rfl) rfl rfl (by simp only [List.map_toArray, List.map_cons, List.map_nil]; rfl) ?_
      with_reducible refine (fits1x s2 _).mono ?_
      rintro e w3 ⟨rfl, hb⟩
      refine ⟨_, rfl, ?_⟩
      refine hK.out _ _ ⟨(hb.cell (World.block_lt_of_cell? _ _ hHeld.1)).trans hHeld.1, (hb.cell (World.block_lt_of_cell? _ _ hHeld.2.1)).trans hHeld.2.1, (hb.cell (World.block_lt_of_cell? _ _ hHeld.2.2.1)).trans hHeld.2.2.1, (hb.cell (World.block_lt_of_cell? _ _ hHeld.2.2.2.1)).trans hHeld.2.2.2.1, (hb.cell (World.block_lt_of_cell? _ _ hHeld.2.2.2.2.1)).trans hHeld.2.2.2.2.1, (hb.cell (World.block_lt_of_cell? _ _ hHeld.2.2.2.2.2.1)).trans hHeld.2.2.2.2.2.1, (hb.cell (World.block_lt_of_cell? _ _ hHeld.2.2.2.2.2.2.1)).trans hHeld.2.2.2.2.2.2.1, (hb.cell (World.block_lt_of_cell? _ _ hHeld.2.2.2.2.2.2.2.1)).trans hHeld.2.2.2.2.2.2.2.1, (hb.cell (World.block_lt_of_cell? _ _ hHeld.2.2.2.2.2.2.2.2.1)).trans hHeld.2.2.2.2.2.2.2.2.1, (hb.cell (World.block_lt_of_cell? _ _ hHeld.2.2.2.2.2.2.2.2.2.1)).trans hHeld.2.2.2.2.2.2.2.2.2.1, (hb.cell (World.block_lt_of_cell? _ _ hHeld.2.2.2.2.2.2.2.2.2.2.1)).trans hHeld.2.2.2.2.2.2.2.2.2.2.1, (hb.cell (World.block_lt_of_cell? _ _ hHeld.2.2.2.2.2.2.2.2.2.2.2.1)).trans hHeld.2.2.2.2.2.2.2.2.2.2.2.1, (hb.cell (World.block_lt_of_cell? _ _ hHeld.2.2.2.2.2.2.2.2.2.2.2.2.1)).trans hHeld.2.2.2.2.2.2.2.2.2.2.2.2.1, (hb.cell (World.block_lt_of_cell? _ _ hHeld.2.2.2.2.2.2.2.2.2.2.2.2.2.1)).trans hHeld.2.2.2.2.2.2.2.2.2.2.2.2.2.1, (hb.cell (World.block_lt_of_cell? _ _ hHeld.2.2.2.2.2.2.2.2.2.2.2.2.2.2.1)).trans hHeld.2.2.2.2.2.2.2.2.2.2.2.2.2.2.1, (hb.cell (World.block_lt_of_cell? _ _ hHeld.2.2.2.2.2.2.2.2.2.2.2.2.2.2.2.1)).trans hHeld.2.2.2.2.2.2.2.2.2.2.2.2.2.2.2.1, (hb.cell (World.block_lt_of_cell? _ _ hHeld.2.2.2.2.2.2.2.2.2.2.2.2.2.2.2.2.1)).trans hHeld.2.2.2.2.2.2.2.2.2.2.2.2.2.2.2.2.1, (hb.cell (World.block_lt_of_cell? _ _ hHeld.2.2.2.2.2.2.2.2.2.2.2.2.2.2.2.2.2.1)).trans hHeld.2.2.2.2.2.2.2.2.2.2.2.2.2.2.2.2.2.1, below_then hHeld.2.2.2.2.2.2.2.2.2.2.2.2.2.2.2.2.2.2.1 (hHeld.2.2.2.2.2.2.2.2.2.2.2.2.2.2.2.2.2.2.1).size hb, Kd.C_below hHeld.2.2.2.2.2.2.2.2.2.2.2.2.2.2.2.2.2.2.2 hb⟩ (fun hHeld => ?_)
      clear hK K
      refine norm_ (a' := ?_) ?_ ?_
      rotate_left
      · show Act.put _ (some 94) _ = _
        simp only [Act.put, List.setIfInBounds_toArray, List.set_cons_zero, List.set_cons_succ, i64_w, i32_w]
        rfl
      refine one_ (i := 14) (N := some 96) #[true, true, true, true, true, true, true, true, true, true, true, true, true, true, true, false, false, false, false, false, false, false, false, false, false, false] rfl rfl (by kernel_rfl) (by decide) (fun K hK => ?_)
      refine goes_ Tryd.func22 (by kernel_rfl) rfl #[.agg #[.int .i64 s2.a, .int .i64 s2.b, .int .i64 s2.c, .int .i64 s2.d, .int .i64 s2.e, .int .i64 s2.f]] (by rfl) rfl rfl (by simp only [List.map_toArray, List.map_cons, List.map_nil]; rfl) ?_
      with_reducible refine (fits8_calls s2 _ (HLO.out.below hHeld.2.2.2.2.2.2.2.2.2.2.2.2.2.2.2.2.2.2.1) (HHI.out.below hHeld.2.2.2.2.2.2.2.2.2.2.2.2.2.2.2.2.2.2.1)).mono ?_
      rintro e w3 ⟨rfl, hb⟩
      refine ⟨_, rfl, ?_⟩
      refine hK.out _ _ ⟨(hb.cell (World.block_lt_of_cell? _ _ hHeld.1)).trans hHeld.1, (hb.cell (World.block_lt_of_cell? _ _ hHeld.2.1)).trans hHeld.2.1, (hb.cell (World.block_lt_of_cell? _ _ hHeld.2.2.1)).trans hHeld.2.2.1, (hb.cell (World.block_lt_of_cell? _ _ hHeld.2.2.2.1)).trans hHeld.2.2.2.1, (hb.cell (World.block_lt_of_cell? _ _ hHeld.2.2.2.2.1)).trans hHeld.2.2.2.2.1, (hb.cell (World.block_lt_of_cell? _ _ hHeld.2.2.2.2.2.1)).trans hHeld.2.2.2.2.2.1, (hb.cell (World.block_lt_of_cell? _ _ hHeld.2.2.2.2.2.2.1)).trans hHeld.2.2.2.2.2.2.1, (hb.cell (World.block_lt_of_cell? _ _ hHeld.2.2.2.2.2.2.2.1)).trans hHeld.2.2.2.2.2.2.2.1, (hb.cell (World.block_lt_of_cell? _ _ hHeld.2.2.2.2.2.2.2.2.1)).trans hHeld.2.2.2.2.2.2.2.2.1, (hb.cell (World.block_lt_of_cell? _ _ hHeld.2.2.2.2.2.2.2.2.2.1)).trans hHeld.2.2.2.2.2.2.2.2.2.1, (hb.cell (World.block_lt_of_cell? _ _ hHeld.2.2.2.2.2.2.2.2.2.2.1)).trans hHeld.2.2.2.2.2.2.2.2.2.2.1, (hb.cell (World.block_lt_of_cell? _ _ hHeld.2.2.2.2.2.2.2.2.2.2.2.1)).trans hHeld.2.2.2.2.2.2.2.2.2.2.2.1, (hb.cell (World.block_lt_of_cell? _ _ hHeld.2.2.2.2.2.2.2.2.2.2.2.2.1)).trans hHeld.2.2.2.2.2.2.2.2.2.2.2.2.1, (hb.cell (World.block_lt_of_cell? _ _ hHeld.2.2.2.2.2.2.2.2.2.2.2.2.2.1)).trans hHeld.2.2.2.2.2.2.2.2.2.2.2.2.2.1, (hb.cell (World.block_lt_of_cell? _ _ hHeld.2.2.2.2.2.2.2.2.2.2.2.2.2.2.1)).trans hHeld.2.2.2.2.2.2.2.2.2.2.2.2.2.2.1, (hb.cell (World.block_lt_of_cell? _ _ hHeld.2.2.2.2.2.2.2.2.2.2.2.2.2.2.2.1)).trans hHeld.2.2.2.2.2.2.2.2.2.2.2.2.2.2.2.1, (hb.cell (World.block_lt_of_cell? _ _ hHeld.2.2.2.2.2.2.2.2.2.2.2.2.2.2.2.2.1)).trans hHeld.2.2.2.2.2.2.2.2.2.2.2.2.2.2.2.2.1, (hb.cell (World.block_lt_of_cell? _ _ hHeld.2.2.2.2.2.2.2.2.2.2.2.2.2.2.2.2.2.1)).trans hHeld.2.2.2.2.2.2.2.2.2.2.2.2.2.2.2.2.2.1, below_then hHeld.2.2.2.2.2.2.2.2.2.2.2.2.2.2.2.2.2.2.1 (hHeld.2.2.2.2.2.2.2.2.2.2.2.2.2.2.2.2.2.2.1).size hb, Kd.C_below hHeld.2.2.2.2.2.2.2.2.2.2.2.2.2.2.2.2.2.2.2 hb⟩ (fun hHeld => ?_)
      clear hK K
      refine norm_ (a' := ?_) ?_ ?_
      rotate_left
      · show Act.put _ (some 96) _ = _
        simp only [Act.put, List.setIfInBounds_toArray, List.set_cons_zero, List.set_cons_succ, i64_w, i32_w]
        rfl
      refine pure_ (i := 15) (N := some 97) (v := ?_) (a' := ?_) #[true, true, true, true, true, true, true, true, true, true, true, true, true, true, true, true, false, false, false, false, false, false, false, false, false, false] rfl rfl (by kernel_rfl) (fun _ _ _ h => h) (Or.inl ⟨by rfl, ?_⟩) ?_ ?_
      rotate_left
      · intro w'
        go_simp
        with_reducible rfl
      rotate_left
      · simp only [Act.put, List.setIfInBounds_toArray, List.set_cons_zero, List.set_cons_succ, i64_w, i32_w]
        rfl
      refine pure_ (i := 16) (N := some 98) (v := ?_) (a' := ?_) #[true, true, true, true, true, true, true, true, true, true, true, true, true, true, true, true, true, false, false, false, false, false, false, false, false, false] rfl rfl (by kernel_rfl) (fun _ _ _ h => h) (Or.inl ⟨by rfl, ?_⟩) ?_ ?_
      rotate_left
      · intro w'
        go_simp
        with_reducible rfl
      rotate_left
      · simp only [Act.put, List.setIfInBounds_toArray, List.set_cons_zero, List.set_cons_succ, i64_w, i32_w]
        rfl
      refine pure_ (i := 17) (N := some 99) (v := ?_) (a' := ?_) #[true, true, true, true, true, true, true, true, true, true, true, true, true, true, true, true, true, true, false, false, false, false, false, false, false, false] rfl rfl (by kernel_rfl) (fun _ _ _ h => h) (Or.inl ⟨by rfl, ?_⟩) ?_ ?_
      rotate_left
      · intro w'
        go_simp
        with_reducible rfl
      rotate_left
      · simp only [Act.put, List.setIfInBounds_toArray, List.set_cons_zero, List.set_cons_succ, i64_w, i32_w]
        rfl
      refine pure_ (i := 18) (N := some 100) (v := ?_) (a' := ?_) #[true, true, true, true, true, true, true, true, true, true, true, true, true, true, true, true, true, true, true, false, false, false, false, false, false, false] rfl rfl (by kernel_rfl) (fun _ _ _ h => h) (Or.inl ⟨by rfl, ?_⟩) ?_ ?_
      rotate_left
      · intro w'
        go_simp
        with_reducible rfl
      rotate_left
      · simp only [Act.put, List.setIfInBounds_toArray, List.set_cons_zero, List.set_cons_succ, i64_w, i32_w]
        rfl
      refine pure_ (i := 19) (N := some 101) (v := ?_) (a' := ?_) #[true, true, true, true, true, true, true, true, true, true, true, true, true, true, true, true, true, true, true, true, false, false, false, false, false, false] rfl rfl (by kernel_rfl) (fun _ _ _ h => h) (Or.inl ⟨by rfl, ?_⟩) ?_ ?_
      rotate_left
      · intro w'
        go_simp
        with_reducible rfl
      rotate_left
      · simp only [Act.put, List.setIfInBounds_toArray, List.set_cons_zero, List.set_cons_succ, i64_w, i32_w]
        rfl
      refine one_ (i := 20) (N := some 102) #[true, true, true, true, true, true, true, true, true, true, true, true, true, true, true, true, true, true, true, true, true, false, false, false, false, false] rfl rfl (by kernel_rfl) (by decide) (fun K hK => ?_)
      refine goes_ Tryd.func23 (by kernel_rfl) rfl #[.slice A9 l.length c9, .slice A l.length c] (by rfl) rfl rfl (by simp only [List.map_toArray, List.map_cons, List.map_nil]; rfl) ?_
      with_reducible refine (kept_calls A9 A c9 c l _ hHeld.2.2.2.2.2.2.2.2.2.2.2.2.2.2.2.2.2.2.2 HC9.out (Kd.C_below HR.out hHeld.2.2.2.2.2.2.2.2.2.2.2.2.2.2.2.2.2.2.1) HC.out HZ.out).mono ?_
      rintro e w3 ⟨rfl, hb⟩
      refine ⟨_, rfl, ?_⟩
      refine hK.out _ _ ⟨(hb.cell (World.block_lt_of_cell? _ _ hHeld.1)).trans hHeld.1, (hb.cell (World.block_lt_of_cell? _ _ hHeld.2.1)).trans hHeld.2.1, (hb.cell (World.block_lt_of_cell? _ _ hHeld.2.2.1)).trans hHeld.2.2.1, (hb.cell (World.block_lt_of_cell? _ _ hHeld.2.2.2.1)).trans hHeld.2.2.2.1, (hb.cell (World.block_lt_of_cell? _ _ hHeld.2.2.2.2.1)).trans hHeld.2.2.2.2.1, (hb.cell (World.block_lt_of_cell? _ _ hHeld.2.2.2.2.2.1)).trans hHeld.2.2.2.2.2.1, (hb.cell (World.block_lt_of_cell? _ _ hHeld.2.2.2.2.2.2.1)).trans hHeld.2.2.2.2.2.2.1, (hb.cell (World.block_lt_of_cell? _ _ hHeld.2.2.2.2.2.2.2.1)).trans hHeld.2.2.2.2.2.2.2.1, (hb.cell (World.block_lt_of_cell? _ _ hHeld.2.2.2.2.2.2.2.2.1)).trans hHeld.2.2.2.2.2.2.2.2.1, (hb.cell (World.block_lt_of_cell? _ _ hHeld.2.2.2.2.2.2.2.2.2.1)).trans hHeld.2.2.2.2.2.2.2.2.2.1, (hb.cell (World.block_lt_of_cell? _ _ hHeld.2.2.2.2.2.2.2.2.2.2.1)).trans hHeld.2.2.2.2.2.2.2.2.2.2.1, (hb.cell (World.block_lt_of_cell? _ _ hHeld.2.2.2.2.2.2.2.2.2.2.2.1)).trans hHeld.2.2.2.2.2.2.2.2.2.2.2.1, (hb.cell (World.block_lt_of_cell? _ _ hHeld.2.2.2.2.2.2.2.2.2.2.2.2.1)).trans hHeld.2.2.2.2.2.2.2.2.2.2.2.2.1, (hb.cell (World.block_lt_of_cell? _ _ hHeld.2.2.2.2.2.2.2.2.2.2.2.2.2.1)).trans hHeld.2.2.2.2.2.2.2.2.2.2.2.2.2.1, (hb.cell (World.block_lt_of_cell? _ _ hHeld.2.2.2.2.2.2.2.2.2.2.2.2.2.2.1)).trans hHeld.2.2.2.2.2.2.2.2.2.2.2.2.2.2.1, (hb.cell (World.block_lt_of_cell? _ _ hHeld.2.2.2.2.2.2.2.2.2.2.2.2.2.2.2.1)).trans hHeld.2.2.2.2.2.2.2.2.2.2.2.2.2.2.2.1, (hb.cell (World.block_lt_of_cell? _ _ hHeld.2.2.2.2.2.2.2.2.2.2.2.2.2.2.2.2.1)).trans hHeld.2.2.2.2.2.2.2.2.2.2.2.2.2.2.2.2.1, (hb.cell (World.block_lt_of_cell? _ _ hHeld.2.2.2.2.2.2.2.2.2.2.2.2.2.2.2.2.2.1)).trans hHeld.2.2.2.2.2.2.2.2.2.2.2.2.2.2.2.2.2.1, below_then hHeld.2.2.2.2.2.2.2.2.2.2.2.2.2.2.2.2.2.2.1 (hHeld.2.2.2.2.2.2.2.2.2.2.2.2.2.2.2.2.2.2.1).size hb, Kd.C_below hHeld.2.2.2.2.2.2.2.2.2.2.2.2.2.2.2.2.2.2.2 hb⟩ (fun hHeld => ?_)
      clear hK K
      refine norm_ (a' := ?_) ?_ ?_
      rotate_left
      · show Act.put _ (some 102) _ = _
        simp only [Act.put, List.setIfInBounds_toArray, List.set_cons_zero, List.set_cons_succ, i64_w, i32_w]
        rfl
      refine pure_ (i := 21) (N := some 103) (v := ?_) (a' := ?_) #[true, true, true, true, true, true, true, true, true, true, true, true, true, true, true, true, true, true, true, true, true, true, false, false, false, false] rfl rfl (by kernel_rfl) (fun _ _ _ h => h) (Or.inl ⟨by rfl, ?_⟩) ?_ ?_
      rotate_left
      · intro w'
        go_simp
        with_reducible rfl
      rotate_left
      · simp only [Act.put, List.setIfInBounds_toArray, List.set_cons_zero, List.set_cons_succ, i64_w, i32_w]
        rfl
      refine pure_ (i := 22) (N := some 104) (v := ?_) (a' := ?_) #[true, true, true, true, true, true, true, true, true, true, true, true, true, true, true, true, true, true, true, true, true, true, true, false, false, false] rfl rfl (by kernel_rfl) (fun _ _ _ h => h) (Or.inl ⟨by rfl, ?_⟩) ?_ ?_
      rotate_left
      · intro w'
        go_simp
        with_reducible rfl
      rotate_left
      · simp only [Act.put, List.setIfInBounds_toArray, List.set_cons_zero, List.set_cons_succ, i64_w, i32_w]
        rfl
      refine one_ (i := 23) (N := some 105) #[true, true, true, true, true, true, true, true, true, true, true, true, true, true, true, true, true, true, true, true, true, true, true, true, false, false] rfl rfl (by kernel_rfl) (by decide) (fun K hK => ?_)
      refine goes_ Tryd.func24 (by kernel_rfl) rfl #[] (by rfl) rfl rfl (by simp only [List.map_toArray, List.map_cons, List.map_nil]) ?_
      with_reducible refine (first_calls _ (HG.out.below hHeld.2.2.2.2.2.2.2.2.2.2.2.2.2.2.2.2.2.2.1)).mono ?_
      rintro e w3 ⟨rfl, hb⟩
      refine ⟨_, rfl, ?_⟩
      refine hK.out _ _ ⟨(hb.cell (World.block_lt_of_cell? _ _ hHeld.1)).trans hHeld.1, (hb.cell (World.block_lt_of_cell? _ _ hHeld.2.1)).trans hHeld.2.1, (hb.cell (World.block_lt_of_cell? _ _ hHeld.2.2.1)).trans hHeld.2.2.1, (hb.cell (World.block_lt_of_cell? _ _ hHeld.2.2.2.1)).trans hHeld.2.2.2.1, (hb.cell (World.block_lt_of_cell? _ _ hHeld.2.2.2.2.1)).trans hHeld.2.2.2.2.1, (hb.cell (World.block_lt_of_cell? _ _ hHeld.2.2.2.2.2.1)).trans hHeld.2.2.2.2.2.1, (hb.cell (World.block_lt_of_cell? _ _ hHeld.2.2.2.2.2.2.1)).trans hHeld.2.2.2.2.2.2.1, (hb.cell (World.block_lt_of_cell? _ _ hHeld.2.2.2.2.2.2.2.1)).trans hHeld.2.2.2.2.2.2.2.1, (hb.cell (World.block_lt_of_cell? _ _ hHeld.2.2.2.2.2.2.2.2.1)).trans hHeld.2.2.2.2.2.2.2.2.1, (hb.cell (World.block_lt_of_cell? _ _ hHeld.2.2.2.2.2.2.2.2.2.1)).trans hHeld.2.2.2.2.2.2.2.2.2.1, (hb.cell (World.block_lt_of_cell? _ _ hHeld.2.2.2.2.2.2.2.2.2.2.1)).trans hHeld.2.2.2.2.2.2.2.2.2.2.1, (hb.cell (World.block_lt_of_cell? _ _ hHeld.2.2.2.2.2.2.2.2.2.2.2.1)).trans hHeld.2.2.2.2.2.2.2.2.2.2.2.1, (hb.cell (World.block_lt_of_cell? _ _ hHeld.2.2.2.2.2.2.2.2.2.2.2.2.1)).trans hHeld.2.2.2.2.2.2.2.2.2.2.2.2.1, (hb.cell (World.block_lt_of_cell? _ _ hHeld.2.2.2.2.2.2.2.2.2.2.2.2.2.1)).trans hHeld.2.2.2.2.2.2.2.2.2.2.2.2.2.1, (hb.cell (World.block_lt_of_cell? _ _ hHeld.2.2.2.2.2.2.2.2.2.2.2.2.2.2.1)).trans hHeld.2.2.2.2.2.2.2.2.2.2.2.2.2.2.1, (hb.cell (World.block_lt_of_cell? _ _ hHeld.2.2.2.2.2.2.2.2.2.2.2.2.2.2.2.1)).trans hHeld.2.2.2.2.2.2.2.2.2.2.2.2.2.2.2.1, (hb.cell (World.block_lt_of_cell? _ _ hHeld.2.2.2.2.2.2.2.2.2.2.2.2.2.2.2.2.1)).trans hHeld.2.2.2.2.2.2.2.2.2.2.2.2.2.2.2.2.1, (hb.cell (World.block_lt_of_cell? _ _ hHeld.2.2.2.2.2.2.2.2.2.2.2.2.2.2.2.2.2.1)).trans hHeld.2.2.2.2.2.2.2.2.2.2.2.2.2.2.2.2.2.1, below_then hHeld.2.2.2.2.2.2.2.2.2.2.2.2.2.2.2.2.2.2.1 (hHeld.2.2.2.2.2.2.2.2.2.2.2.2.2.2.2.2.2.2.1).size hb, Kd.C_below hHeld.2.2.2.2.2.2.2.2.2.2.2.2.2.2.2.2.2.2.2 hb⟩ (fun hHeld => ?_)
      clear hK K
      refine norm_ (a' := ?_) ?_ ?_
      rotate_left
      · show Act.put _ (some 105) _ = _
        simp only [Act.put, List.setIfInBounds_toArray, List.set_cons_zero, List.set_cons_succ, i64_w, i32_w]
        rfl
      refine pure_ (i := 24) (N := some 106) (v := ?_) (a' := ?_) #[true, true, true, true, true, true, true, true, true, true, true, true, true, true, true, true, true, true, true, true, true, true, true, true, true, false] rfl rfl (by kernel_rfl) (fun _ _ _ h => h) (Or.inl ⟨by rfl, ?_⟩) ?_ ?_
      rotate_left
      · intro w'
        go_simp
        with_reducible rfl
      rotate_left
      · simp only [Act.put, List.setIfInBounds_toArray, List.set_cons_zero, List.set_cons_succ, i64_w, i32_w]
        rfl
      refine pure_ (i := 25) (N := some 8) (v := ?_) (a' := ?_) #[true, true, true, true, true, true, true, true, true, true, true, true, true, true, true, true, true, true, true, true, true, true, true, true, true, true] rfl rfl (by kernel_rfl) (fun _ _ _ h => h) (Or.inl ⟨by rfl, ?_⟩) ?_ ?_
      rotate_left
      · intro w'
        go_simp
        with_reducible rfl
      rotate_left
      · simp only [Act.put, List.setIfInBounds_toArray, List.set_cons_zero, List.set_cons_succ, i64_w, i32_w]
        rfl
      refine done_ (by kernel_rfl) ?_
      go_wp2_with fail
      go_ret
      exact ⟨rfl, hHeld.2.2.2.2.2.2.2.2.2.2.2.2.2.2.2.2.2.2.1⟩
end Go.Proofs.YtcjphkgmcfpfeaaDoor.MS
