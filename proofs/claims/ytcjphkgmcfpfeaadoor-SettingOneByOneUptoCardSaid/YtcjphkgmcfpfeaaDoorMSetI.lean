/- The law SettingOneByOne, walked. The package's variable holds what the program lays; the lists fit in memory. -/
import Derived.Test.YtcjphkgmcfpfeaaDoorMSetP
namespace Go.Proofs.YtcjphkgmcfpfeaaDoor.MS
open Go Go.RowKit Go.Proofs.YtcjphkgmcfpfeaaDoorW.PrintWords Go.Proofs.YtcjphkgmcfpfeaaDoorW.PrintLast Go.Proofs.YtcjphkgmcfpfeaaDoorW.PrintMore Go.Proofs.YtcjphkgmcfpfeaaDoor.QL
set_option linter.unusedSimpArgs false
set_option linter.unusedVariables false
set_option maxHeartbeats 40000000
set_option maxRecDepth 100000
attribute [local go_sem high] eqA23 eqA28
theorem apply_s1 (s : St) (A : Option Addr) (c : Nat) (l : List S28) (cl : Bool) (s2 : St) (c2 : Int) (w : World) (hr : Kd.C k28 w A l.length l) (hc : l.length ≤ c) (h : apply cl s l = (s2, c2)) :
    Calls Tryd.prog 11 #[.agg #[.int .i64 s.a, .int .i64 s.b, .int .i64 s.c, .int .i64 s.d, .int .i64 s.e, .int .i64 s.f], .slice A l.length c, .bool cl] w fun e w' => e = .returned (.tuple #[.agg #[.int .i64 s2.a, .int .i64 s2.b, .int .i64 s2.c, .int .i64 s2.d, .int .i64 s2.e, .int .i64 s2.f], .int .i64 c2]) ∧ Below w.heap.size w w' := by
  have h1 := apply_calls s A c l cl w hr hc
  rw [h] at h1
  exact h1
theorem apply_s1n (s : St) (A : Option Addr) (c n : Nat) (l : List S28) (cl : Bool) (s2 : St) (c2 : Int) (w : World) (hn : n = l.length) (hr : Kd.C k28 w A l.length l) (hc : l.length ≤ c) (h : apply cl s l = (s2, c2)) :
    Calls Tryd.prog 11 #[.agg #[.int .i64 s.a, .int .i64 s.b, .int .i64 s.c, .int .i64 s.d, .int .i64 s.e, .int .i64 s.f], .slice A n c, .bool cl] w fun e w' => e = .returned (.tuple #[.agg #[.int .i64 s2.a, .int .i64 s2.b, .int .i64 s2.c, .int .i64 s2.d, .int .i64 s2.e, .int .i64 s2.f], .int .i64 c2]) ∧ Below w.heap.size w w' := by
  subst hn
  exact apply_s1 s A c l cl s2 c2 w hr hc h
theorem apply_z (s : St) (A : Option Addr) (c : Nat) (l : List S28) (cl : Bool) (c2 : Int) (w : World) (hr : Kd.C k28 w A l.length l) (hc : l.length ≤ c) (h : apply cl s l = (St.zero, c2)) :
    Calls Tryd.prog 11 #[.agg #[.int .i64 s.a, .int .i64 s.b, .int .i64 s.c, .int .i64 s.d, .int .i64 s.e, .int .i64 s.f], .slice A l.length c, .bool cl] w fun e w' => e = .returned (.tuple #[.agg #[.int .i64 0, .int .i64 0, .int .i64 0, .int .i64 0, .int .i64 0, .int .i64 0], .int .i64 c2]) ∧ Below w.heap.size w w' := by
  have h1 := apply_calls s A c l cl w hr hc
  rw [h] at h1
  exact h1
theorem apply_zn (s : St) (A : Option Addr) (c n : Nat) (l : List S28) (cl : Bool) (c2 : Int) (w : World) (hn : n = l.length) (hr : Kd.C k28 w A l.length l) (hc : l.length ≤ c) (h : apply cl s l = (St.zero, c2)) :
    Calls Tryd.prog 11 #[.agg #[.int .i64 s.a, .int .i64 s.b, .int .i64 s.c, .int .i64 s.d, .int .i64 s.e, .int .i64 s.f], .slice A n c, .bool cl] w fun e w' => e = .returned (.tuple #[.agg #[.int .i64 0, .int .i64 0, .int .i64 0, .int .i64 0, .int .i64 0, .int .i64 0], .int .i64 c2]) ∧ Below w.heap.size w w' := by
  subst hn
  exact apply_z s A c l cl c2 w hr hc h
theorem made_calls (s : St) (s2 : St) (h : made s = s2) (w : World) : Calls Tryd.prog 30 #[.agg #[.int .i64 s.a, .int .i64 s.b, .int .i64 s.c, .int .i64 s.d, .int .i64 s.e, .int .i64 s.f]] w fun e w' => e = .returned (.agg #[.int .i64 s2.a, .int .i64 s2.b, .int .i64 s2.c, .int .i64 s2.d, .int .i64 s2.e, .int .i64 s2.f]) ∧ Below w.heap.size w w' := by
  subst h
  exact heraldlaw08_made.calls s.a s.b s.c s.d s.e s.f _ _ _ _ _ _ w rfl
theorem take_any (l : List S28) (k j : Nat) (id : Int) (hk : k + 1 ≤ j) (hj : j < l.length) : (((l.take (j + 1)).drop (k + 1)).any (fun q => q.f0 == id)) = ((((l.take j).drop (k + 1)).any (fun q => q.f0 == id)) || ((rd_T28 l (j : Int)).f0 == id)) := by
  have e : rd_T28 l (j : Int) = l[j] := by simp [rd_T28, hj]
  rw [e, List.take_succ_eq_append_getElem hj, List.drop_append_of_le_length (by simp; omega), List.any_append]
  simp
theorem last_step (l : List S28) (k : Nat) (hk : k < l.length) : lastOf (l.drop k) = if ((l.drop (k + 1)).any (fun q => q.f0 == (rd_T28 l (k : Int)).f0)) = true then lastOf (l.drop (k + 1)) else rd_T28 l (k : Int) :: lastOf (l.drop (k + 1)) := by
  have e : rd_T28 l (k : Int) = l[k] := by simp [rd_T28, hk]
  rw [List.drop_eq_getElem_cons hk, e]
  rfl
theorem one_bad (s0 s1 : St) (A1 : Option Addr) (c1 : Nat) (l : List S28) (A2 : Option Addr) (c2 : Nat) (k : List S28) (cl : Bool) (cc : Int) (hcc : cc ≠ 0) (hA : apply cl s1 l = (St.zero, cc)) (hT : apply cl s1 (l ++ k) = (St.zero, cc)) (hbad : badL cl l = true) (hs1 : made s0 = s1) (w : World) (hG : GL w) (hr1 : Kd.C k28 w A1 l.length l) (hr2 : Kd.C k28 w A2 k.length k) (hc1 : l.length ≤ c1) (hc2 : k.length ≤ c2) (hz1 : l.length * 16 ≤ 140737488351232) (hz2 : (l.length + k.length) * 16 ≤ 140737488351232) :
    Calls Tryd.prog 6 #[.agg #[.int .i64 s0.a, .int .i64 s0.b, .int .i64 s0.c, .int .i64 s0.d, .int .i64 s0.e, .int .i64 s0.f], .slice A1 l.length c1, .slice A2 k.length c2, .bool cl] w fun e w' => e = .returned (.bool true) ∧ Below w.heap.size w w' := by
  have HR1 := Aside0.mk hr1
  have HR2 := Aside0.mk hr2
  have HC1 := Aside0.mk hc1
  have HC2 := Aside0.mk hc2
  have HZ1 := Aside0.mk hz1
  have HZ2 := Aside0.mk hz2
  have HG := Aside0.mk hG
  have HA := Aside0.mk hA
  have HT := Aside0.mk hT
  have HS1 := Aside0.mk hs1
  have HBAD := Aside0.mk hbad
  have hl63 : l.length ≤ 9223372036854775807 := hr1.2.1
  have HB := Aside0.mk (Below.refl w.heap.size w)
  clear hr1 hr2 hc1 hc2 hz1 hz2 hG hA hT hs1 hbad
  go_enter Tryd.func6, Tryd.ntmps6
  go_upto_region 1 with fail
  have H4 := Aside0.mk (blk_new w (.cells #[.int .i64 s0.a, .int .i64 s0.b, .int .i64 s0.c, .int .i64 s0.d, .int .i64 s0.e, .int .i64 s0.f] 23))
  have y0 := blk_cell H4.out 0
  have y1 := blk_cell H4.out 1
  have y2 := blk_cell H4.out 2
  have y3 := blk_cell H4.out 3
  have y4 := blk_cell H4.out 4
  have y5 := blk_cell H4.out 5
  go_upto_region 2 with (first
    | (go_at_call 30; refine (made_calls s0 s1 HS1.out _).mono ?_; rintro e w1 ⟨rfl, hb⟩; have HB1 := Aside0.mk (below_then (below_alloc HB.out (.cells #[.int .i64 s0.a, .int .i64 s0.b, .int .i64 s0.c, .int .i64 s0.d, .int .i64 s0.e, .int .i64 s0.f] 23)) (by simp) hb); have H41 := Aside0.mk (blk_below H4.out hb); clear hb; have z0 : w1.cell? ⟨w.heap.size, 0, none⟩ = some (.int .i64 s0.a) := blk_cell H41.out 0; have z1 : w1.cell? ⟨w.heap.size, 1, none⟩ = some (.int .i64 s0.b) := blk_cell H41.out 1; have z2 : w1.cell? ⟨w.heap.size, 2, none⟩ = some (.int .i64 s0.c) := blk_cell H41.out 2; have z3 : w1.cell? ⟨w.heap.size, 3, none⟩ = some (.int .i64 s0.d) := blk_cell H41.out 3; have z4 : w1.cell? ⟨w.heap.size, 4, none⟩ = some (.int .i64 s0.e) := blk_cell H41.out 4; have z5 : w1.cell? ⟨w.heap.size, 5, none⟩ = some (.int .i64 s0.f) := blk_cell H41.out 5; have zf0 : w1.frozen? ⟨w.heap.size, 0, none⟩ = false := blk_frozen H41.out 0; have zf1 : w1.frozen? ⟨w.heap.size, 1, none⟩ = false := blk_frozen H41.out 1; have zf2 : w1.frozen? ⟨w.heap.size, 2, none⟩ = false := blk_frozen H41.out 2; have zf3 : w1.frozen? ⟨w.heap.size, 3, none⟩ = false := blk_frozen H41.out 3; have zf4 : w1.frozen? ⟨w.heap.size, 4, none⟩ = false := blk_frozen H41.out 4; have zf5 : w1.frozen? ⟨w.heap.size, 5, none⟩ = false := blk_frozen H41.out 5))
  clear y0 y1 y2 y3 y4 y5
  clear z0 z1 z2 z3 z4 z5 zf0 zf1 zf2 zf3 zf4 zf5
  generalize hW1 : ((((((w1.setCell ⟨w.heap.size, 0, none⟩ (.int .i64 s1.a)).setCell ⟨w.heap.size, 1, none⟩ (.int .i64 s1.b)).setCell ⟨w.heap.size, 2, none⟩ (.int .i64 s1.c)).setCell ⟨w.heap.size, 3, none⟩ (.int .i64 s1.d)).setCell ⟨w.heap.size, 4, none⟩ (.int .i64 s1.e)).setCell ⟨w.heap.size, 5, none⟩ (.int .i64 s1.f)) = W1
  have B41 : Aside0 (W1.heap[w.heap.size]? = some (.cells #[.int .i64 s1.a, .int .i64 s1.b, .int .i64 s1.c, .int .i64 s1.d, .int .i64 s1.e, .int .i64 s1.f] 23 (0, 0))) := ⟨by rw [← hW1]; simpa using (blk_set (blk_set (blk_set (blk_set (blk_set (blk_set H41.out 0 (.int .i64 s1.a)) 1 (.int .i64 s1.b)) 2 (.int .i64 s1.c)) 3 (.int .i64 s1.d)) 4 (.int .i64 s1.e)) 5 (.int .i64 s1.f))⟩
  have L1 : Aside0 (Below w.heap.size w W1) := ⟨by rw [← hW1]; exact ((((((HB1.out.setCell (p := ⟨w.heap.size, 0, none⟩) (Nat.le_refl _) _).setCell (p := ⟨w.heap.size, 1, none⟩) (Nat.le_refl _) _).setCell (p := ⟨w.heap.size, 2, none⟩) (Nat.le_refl _) _).setCell (p := ⟨w.heap.size, 3, none⟩) (Nat.le_refl _) _).setCell (p := ⟨w.heap.size, 4, none⟩) (Nat.le_refl _) _).setCell (p := ⟨w.heap.size, 5, none⟩) (Nat.le_refl _) _)⟩
  clear hW1 H4 H41 HB1
  have z0 : W1.cell? ⟨w.heap.size, 0, none⟩ = some (.int .i64 s1.a) := blk_cell B41.out 0
  have z1 : W1.cell? ⟨w.heap.size, 1, none⟩ = some (.int .i64 s1.b) := blk_cell B41.out 1
  have z2 : W1.cell? ⟨w.heap.size, 2, none⟩ = some (.int .i64 s1.c) := blk_cell B41.out 2
  have z3 : W1.cell? ⟨w.heap.size, 3, none⟩ = some (.int .i64 s1.d) := blk_cell B41.out 3
  have z4 : W1.cell? ⟨w.heap.size, 4, none⟩ = some (.int .i64 s1.e) := blk_cell B41.out 4
  have z5 : W1.cell? ⟨w.heap.size, 5, none⟩ = some (.int .i64 s1.f) := blk_cell B41.out 5
  go_upto_region 3 with (first
    | (go_at_call 11; refine (apply_z s1 A1 c1 l cl cc _ (Kd.C_below HR1.out L1.out) HC1.out HA.out).mono ?_; rintro e w2 ⟨rfl, hb⟩; have HB2 := Aside0.mk hb; clear hb))
  clear z0 z1 z2 z3 z4 z5
  obtain ⟨W2, hW2⟩ : ∃ W, w2.alloc (.cells #[.int .i64 0, .int .i64 0, .int .i64 0, .int .i64 0, .int .i64 0, .int .i64 0] 23) = W := ⟨_, rfl⟩
  obtain ⟨b9, hb9⟩ : ∃ b, w2.heap.size = b := ⟨_, rfl⟩
  have X2 : Aside0 (Below W1.heap.size W1 W2) := ⟨by rw [← hW2]; exact below_alloc HB2.out _⟩
  have B9 : Aside0 (W2.heap[b9]? = some (.cells #[.int .i64 0, .int .i64 0, .int .i64 0, .int .i64 0, .int .i64 0, .int .i64 0] 23 (0, 0))) := ⟨by rw [← hW2, ← hb9]; exact blk_new w2 _⟩
  have B42 := Aside0.mk (blk_below B41.out X2.out)
  have L2 := Aside0.mk (below_then L1.out L1.out.size X2.out)
  rw [hW2, hb9]
  clear hW2 hb9 HB2
  go_upto_region 4 with (first
    | ((with_reducible refine gate_builtin (b := .append) (xs := #[.const (.slice none 0 0), .tmp 33]) rfl ?_); at_builtin; refine Kd.R_append_rows k28 (w0 := W2) W2.heap.size rfl (.const (.slice none 0 0)) (.tmp 33) 24 28 (.agg #[.int .i64 0, .int .i64 0]) 16 rfl Tryd.underlying24 info28 rfl (by decide) (by omega) (.slice none 0 0) [] l A1 l.length c1 (fun k => W2.heap.size ≤ k) (fun _ => False) rfl rfl ?aO ?aR (fun _ _ h => h) (fun _ h => h.elim) ?aF ?aB ?aS ?aL ?_; (case aO => exact Kd.R_nil _ _ _ _ _); (case aR => exact Kd.C_below HR1.out L2.out); (case aF => exact fun _ hk => hk); (case aB => exact Below.refl _ _); (case aS => exact Nat.le_refl _); (case aL => have := HZ1.out; simp; omega); intro v34 w36 ho hb hg hat; rw [List.nil_append] at ho; have HO34 := Aside0.mk ho; have L34 := Aside0.mk hb; clear ho hb hg hat)
    | ((with_reducible refine gate_builtin (b := .append) (xs := #[.tmp 34, .tmp 35]) rfl ?_); at_builtin; refine Kd.R_append_rows k28 (w0 := W2) W2.heap.size rfl (.tmp 34) (.tmp 35) 24 28 (.agg #[.int .i64 0, .int .i64 0]) 16 rfl Tryd.underlying24 info28 rfl (by decide) (by omega) v34 l k A2 k.length c2 (fun k => W2.heap.size ≤ k) (fun _ => False) rfl rfl ?aO ?aR (fun _ _ h => h) (fun _ h => h.elim) ?aF ?aB ?aS ?aL ?_; (case aO => exact HO34.out); (case aR => exact Kd.C_below HR2.out (below_then L2.out L2.out.size L34.out)); (case aF => exact fun _ hk => Nat.le_trans L34.out.size hk); (case aB => exact L34.out); (case aS => exact L34.out.size); (case aL => have := HZ2.out; omega); intro v36 w36b ho hb hg hat; obtain ⟨A36, c36, rfl, hl36, hc36⟩ := Kd.R_reads ho; have HL36 := Aside0.mk hl36; have HC36 := Aside0.mk hc36; have L36 := Aside0.mk hb; clear ho hb hg hat hl36 hc36))
  have z0 : w36b.cell? ⟨w.heap.size, 0, none⟩ = some (.int .i64 s1.a) := blk_cell (blk_below B42.out L36.out) 0
  have z1 : w36b.cell? ⟨w.heap.size, 1, none⟩ = some (.int .i64 s1.b) := blk_cell (blk_below B42.out L36.out) 1
  have z2 : w36b.cell? ⟨w.heap.size, 2, none⟩ = some (.int .i64 s1.c) := blk_cell (blk_below B42.out L36.out) 2
  have z3 : w36b.cell? ⟨w.heap.size, 3, none⟩ = some (.int .i64 s1.d) := blk_cell (blk_below B42.out L36.out) 3
  have z4 : w36b.cell? ⟨w.heap.size, 4, none⟩ = some (.int .i64 s1.e) := blk_cell (blk_below B42.out L36.out) 4
  have z5 : w36b.cell? ⟨w.heap.size, 5, none⟩ = some (.int .i64 s1.f) := blk_cell (blk_below B42.out L36.out) 5
  go_upto_region 5 with (first
    | (go_at_call 11; refine (apply_zn s1 A36 c36 (l.length + k.length) (l ++ k) cl cc _ List.length_append.symm HC36.out HL36.out HT.out).mono ?_; rintro e w4 ⟨rfl, hb⟩; have HB4 := Aside0.mk hb; clear hb))
  clear z0 z1 z2 z3 z4 z5
  obtain ⟨W, hW⟩ : ∃ W, w4.alloc (.cells #[.int .i64 0, .int .i64 0, .int .i64 0, .int .i64 0, .int .i64 0, .int .i64 0] 23) = W := ⟨_, rfl⟩
  obtain ⟨b12, hb12⟩ : ∃ b, w4.heap.size = b := ⟨_, rfl⟩
  have X4 : Aside0 (Below W2.heap.size W2 W) := ⟨by rw [← hW]; exact below_alloc (below_then L36.out L36.out.size HB4.out) _⟩
  have B12 : Aside0 (W.heap[b12]? = some (.cells #[.int .i64 0, .int .i64 0, .int .i64 0, .int .i64 0, .int .i64 0, .int .i64 0] 23 (0, 0))) := ⟨by rw [← hW, ← hb12]; exact blk_new w4 _⟩
  have B4 := Aside0.mk (blk_below B42.out X4.out)
  replace B9 := Aside0.mk (blk_below B9.out X4.out)
  have L := Aside0.mk (below_then L2.out L2.out.size X4.out)
  rw [hW, hb12]
  clear hW hb12 HB4 HC36 HL36 X2 X4 B41 B42 L1 L2 L34 L36
  try clear HO34
  go_wp2_with fail
  go_loopw [14, 15] (fun v14 i w' => ∃ (n : Nat), n ≤ l.length ∧ i = .int .i64 n ∧ v14 = .bool (badL cl (l.take n)) ∧ Aside0 (Below W.heap.size W w')) (fun _ i _ => l.length - (intOf i).toNat)
  case atStart => exact ⟨0, Nat.zero_le _, rfl, rfl, ⟨Below.refl _ _⟩⟩
  case round =>
    obtain ⟨n, hn, rfl, rfl, HW⟩ := hrel
    by_cases hlt : n < l.length
    · have p0 : (0 : Int) ≤ n := by omega
      have q0 : (n : Int) < (l.length : Int) := by omega
      have hst := badL_take cl l n hlt
      cases hb : badL cl (l.take n)
      · obtain ⟨ad, e0, y0, y1⟩ := at_T28 HR1.out n p0 q0
        cases e0
        replace y0 := (HW.out.cell (World.block_lt_of_cell? _ _ ((L.out.cell (World.block_lt_of_cell? w _ y0)).trans y0))).trans ((L.out.cell (World.block_lt_of_cell? w _ y0)).trans y0)
        replace y1 := (HW.out.cell (World.block_lt_of_cell? _ _ ((L.out.cell (World.block_lt_of_cell? w _ y1)).trans y1))).trans ((L.out.cell (World.block_lt_of_cell? w _ y1)).trans y1)
        obtain ⟨id, hid⟩ : ∃ K, (rd_T28 l (n : Int)).f0 = K := ⟨_, rfl⟩
        obtain ⟨v, hv⟩ : ∃ K, (rd_T28 l (n : Int)).f1 = K := ⟨_, rfl⟩
        simp only [Int.toNat_natCast] at y0 y1
        rw [hid] at y0 hst
        rw [hv] at y1 hst
        rw [hb] at hst
        have HST := Aside0.mk hst
        clear hid hv hst
        obtain ⟨kv, hkv⟩ := valid_f id v cl
        have HKV := Aside0.mk hkv
        clear hkv
        go_wp2_with (first
          | (go_at_call 9; refine (setting_Valid.calls kv id v cl (valid id v cl) _ HKV.out).mono ?_; rintro e w9 ⟨rfl, hb9⟩; have HB9 := Aside0.mk hb9; clear hb9))
        go_roundw
        case rel => exact ⟨n + 1, by omega, by go_num, by rw [HST.out]; simp, ⟨below_then HW.out HW.out.size HB9.out⟩⟩
        case measure => simp [intOf]; omega
      · rw [hb] at hst
        have HST := Aside0.mk hst
        clear hst
        go_wp2_with fail
        go_roundw
        case rel => exact ⟨n + 1, by omega, by go_num, by rw [HST.out]; rfl, HW⟩
        case measure => simp [intOf]; omega
    · have hlt2 : decide ((n : Int) < (l.length : Int)) = false := decide_eq_false (by omega)
      have hn2 : n = l.length := by omega
      have hbb : badL cl (l.take n) = true := by rw [hn2, List.take_length]; exact HBAD.out
      rw [hbb]
      clear hbb
      have hcb : (cc == 0) = false := beq_eq_false_iff_ne.mpr hcc
      have hcb2 : (cc != 0) = true := by simp [hcc]
      have HCC := Aside0.mk hcc
      clear hcc
      go_upto_region 12 with (first
        | (go_at_call 24; refine (first_calls _ (HG.out.below (below_then L.out L.out.size HW.out))).mono ?_; rintro e w24 ⟨rfl, hb24⟩; have HB24 := Aside0.mk (below_then HW.out HW.out.size hb24); clear hb24))
      have N9 := Aside0.mk (blk_below B9.out HB24.out)
      have N12 := Aside0.mk (blk_below B12.out HB24.out)
      have x0 : w24.cell? ⟨b9, 0, none⟩ = some (.int .i64 0) := blk_cell N9.out 0
      have x1 : w24.cell? ⟨b9, 1, none⟩ = some (.int .i64 0) := blk_cell N9.out 1
      have x2 : w24.cell? ⟨b9, 2, none⟩ = some (.int .i64 0) := blk_cell N9.out 2
      have x3 : w24.cell? ⟨b9, 3, none⟩ = some (.int .i64 0) := blk_cell N9.out 3
      have x4 : w24.cell? ⟨b9, 4, none⟩ = some (.int .i64 0) := blk_cell N9.out 4
      have x5 : w24.cell? ⟨b9, 5, none⟩ = some (.int .i64 0) := blk_cell N9.out 5
      have y0 : w24.cell? ⟨b12, 0, none⟩ = some (.int .i64 0) := blk_cell N12.out 0
      have y1 : w24.cell? ⟨b12, 1, none⟩ = some (.int .i64 0) := blk_cell N12.out 1
      have y2 : w24.cell? ⟨b12, 2, none⟩ = some (.int .i64 0) := blk_cell N12.out 2
      have y3 : w24.cell? ⟨b12, 3, none⟩ = some (.int .i64 0) := blk_cell N12.out 3
      have y4 : w24.cell? ⟨b12, 4, none⟩ = some (.int .i64 0) := blk_cell N12.out 4
      have y5 : w24.cell? ⟨b12, 5, none⟩ = some (.int .i64 0) := blk_cell N12.out 5
      go_wp2_with fail
      go_ret
      exact ⟨rfl, below_then L.out L.out.size HB24.out⟩
theorem one_good (s0 s1 : St) (A1 : Option Addr) (c1 : Nat) (l : List S28) (A2 : Option Addr) (c2 : Nat) (k : List S28) (cl : Bool) (s2 t2 : St) (dd : Int) (hA : apply cl s1 l = (s2, 0)) (hT : apply cl s1 (l ++ k) = (t2, dd)) (hU : apply cl s2 k = (t2, dd)) (hbad : badL cl l = false) (hs1 : made s0 = s1) (w : World) (hG : GL w) (hr1 : Kd.C k28 w A1 l.length l) (hr2 : Kd.C k28 w A2 k.length k) (hc1 : l.length ≤ c1) (hc2 : k.length ≤ c2) (hz1 : l.length * 16 ≤ 140737488351232) (hz2 : (l.length + k.length) * 16 ≤ 140737488351232) :
    Calls Tryd.prog 6 #[.agg #[.int .i64 s0.a, .int .i64 s0.b, .int .i64 s0.c, .int .i64 s0.d, .int .i64 s0.e, .int .i64 s0.f], .slice A1 l.length c1, .slice A2 k.length c2, .bool cl] w fun e w' => e = .returned (.bool true) ∧ Below w.heap.size w w' := by
  have HR1 := Aside0.mk hr1
  have HR2 := Aside0.mk hr2
  have HC1 := Aside0.mk hc1
  have HC2 := Aside0.mk hc2
  have HZ1 := Aside0.mk hz1
  have HZ2 := Aside0.mk hz2
  have HG := Aside0.mk hG
  have HA := Aside0.mk hA
  have HT := Aside0.mk hT
  have HS1 := Aside0.mk hs1
  have HBAD := Aside0.mk hbad
  have HU := Aside0.mk hU
  have hl63 : l.length ≤ 9223372036854775807 := hr1.2.1
  have HB := Aside0.mk (Below.refl w.heap.size w)
  clear hr1 hr2 hc1 hc2 hz1 hz2 hG hA hT hs1 hbad hU
  go_enter Tryd.func6, Tryd.ntmps6
  go_upto_region 1 with fail
  have H4 := Aside0.mk (blk_new w (.cells #[.int .i64 s0.a, .int .i64 s0.b, .int .i64 s0.c, .int .i64 s0.d, .int .i64 s0.e, .int .i64 s0.f] 23))
  have y0 := blk_cell H4.out 0
  have y1 := blk_cell H4.out 1
  have y2 := blk_cell H4.out 2
  have y3 := blk_cell H4.out 3
  have y4 := blk_cell H4.out 4
  have y5 := blk_cell H4.out 5
  go_upto_region 2 with (first
    | (go_at_call 30; refine (made_calls s0 s1 HS1.out _).mono ?_; rintro e w1 ⟨rfl, hb⟩; have HB1 := Aside0.mk (below_then (below_alloc HB.out (.cells #[.int .i64 s0.a, .int .i64 s0.b, .int .i64 s0.c, .int .i64 s0.d, .int .i64 s0.e, .int .i64 s0.f] 23)) (by simp) hb); have H41 := Aside0.mk (blk_below H4.out hb); clear hb; have z0 : w1.cell? ⟨w.heap.size, 0, none⟩ = some (.int .i64 s0.a) := blk_cell H41.out 0; have z1 : w1.cell? ⟨w.heap.size, 1, none⟩ = some (.int .i64 s0.b) := blk_cell H41.out 1; have z2 : w1.cell? ⟨w.heap.size, 2, none⟩ = some (.int .i64 s0.c) := blk_cell H41.out 2; have z3 : w1.cell? ⟨w.heap.size, 3, none⟩ = some (.int .i64 s0.d) := blk_cell H41.out 3; have z4 : w1.cell? ⟨w.heap.size, 4, none⟩ = some (.int .i64 s0.e) := blk_cell H41.out 4; have z5 : w1.cell? ⟨w.heap.size, 5, none⟩ = some (.int .i64 s0.f) := blk_cell H41.out 5; have zf0 : w1.frozen? ⟨w.heap.size, 0, none⟩ = false := blk_frozen H41.out 0; have zf1 : w1.frozen? ⟨w.heap.size, 1, none⟩ = false := blk_frozen H41.out 1; have zf2 : w1.frozen? ⟨w.heap.size, 2, none⟩ = false := blk_frozen H41.out 2; have zf3 : w1.frozen? ⟨w.heap.size, 3, none⟩ = false := blk_frozen H41.out 3; have zf4 : w1.frozen? ⟨w.heap.size, 4, none⟩ = false := blk_frozen H41.out 4; have zf5 : w1.frozen? ⟨w.heap.size, 5, none⟩ = false := blk_frozen H41.out 5))
  clear y0 y1 y2 y3 y4 y5
  clear z0 z1 z2 z3 z4 z5 zf0 zf1 zf2 zf3 zf4 zf5
  generalize hW1 : ((((((w1.setCell ⟨w.heap.size, 0, none⟩ (.int .i64 s1.a)).setCell ⟨w.heap.size, 1, none⟩ (.int .i64 s1.b)).setCell ⟨w.heap.size, 2, none⟩ (.int .i64 s1.c)).setCell ⟨w.heap.size, 3, none⟩ (.int .i64 s1.d)).setCell ⟨w.heap.size, 4, none⟩ (.int .i64 s1.e)).setCell ⟨w.heap.size, 5, none⟩ (.int .i64 s1.f)) = W1
  have B41 : Aside0 (W1.heap[w.heap.size]? = some (.cells #[.int .i64 s1.a, .int .i64 s1.b, .int .i64 s1.c, .int .i64 s1.d, .int .i64 s1.e, .int .i64 s1.f] 23 (0, 0))) := ⟨by rw [← hW1]; simpa using (blk_set (blk_set (blk_set (blk_set (blk_set (blk_set H41.out 0 (.int .i64 s1.a)) 1 (.int .i64 s1.b)) 2 (.int .i64 s1.c)) 3 (.int .i64 s1.d)) 4 (.int .i64 s1.e)) 5 (.int .i64 s1.f))⟩
  have L1 : Aside0 (Below w.heap.size w W1) := ⟨by rw [← hW1]; exact ((((((HB1.out.setCell (p := ⟨w.heap.size, 0, none⟩) (Nat.le_refl _) _).setCell (p := ⟨w.heap.size, 1, none⟩) (Nat.le_refl _) _).setCell (p := ⟨w.heap.size, 2, none⟩) (Nat.le_refl _) _).setCell (p := ⟨w.heap.size, 3, none⟩) (Nat.le_refl _) _).setCell (p := ⟨w.heap.size, 4, none⟩) (Nat.le_refl _) _).setCell (p := ⟨w.heap.size, 5, none⟩) (Nat.le_refl _) _)⟩
  clear hW1 H4 H41 HB1
  have z0 : W1.cell? ⟨w.heap.size, 0, none⟩ = some (.int .i64 s1.a) := blk_cell B41.out 0
  have z1 : W1.cell? ⟨w.heap.size, 1, none⟩ = some (.int .i64 s1.b) := blk_cell B41.out 1
  have z2 : W1.cell? ⟨w.heap.size, 2, none⟩ = some (.int .i64 s1.c) := blk_cell B41.out 2
  have z3 : W1.cell? ⟨w.heap.size, 3, none⟩ = some (.int .i64 s1.d) := blk_cell B41.out 3
  have z4 : W1.cell? ⟨w.heap.size, 4, none⟩ = some (.int .i64 s1.e) := blk_cell B41.out 4
  have z5 : W1.cell? ⟨w.heap.size, 5, none⟩ = some (.int .i64 s1.f) := blk_cell B41.out 5
  go_upto_region 3 with (first
    | (go_at_call 11; refine (apply_s1 s1 A1 c1 l cl s2 0 _ (Kd.C_below HR1.out L1.out) HC1.out HA.out).mono ?_; rintro e w2 ⟨rfl, hb⟩; have HB2 := Aside0.mk hb; clear hb))
  clear z0 z1 z2 z3 z4 z5
  obtain ⟨W2, hW2⟩ : ∃ W, w2.alloc (.cells #[.int .i64 s2.a, .int .i64 s2.b, .int .i64 s2.c, .int .i64 s2.d, .int .i64 s2.e, .int .i64 s2.f] 23) = W := ⟨_, rfl⟩
  obtain ⟨b9, hb9⟩ : ∃ b, w2.heap.size = b := ⟨_, rfl⟩
  have X2 : Aside0 (Below W1.heap.size W1 W2) := ⟨by rw [← hW2]; exact below_alloc HB2.out _⟩
  have B9 : Aside0 (W2.heap[b9]? = some (.cells #[.int .i64 s2.a, .int .i64 s2.b, .int .i64 s2.c, .int .i64 s2.d, .int .i64 s2.e, .int .i64 s2.f] 23 (0, 0))) := ⟨by rw [← hW2, ← hb9]; exact blk_new w2 _⟩
  have B42 := Aside0.mk (blk_below B41.out X2.out)
  have L2 := Aside0.mk (below_then L1.out L1.out.size X2.out)
  rw [hW2, hb9]
  clear hW2 hb9 HB2
  go_upto_region 4 with (first
    | ((with_reducible refine gate_builtin (b := .append) (xs := #[.const (.slice none 0 0), .tmp 33]) rfl ?_); at_builtin; refine Kd.R_append_rows k28 (w0 := W2) W2.heap.size rfl (.const (.slice none 0 0)) (.tmp 33) 24 28 (.agg #[.int .i64 0, .int .i64 0]) 16 rfl Tryd.underlying24 info28 rfl (by decide) (by omega) (.slice none 0 0) [] l A1 l.length c1 (fun k => W2.heap.size ≤ k) (fun _ => False) rfl rfl ?aO ?aR (fun _ _ h => h) (fun _ h => h.elim) ?aF ?aB ?aS ?aL ?_; (case aO => exact Kd.R_nil _ _ _ _ _); (case aR => exact Kd.C_below HR1.out L2.out); (case aF => exact fun _ hk => hk); (case aB => exact Below.refl _ _); (case aS => exact Nat.le_refl _); (case aL => have := HZ1.out; simp; omega); intro v34 w36 ho hb hg hat; rw [List.nil_append] at ho; have HO34 := Aside0.mk ho; have L34 := Aside0.mk hb; clear ho hb hg hat)
    | ((with_reducible refine gate_builtin (b := .append) (xs := #[.tmp 34, .tmp 35]) rfl ?_); at_builtin; refine Kd.R_append_rows k28 (w0 := W2) W2.heap.size rfl (.tmp 34) (.tmp 35) 24 28 (.agg #[.int .i64 0, .int .i64 0]) 16 rfl Tryd.underlying24 info28 rfl (by decide) (by omega) v34 l k A2 k.length c2 (fun k => W2.heap.size ≤ k) (fun _ => False) rfl rfl ?aO ?aR (fun _ _ h => h) (fun _ h => h.elim) ?aF ?aB ?aS ?aL ?_; (case aO => exact HO34.out); (case aR => exact Kd.C_below HR2.out (below_then L2.out L2.out.size L34.out)); (case aF => exact fun _ hk => Nat.le_trans L34.out.size hk); (case aB => exact L34.out); (case aS => exact L34.out.size); (case aL => have := HZ2.out; omega); intro v36 w36b ho hb hg hat; obtain ⟨A36, c36, rfl, hl36, hc36⟩ := Kd.R_reads ho; have HL36 := Aside0.mk hl36; have HC36 := Aside0.mk hc36; have L36 := Aside0.mk hb; clear ho hb hg hat hl36 hc36))
  have z0 : w36b.cell? ⟨w.heap.size, 0, none⟩ = some (.int .i64 s1.a) := blk_cell (blk_below B42.out L36.out) 0
  have z1 : w36b.cell? ⟨w.heap.size, 1, none⟩ = some (.int .i64 s1.b) := blk_cell (blk_below B42.out L36.out) 1
  have z2 : w36b.cell? ⟨w.heap.size, 2, none⟩ = some (.int .i64 s1.c) := blk_cell (blk_below B42.out L36.out) 2
  have z3 : w36b.cell? ⟨w.heap.size, 3, none⟩ = some (.int .i64 s1.d) := blk_cell (blk_below B42.out L36.out) 3
  have z4 : w36b.cell? ⟨w.heap.size, 4, none⟩ = some (.int .i64 s1.e) := blk_cell (blk_below B42.out L36.out) 4
  have z5 : w36b.cell? ⟨w.heap.size, 5, none⟩ = some (.int .i64 s1.f) := blk_cell (blk_below B42.out L36.out) 5
  go_upto_region 5 with (first
    | (go_at_call 11; refine (apply_s1n s1 A36 c36 (l.length + k.length) (l ++ k) cl t2 dd _ List.length_append.symm HC36.out HL36.out HT.out).mono ?_; rintro e w4 ⟨rfl, hb⟩; have HB4 := Aside0.mk hb; clear hb))
  clear z0 z1 z2 z3 z4 z5
  obtain ⟨W, hW⟩ : ∃ W, w4.alloc (.cells #[.int .i64 t2.a, .int .i64 t2.b, .int .i64 t2.c, .int .i64 t2.d, .int .i64 t2.e, .int .i64 t2.f] 23) = W := ⟨_, rfl⟩
  obtain ⟨b12, hb12⟩ : ∃ b, w4.heap.size = b := ⟨_, rfl⟩
  have X4 : Aside0 (Below W2.heap.size W2 W) := ⟨by rw [← hW]; exact below_alloc (below_then L36.out L36.out.size HB4.out) _⟩
  have B12 : Aside0 (W.heap[b12]? = some (.cells #[.int .i64 t2.a, .int .i64 t2.b, .int .i64 t2.c, .int .i64 t2.d, .int .i64 t2.e, .int .i64 t2.f] 23 (0, 0))) := ⟨by rw [← hW, ← hb12]; exact blk_new w4 _⟩
  have B4 := Aside0.mk (blk_below B42.out X4.out)
  replace B9 := Aside0.mk (blk_below B9.out X4.out)
  have L := Aside0.mk (below_then L2.out L2.out.size X4.out)
  rw [hW, hb12]
  clear hW hb12 HB4 HC36 HL36 X2 X4 B41 B42 L1 L2 L34 L36
  try clear HO34
  go_wp2_with fail
  go_loopw [14, 15] (fun v14 i w' => ∃ (n : Nat), n ≤ l.length ∧ i = .int .i64 n ∧ v14 = .bool (badL cl (l.take n)) ∧ Aside0 (Below W.heap.size W w')) (fun _ i _ => l.length - (intOf i).toNat)
  case atStart => exact ⟨0, Nat.zero_le _, rfl, rfl, ⟨Below.refl _ _⟩⟩
  case round =>
    obtain ⟨n, hn, rfl, rfl, HW⟩ := hrel
    by_cases hlt : n < l.length
    · have p0 : (0 : Int) ≤ n := by omega
      have q0 : (n : Int) < (l.length : Int) := by omega
      have hst := badL_take cl l n hlt
      cases hb : badL cl (l.take n)
      · obtain ⟨ad, e0, y0, y1⟩ := at_T28 HR1.out n p0 q0
        cases e0
        replace y0 := (HW.out.cell (World.block_lt_of_cell? _ _ ((L.out.cell (World.block_lt_of_cell? w _ y0)).trans y0))).trans ((L.out.cell (World.block_lt_of_cell? w _ y0)).trans y0)
        replace y1 := (HW.out.cell (World.block_lt_of_cell? _ _ ((L.out.cell (World.block_lt_of_cell? w _ y1)).trans y1))).trans ((L.out.cell (World.block_lt_of_cell? w _ y1)).trans y1)
        obtain ⟨id, hid⟩ : ∃ K, (rd_T28 l (n : Int)).f0 = K := ⟨_, rfl⟩
        obtain ⟨v, hv⟩ : ∃ K, (rd_T28 l (n : Int)).f1 = K := ⟨_, rfl⟩
        simp only [Int.toNat_natCast] at y0 y1
        rw [hid] at y0 hst
        rw [hv] at y1 hst
        rw [hb] at hst
        have HST := Aside0.mk hst
        clear hid hv hst
        obtain ⟨kv, hkv⟩ := valid_f id v cl
        have HKV := Aside0.mk hkv
        clear hkv
        go_wp2_with (first
          | (go_at_call 9; refine (setting_Valid.calls kv id v cl (valid id v cl) _ HKV.out).mono ?_; rintro e w9 ⟨rfl, hb9⟩; have HB9 := Aside0.mk hb9; clear hb9))
        go_roundw
        case rel => exact ⟨n + 1, by omega, by go_num, by rw [HST.out]; simp, ⟨below_then HW.out HW.out.size HB9.out⟩⟩
        case measure => simp [intOf]; omega
      · rw [hb] at hst
        have HST := Aside0.mk hst
        clear hst
        go_wp2_with fail
        go_roundw
        case rel => exact ⟨n + 1, by omega, by go_num, by rw [HST.out]; rfl, HW⟩
        case measure => simp [intOf]; omega
    · have hlt2 : decide ((n : Int) < (l.length : Int)) = false := decide_eq_false (by omega)
      have hn2 : n = l.length := by omega
      have hbb : badL cl (l.take n) = false := by rw [hn2, List.take_length]; exact HBAD.out
      rw [hbb]
      clear hbb
      go_upto_region 12 with (first
        | (go_at_call 24; refine (first_calls _ (HG.out.below (below_then L.out L.out.size HW.out))).mono ?_; rintro e w24 ⟨rfl, hb24⟩; have HB24 := Aside0.mk (below_then HW.out HW.out.size hb24); clear hb24))
      have N9 := Aside0.mk (blk_below B9.out HB24.out)
      have x0 : w24.cell? ⟨b9, 0, none⟩ = some (.int .i64 s2.a) := blk_cell N9.out 0
      have x1 : w24.cell? ⟨b9, 1, none⟩ = some (.int .i64 s2.b) := blk_cell N9.out 1
      have x2 : w24.cell? ⟨b9, 2, none⟩ = some (.int .i64 s2.c) := blk_cell N9.out 2
      have x3 : w24.cell? ⟨b9, 3, none⟩ = some (.int .i64 s2.d) := blk_cell N9.out 3
      have x4 : w24.cell? ⟨b9, 4, none⟩ = some (.int .i64 s2.e) := blk_cell N9.out 4
      have x5 : w24.cell? ⟨b9, 5, none⟩ = some (.int .i64 s2.f) := blk_cell N9.out 5
      go_upto_region 15 with (first
        | (go_at_call 11; refine (apply_s1 s2 A2 c2 k cl t2 dd _ (Kd.C_below HR2.out (below_then L.out L.out.size HB24.out)) HC2.out HU.out).mono ?_; rintro e w14 ⟨rfl, hb⟩; have HB14 := Aside0.mk (below_then HB24.out HB24.out.size hb); clear hb))
      clear x0 x1 x2 x3 x4 x5
      obtain ⟨W5, hW5⟩ : ∃ W, w14.alloc (.cells #[.int .i64 t2.a, .int .i64 t2.b, .int .i64 t2.c, .int .i64 t2.d, .int .i64 t2.e, .int .i64 t2.f] 23) = W := ⟨_, rfl⟩
      obtain ⟨b16, hb16⟩ : ∃ b, w14.heap.size = b := ⟨_, rfl⟩
      have X5 : Aside0 (Below W.heap.size W W5) := ⟨by rw [← hW5]; exact below_alloc HB14.out _⟩
      have B16 : Aside0 (W5.heap[b16]? = some (.cells #[.int .i64 t2.a, .int .i64 t2.b, .int .i64 t2.c, .int .i64 t2.d, .int .i64 t2.e, .int .i64 t2.f] 23 (0, 0))) := ⟨by rw [← hW5, ← hb16]; exact blk_new w14 _⟩
      have L5 := Aside0.mk (below_then L.out L.out.size X5.out)
      replace B4 := Aside0.mk (blk_below B4.out X5.out)
      replace B9 := Aside0.mk (blk_below B9.out X5.out)
      replace B12 := Aside0.mk (blk_below B12.out X5.out)
      rw [hW5, hb16]
      clear hW5 hb16 HB24 HB14 N9 X5 HW L
      clear hlt hlt2 hn2 hn
      go_wp2_with fail
      go_loopw [18, 19] (fun v18 i w' => ∃ (n : Nat) (acc : List S28), n ≤ l.length ∧ i = .int .i64 n ∧ Aside0 (acc ++ lastOf (l.drop n) = lastOf l) ∧ Aside0 (acc.length ≤ n) ∧ Aside0 (Kd.R k28 28 w' W5.heap.size (fun q => W5.heap.size ≤ q) v18 acc) ∧ Aside0 (Below W5.heap.size W5 w')) (fun _ i _ => l.length - (intOf i).toNat)
      case atStart => exact ⟨0, [], Nat.zero_le _, rfl, ⟨rfl⟩, ⟨Nat.le_refl _⟩, ⟨Kd.R_nil _ _ _ _ _⟩, ⟨Below.refl _ _⟩⟩
      case round =>
        obtain ⟨n, acc, hn, rfl, HAC, HAL, HV, HW⟩ := hrel
        by_cases hlt : n < l.length
        · have p0 : (0 : Int) ≤ n := by omega
          have q0 : (n : Int) < (l.length : Int) := by omega
          have LX := Aside0.mk (below_then L5.out L5.out.size HW.out)
          obtain ⟨ad, e0, y0, y1⟩ := at_T28 HR1.out n p0 q0
          cases e0
          have hadw := World.block_lt_of_cell? w _ y0
          replace y0 := (LX.out.cell (World.block_lt_of_cell? w _ y0)).trans y0
          replace y1 := (LX.out.cell (World.block_lt_of_cell? w _ y1)).trans y1
          have hls := last_step l n hlt
          obtain ⟨id, hid⟩ : ∃ K, (rd_T28 l (n : Int)).f0 = K := ⟨_, rfl⟩
          obtain ⟨v, hv⟩ : ∃ K, (rd_T28 l (n : Int)).f1 = K := ⟨_, rfl⟩
          have hrd : rd_T28 l (n : Int) = ⟨id, v⟩ := by rw [← hid, ← hv]
          simp only [Int.toNat_natCast] at y0 y1
          rw [hid] at y0 hls
          rw [hv] at y1
          rw [hrd] at hls
          have HLS := Aside0.mk hls
          clear hls hrd hid hv
          go_wp2_with fail
          go_loopw [20, 21] (fun v20 j w' => ∃ (m : Nat), n + 1 ≤ m ∧ m ≤ l.length ∧ j = .int .i64 m ∧ v20 = .bool (((l.take m).drop (n + 1)).any (fun q => q.f0 == id)) ∧ Aside0 (Below wr.heap.size wr w')) (fun _ j _ => l.length - (intOf j).toNat)
          case atStart => exact ⟨n + 1, Nat.le_refl _, hlt, by go_num, by simp [List.drop_eq_nil_of_le], ⟨Below.refl _ _⟩⟩
          case round =>
            obtain ⟨m, hm1, hm2, rfl, rfl, HWI⟩ := hrel
            by_cases hltm : m < l.length
            · have p1 : (0 : Int) ≤ m := by omega
              have q1 : (m : Int) < (l.length : Int) := by omega
              have hta := take_any l n m id hm1 hltm
              have yy0 := (HWI.out.cell (World.block_lt_of_cell? _ _ y0)).trans y0
              cases hb : (((l.take m).drop (n + 1)).any (fun q => q.f0 == id))
              · obtain ⟨ad2, e2, z0, z1⟩ := at_T28 HR1.out m p1 q1
                cases e2
                replace z0 := (LX.out.cell (World.block_lt_of_cell? w _ z0)).trans z0
                replace z0 := (HWI.out.cell (World.block_lt_of_cell? _ _ z0)).trans z0
                obtain ⟨id2, hid2⟩ : ∃ K, (rd_T28 l (m : Int)).f0 = K := ⟨_, rfl⟩
                simp only [Int.toNat_natCast] at z0
                rw [hid2] at z0 hta
                rw [hb] at hta
                have HTA := Aside0.mk hta
                clear hta hid2 z1
                go_upto_region 23 with fail
                go_quiet (fail)
                go_wp2_with fail
                go_roundw
                case rel => exact ⟨m + 1, by omega, by omega, by go_num, by rw [HTA.out]; simp, ⟨pw_below_drewN HWI.out _⟩⟩
                case measure => simp [intOf]; omega
              · rw [hb] at hta
                have HTA := Aside0.mk hta
                clear hta
                go_upto_region 23 with fail
                go_quiet (fail)
                go_wp2_with fail
                go_roundw
                case rel => exact ⟨m + 1, by omega, by omega, by go_num, by rw [HTA.out]; rfl, ⟨pw_below_drewN HWI.out _⟩⟩
                case measure => simp [intOf]; omega
            · have hltm2 : decide ((m : Int) < (l.length : Int)) = false := decide_eq_false (by omega)
              have hm3 : m = l.length := by omega
              have hmm : ((l.take m).drop (n + 1)).any (fun q => q.f0 == id) = (l.drop (n + 1)).any (fun q => q.f0 == id) := by rw [hm3, List.take_length]
              rw [hmm]
              clear hmm hm3
              cases hag : (l.drop (n + 1)).any (fun q => q.f0 == id)
              · have HLS2 : Aside0 (lastOf (l.drop n) = ⟨id, v⟩ :: lastOf (l.drop (n + 1))) := ⟨by rw [HLS.out, hag]; rfl⟩
                have yy0 := (HWI.out.cell (World.block_lt_of_cell? _ _ y0)).trans y0
                have yy1 := (HWI.out.cell (World.block_lt_of_cell? _ _ y1)).trans y1
                have HV2 := Aside0.mk (Kd.R_below HV.out HWI.out)
                have HW2 := Aside0.mk (below_then HW.out HW.out.size HWI.out)
                go_wp2_with (first
                  | ((with_reducible refine gate_builtin (b := .append) (xs := #[.tmp 119, .tmp 124]) rfl ?_); at_builtin; refine Kd.R_append k28 (w0 := W5) W5.heap.size rfl (.tmp 119) (.tmp 124) 24 28 (.agg #[.int .i64 0, .int .i64 0]) 16 rfl Tryd.underlying24 info28 rfl (by decide) (by omega) u18 acc ⟨id, v⟩ [.int .i64 id, .int .i64 v] (fun q => W5.heap.size ≤ q) (fun _ => False) rfl rfl ?aP (fun _ h => h.elim) ?aF ?aO ?aB ?aS ?aL ?_; (case aP => exact k28_mkM _ _ _ ⟨id, v⟩); (case aF => exact fun q hq => Nat.le_trans HW2.out.size hq); (case aO => exact HV2.out); (case aB => exact HW2.out); (case aS => exact HW2.out.size); (case aL => have := HAL.out; have := HZ1.out; omega); intro v1 w1 ho hb1 hg hat; have HO := Aside0.mk ho; have HBB := Aside0.mk hb1; clear ho hb1 hg hat))
                go_roundw
                case rel => exact ⟨n + 1, acc ++ [⟨id, v⟩], by omega, by go_num, ⟨by rw [List.append_assoc]; show acc ++ (⟨id, v⟩ :: lastOf (l.drop (n + 1))) = _; rw [← HLS2.out]; exact HAC.out⟩, ⟨by have := HAL.out; simp; omega⟩, HO, HBB⟩
                case measure => simp [intOf]; omega
              · have HLS2 : Aside0 (lastOf (l.drop n) = lastOf (l.drop (n + 1))) := ⟨by rw [HLS.out, hag]; rfl⟩
                go_wp2_with fail
                go_roundw
                case rel => exact ⟨n + 1, acc, by omega, by go_num, ⟨by rw [← HLS2.out]; exact HAC.out⟩, ⟨by have := HAL.out; omega⟩, ⟨Kd.R_below HV.out HWI.out⟩, ⟨below_then HW.out HW.out.size HWI.out⟩⟩
                case measure => simp [intOf]; omega
        · have hlt2 : decide ((n : Int) < (l.length : Int)) = false := decide_eq_false (by omega)
          have HACC : Aside0 (acc = lastOf l) := ⟨by have h := HAC.out; rw [show n = l.length by omega, List.drop_length] at h; simpa [lastOf] using h⟩
          obtain ⟨A18, c18, hv18, hl18, hc18⟩ := Kd.R_reads HV.out
          have HL18 := Aside0.mk hl18
          have HC18 := Aside0.mk hc18
          clear hl18 hc18
          subst hv18
          have HAP : Aside0 (apply cl s1 acc = (s2, 0)) := ⟨by rw [HACC.out, apply_last cl s1 l HBAD.out]; exact HA.out⟩
          have N4 := Aside0.mk (blk_below B4.out HW.out)
          have z0 : wr.cell? ⟨w.heap.size, 0, none⟩ = some (.int .i64 s1.a) := blk_cell N4.out 0
          have z1 : wr.cell? ⟨w.heap.size, 1, none⟩ = some (.int .i64 s1.b) := blk_cell N4.out 1
          have z2 : wr.cell? ⟨w.heap.size, 2, none⟩ = some (.int .i64 s1.c) := blk_cell N4.out 2
          have z3 : wr.cell? ⟨w.heap.size, 3, none⟩ = some (.int .i64 s1.d) := blk_cell N4.out 3
          have z4 : wr.cell? ⟨w.heap.size, 4, none⟩ = some (.int .i64 s1.e) := blk_cell N4.out 4
          have z5 : wr.cell? ⟨w.heap.size, 5, none⟩ = some (.int .i64 s1.f) := blk_cell N4.out 5
          go_upto_region 27 with (first
            | (go_at_call 11; refine (apply_s1 s1 A18 c18 acc cl s2 0 _ HC18.out HL18.out HAP.out).mono ?_; rintro e w26 ⟨rfl, hb⟩; have HB26 := Aside0.mk (below_then HW.out HW.out.size hb); clear hb))
          clear z0 z1 z2 z3 z4 z5
          obtain ⟨W6, hW6⟩ : ∃ W, w26.alloc (.cells #[.int .i64 s2.a, .int .i64 s2.b, .int .i64 s2.c, .int .i64 s2.d, .int .i64 s2.e, .int .i64 s2.f] 23) = W := ⟨_, rfl⟩
          obtain ⟨b22, hb22⟩ : ∃ b, w26.heap.size = b := ⟨_, rfl⟩
          have X6 : Aside0 (Below W5.heap.size W5 W6) := ⟨by rw [← hW6]; exact below_alloc HB26.out _⟩
          have B22 : Aside0 (W6.heap[b22]? = some (.cells #[.int .i64 s2.a, .int .i64 s2.b, .int .i64 s2.c, .int .i64 s2.d, .int .i64 s2.e, .int .i64 s2.f] 23 (0, 0))) := ⟨by rw [← hW6, ← hb22]; exact blk_new w26 _⟩
          have L6 := Aside0.mk (below_then L5.out L5.out.size X6.out)
          replace B4 := Aside0.mk (blk_below B4.out X6.out)
          replace B9 := Aside0.mk (blk_below B9.out X6.out)
          replace B12 := Aside0.mk (blk_below B12.out X6.out)
          replace B16 := Aside0.mk (blk_below B16.out X6.out)
          rw [hW6, hb22]
          clear hW6 hb22 HB26 N4
          have OK2 : Aside0 (Ok s2) := ⟨by have h := apply_ok cl s1 l (by rw [← HS1.out]; exact (made_fit s0).ok) HBAD.out; rw [HA.out] at h; exact h⟩
          have FT1 : Aside0 (setting_Fits.f s1.a s1.b s1.c s1.d s1.e s1.f = some true) := ⟨by rw [← HS1.out]; exact (made_fit s0).fits⟩
          have p0 : W6.cell? ⟨b12, 0, none⟩ = some (.int .i64 t2.a) := blk_cell B12.out 0
          have p1 : W6.cell? ⟨b12, 1, none⟩ = some (.int .i64 t2.b) := blk_cell B12.out 1
          have p2 : W6.cell? ⟨b12, 2, none⟩ = some (.int .i64 t2.c) := blk_cell B12.out 2
          have p3 : W6.cell? ⟨b12, 3, none⟩ = some (.int .i64 t2.d) := blk_cell B12.out 3
          have p4 : W6.cell? ⟨b12, 4, none⟩ = some (.int .i64 t2.e) := blk_cell B12.out 4
          have p5 : W6.cell? ⟨b12, 5, none⟩ = some (.int .i64 t2.f) := blk_cell B12.out 5
          have q0 : W6.cell? ⟨b16, 0, none⟩ = some (.int .i64 t2.a) := blk_cell B16.out 0
          have q1 : W6.cell? ⟨b16, 1, none⟩ = some (.int .i64 t2.b) := blk_cell B16.out 1
          have q2 : W6.cell? ⟨b16, 2, none⟩ = some (.int .i64 t2.c) := blk_cell B16.out 2
          have q3 : W6.cell? ⟨b16, 3, none⟩ = some (.int .i64 t2.d) := blk_cell B16.out 3
          have q4 : W6.cell? ⟨b16, 4, none⟩ = some (.int .i64 t2.e) := blk_cell B16.out 4
          have q5 : W6.cell? ⟨b16, 5, none⟩ = some (.int .i64 t2.f) := blk_cell B16.out 5
          have r0 : W6.cell? ⟨b9, 0, none⟩ = some (.int .i64 s2.a) := blk_cell B9.out 0
          have r1 : W6.cell? ⟨b9, 1, none⟩ = some (.int .i64 s2.b) := blk_cell B9.out 1
          have r2 : W6.cell? ⟨b9, 2, none⟩ = some (.int .i64 s2.c) := blk_cell B9.out 2
          have r3 : W6.cell? ⟨b9, 3, none⟩ = some (.int .i64 s2.d) := blk_cell B9.out 3
          have r4 : W6.cell? ⟨b9, 4, none⟩ = some (.int .i64 s2.e) := blk_cell B9.out 4
          have r5 : W6.cell? ⟨b9, 5, none⟩ = some (.int .i64 s2.f) := blk_cell B9.out 5
          have u0 : W6.cell? ⟨b22, 0, none⟩ = some (.int .i64 s2.a) := blk_cell B22.out 0
          have u1 : W6.cell? ⟨b22, 1, none⟩ = some (.int .i64 s2.b) := blk_cell B22.out 1
          have u2 : W6.cell? ⟨b22, 2, none⟩ = some (.int .i64 s2.c) := blk_cell B22.out 2
          have u3 : W6.cell? ⟨b22, 3, none⟩ = some (.int .i64 s2.d) := blk_cell B22.out 3
          have u4 : W6.cell? ⟨b22, 4, none⟩ = some (.int .i64 s2.e) := blk_cell B22.out 4
          have u5 : W6.cell? ⟨b22, 5, none⟩ = some (.int .i64 s2.f) := blk_cell B22.out 5
          have z0 : W6.cell? ⟨w.heap.size, 0, none⟩ = some (.int .i64 s1.a) := blk_cell B4.out 0
          have z1 : W6.cell? ⟨w.heap.size, 1, none⟩ = some (.int .i64 s1.b) := blk_cell B4.out 1
          have z2 : W6.cell? ⟨w.heap.size, 2, none⟩ = some (.int .i64 s1.c) := blk_cell B4.out 2
          have z3 : W6.cell? ⟨w.heap.size, 3, none⟩ = some (.int .i64 s1.d) := blk_cell B4.out 3
          have z4 : W6.cell? ⟨w.heap.size, 4, none⟩ = some (.int .i64 s1.e) := blk_cell B4.out 4
          have z5 : W6.cell? ⟨w.heap.size, 5, none⟩ = some (.int .i64 s1.f) := blk_cell B4.out 5
          by_cases hd : dd = 0
          · have OKT : Aside0 (Ok t2) := ⟨by
              have hbk : badL cl k = false := by
                have h := badL_apply' cl s2 k
                rw [HU.out] at h
                simpa [hd] using h
              have h := apply_ok cl s2 k OK2.out hbk
              rw [HU.out] at h
              exact h⟩
            subst hd
            go_wp2_with (first
              | (go_at_call 31; (with_reducible refine (heraldlaw08_may.calls s2.a s2.b s2.c s2.d s2.e s2.f true _ (may_ok s2 OK2.out)).mono ?_); rintro e w31 ⟨rfl, hbw31⟩; have HB31 := Aside0.mk hbw31; have r310 : w31.cell? ⟨b9, 0, none⟩ = some (.int .i64 s2.a) := blk_cell (blk_below B9.out HB31.out) 0; have r311 : w31.cell? ⟨b9, 1, none⟩ = some (.int .i64 s2.b) := blk_cell (blk_below B9.out HB31.out) 1; have r312 : w31.cell? ⟨b9, 2, none⟩ = some (.int .i64 s2.c) := blk_cell (blk_below B9.out HB31.out) 2; have r313 : w31.cell? ⟨b9, 3, none⟩ = some (.int .i64 s2.d) := blk_cell (blk_below B9.out HB31.out) 3; have r314 : w31.cell? ⟨b9, 4, none⟩ = some (.int .i64 s2.e) := blk_cell (blk_below B9.out HB31.out) 4; have r315 : w31.cell? ⟨b9, 5, none⟩ = some (.int .i64 s2.f) := blk_cell (blk_below B9.out HB31.out) 5; have u310 : w31.cell? ⟨b22, 0, none⟩ = some (.int .i64 s2.a) := blk_cell (blk_below B22.out HB31.out) 0; have u311 : w31.cell? ⟨b22, 1, none⟩ = some (.int .i64 s2.b) := blk_cell (blk_below B22.out HB31.out) 1; have u312 : w31.cell? ⟨b22, 2, none⟩ = some (.int .i64 s2.c) := blk_cell (blk_below B22.out HB31.out) 2; have u313 : w31.cell? ⟨b22, 3, none⟩ = some (.int .i64 s2.d) := blk_cell (blk_below B22.out HB31.out) 3; have u314 : w31.cell? ⟨b22, 4, none⟩ = some (.int .i64 s2.e) := blk_cell (blk_below B22.out HB31.out) 4; have u315 : w31.cell? ⟨b22, 5, none⟩ = some (.int .i64 s2.f) := blk_cell (blk_below B22.out HB31.out) 5; have p310 : w31.cell? ⟨b12, 0, none⟩ = some (.int .i64 t2.a) := blk_cell (blk_below B12.out HB31.out) 0; have p311 : w31.cell? ⟨b12, 1, none⟩ = some (.int .i64 t2.b) := blk_cell (blk_below B12.out HB31.out) 1; have p312 : w31.cell? ⟨b12, 2, none⟩ = some (.int .i64 t2.c) := blk_cell (blk_below B12.out HB31.out) 2; have p313 : w31.cell? ⟨b12, 3, none⟩ = some (.int .i64 t2.d) := blk_cell (blk_below B12.out HB31.out) 3; have p314 : w31.cell? ⟨b12, 4, none⟩ = some (.int .i64 t2.e) := blk_cell (blk_below B12.out HB31.out) 4; have p315 : w31.cell? ⟨b12, 5, none⟩ = some (.int .i64 t2.f) := blk_cell (blk_below B12.out HB31.out) 5; have z310 : w31.cell? ⟨w.heap.size, 0, none⟩ = some (.int .i64 s1.a) := blk_cell (blk_below B4.out HB31.out) 0; have z311 : w31.cell? ⟨w.heap.size, 1, none⟩ = some (.int .i64 s1.b) := blk_cell (blk_below B4.out HB31.out) 1; have z312 : w31.cell? ⟨w.heap.size, 2, none⟩ = some (.int .i64 s1.c) := blk_cell (blk_below B4.out HB31.out) 2; have z313 : w31.cell? ⟨w.heap.size, 3, none⟩ = some (.int .i64 s1.d) := blk_cell (blk_below B4.out HB31.out) 3; have z314 : w31.cell? ⟨w.heap.size, 4, none⟩ = some (.int .i64 s1.e) := blk_cell (blk_below B4.out HB31.out) 4; have z315 : w31.cell? ⟨w.heap.size, 5, none⟩ = some (.int .i64 s1.f) := blk_cell (blk_below B4.out HB31.out) 5)
              | (go_at_call 31; (with_reducible refine (heraldlaw08_may.calls t2.a t2.b t2.c t2.d t2.e t2.f true _ (may_ok t2 OKT.out)).mono ?_); rintro e w32 ⟨rfl, hbw32⟩; have HB32 := Aside0.mk (below_then HB31.out HB31.out.size hbw32); have z320 : w32.cell? ⟨w.heap.size, 0, none⟩ = some (.int .i64 s1.a) := blk_cell (blk_below B4.out HB32.out) 0; have z321 : w32.cell? ⟨w.heap.size, 1, none⟩ = some (.int .i64 s1.b) := blk_cell (blk_below B4.out HB32.out) 1; have z322 : w32.cell? ⟨w.heap.size, 2, none⟩ = some (.int .i64 s1.c) := blk_cell (blk_below B4.out HB32.out) 2; have z323 : w32.cell? ⟨w.heap.size, 3, none⟩ = some (.int .i64 s1.d) := blk_cell (blk_below B4.out HB32.out) 3; have z324 : w32.cell? ⟨w.heap.size, 4, none⟩ = some (.int .i64 s1.e) := blk_cell (blk_below B4.out HB32.out) 4; have z325 : w32.cell? ⟨w.heap.size, 5, none⟩ = some (.int .i64 s1.f) := blk_cell (blk_below B4.out HB32.out) 5)
              | (go_at_call 21; (with_reducible refine (setting_Fits.calls s1.a s1.b s1.c s1.d s1.e s1.f true _ FT1.out).mono ?_); rintro e w33 ⟨rfl, hbw33⟩; have HB33 := Aside0.mk (below_then HB32.out HB32.out.size hbw33)))
            go_ret
            exact ⟨rfl, below_then L6.out L6.out.size HB33.out⟩
          · have hd1 : (dd == 0) = false := beq_eq_false_iff_ne.mpr hd
            have hd2 : (dd != 0) = true := by simp [hd]
            go_wp2_with (first
              | (go_at_call 31; (with_reducible refine (heraldlaw08_may.calls s2.a s2.b s2.c s2.d s2.e s2.f true _ (may_ok s2 OK2.out)).mono ?_); rintro e w31 ⟨rfl, hbw31⟩; have HB31 := Aside0.mk hbw31; have r310 : w31.cell? ⟨b9, 0, none⟩ = some (.int .i64 s2.a) := blk_cell (blk_below B9.out HB31.out) 0; have r311 : w31.cell? ⟨b9, 1, none⟩ = some (.int .i64 s2.b) := blk_cell (blk_below B9.out HB31.out) 1; have r312 : w31.cell? ⟨b9, 2, none⟩ = some (.int .i64 s2.c) := blk_cell (blk_below B9.out HB31.out) 2; have r313 : w31.cell? ⟨b9, 3, none⟩ = some (.int .i64 s2.d) := blk_cell (blk_below B9.out HB31.out) 3; have r314 : w31.cell? ⟨b9, 4, none⟩ = some (.int .i64 s2.e) := blk_cell (blk_below B9.out HB31.out) 4; have r315 : w31.cell? ⟨b9, 5, none⟩ = some (.int .i64 s2.f) := blk_cell (blk_below B9.out HB31.out) 5; have u310 : w31.cell? ⟨b22, 0, none⟩ = some (.int .i64 s2.a) := blk_cell (blk_below B22.out HB31.out) 0; have u311 : w31.cell? ⟨b22, 1, none⟩ = some (.int .i64 s2.b) := blk_cell (blk_below B22.out HB31.out) 1; have u312 : w31.cell? ⟨b22, 2, none⟩ = some (.int .i64 s2.c) := blk_cell (blk_below B22.out HB31.out) 2; have u313 : w31.cell? ⟨b22, 3, none⟩ = some (.int .i64 s2.d) := blk_cell (blk_below B22.out HB31.out) 3; have u314 : w31.cell? ⟨b22, 4, none⟩ = some (.int .i64 s2.e) := blk_cell (blk_below B22.out HB31.out) 4; have u315 : w31.cell? ⟨b22, 5, none⟩ = some (.int .i64 s2.f) := blk_cell (blk_below B22.out HB31.out) 5; have p310 : w31.cell? ⟨b12, 0, none⟩ = some (.int .i64 t2.a) := blk_cell (blk_below B12.out HB31.out) 0; have p311 : w31.cell? ⟨b12, 1, none⟩ = some (.int .i64 t2.b) := blk_cell (blk_below B12.out HB31.out) 1; have p312 : w31.cell? ⟨b12, 2, none⟩ = some (.int .i64 t2.c) := blk_cell (blk_below B12.out HB31.out) 2; have p313 : w31.cell? ⟨b12, 3, none⟩ = some (.int .i64 t2.d) := blk_cell (blk_below B12.out HB31.out) 3; have p314 : w31.cell? ⟨b12, 4, none⟩ = some (.int .i64 t2.e) := blk_cell (blk_below B12.out HB31.out) 4; have p315 : w31.cell? ⟨b12, 5, none⟩ = some (.int .i64 t2.f) := blk_cell (blk_below B12.out HB31.out) 5; have z310 : w31.cell? ⟨w.heap.size, 0, none⟩ = some (.int .i64 s1.a) := blk_cell (blk_below B4.out HB31.out) 0; have z311 : w31.cell? ⟨w.heap.size, 1, none⟩ = some (.int .i64 s1.b) := blk_cell (blk_below B4.out HB31.out) 1; have z312 : w31.cell? ⟨w.heap.size, 2, none⟩ = some (.int .i64 s1.c) := blk_cell (blk_below B4.out HB31.out) 2; have z313 : w31.cell? ⟨w.heap.size, 3, none⟩ = some (.int .i64 s1.d) := blk_cell (blk_below B4.out HB31.out) 3; have z314 : w31.cell? ⟨w.heap.size, 4, none⟩ = some (.int .i64 s1.e) := blk_cell (blk_below B4.out HB31.out) 4; have z315 : w31.cell? ⟨w.heap.size, 5, none⟩ = some (.int .i64 s1.f) := blk_cell (blk_below B4.out HB31.out) 5)
              | (go_at_call 21; (with_reducible refine (setting_Fits.calls s1.a s1.b s1.c s1.d s1.e s1.f true _ FT1.out).mono ?_); rintro e w33 ⟨rfl, hbw33⟩; have HB33 := Aside0.mk (below_then HB31.out HB31.out.size hbw33)))
            go_ret
            exact ⟨rfl, below_then L6.out L6.out.size HB33.out⟩

theorem one_calls (s0 : St) (A1 : Option Addr) (c1 : Nat) (l : List S28) (A2 : Option Addr) (c2 : Nat) (k : List S28) (cl : Bool) (w : World) (hG : GL w) (hr1 : Kd.C k28 w A1 l.length l) (hr2 : Kd.C k28 w A2 k.length k) (hc1 : l.length ≤ c1) (hc2 : k.length ≤ c2) (hz1 : l.length * 16 ≤ 140737488351232) (hz2 : (l.length + k.length) * 16 ≤ 140737488351232) :
    Calls Tryd.prog 6 #[.agg #[.int .i64 s0.a, .int .i64 s0.b, .int .i64 s0.c, .int .i64 s0.d, .int .i64 s0.e, .int .i64 s0.f], .slice A1 l.length c1, .slice A2 k.length c2, .bool cl] w fun e w' => e = .returned (.bool true) ∧ Below w.heap.size w w' := by
  have hap := apply_append cl (made s0) l k
  cases hb : badL cl l
  · rw [hb, if_neg (by simp)] at hap
    have h0 : (apply cl (made s0) l).2 = 0 := by
      have h := badL_apply' cl (made s0) l
      rw [hb] at h
      simpa using h
    exact one_good s0 (made s0) A1 c1 l A2 c2 k cl (apply cl (made s0) l).1 (apply cl (apply cl (made s0) l).1 k).1 (apply cl (apply cl (made s0) l).1 k).2 (Prod.ext rfl h0) hap rfl hb rfl w hG hr1 hr2 hc1 hc2 hz1 hz2
  · rw [hb, if_pos rfl] at hap
    have h0 := (badL_apply' cl (made s0) l).1 hb
    have h1 := apply_bad cl (made s0) l hb
    exact one_bad s0 (made s0) A1 c1 l A2 c2 k cl (apply cl (made s0) l).2 h0 (Prod.ext h1 rfl) (hap.trans (Prod.ext h1 rfl)) hb rfl w hG hr1 hr2 hc1 hc2 hz1 hz2
end Go.Proofs.YtcjphkgmcfpfeaaDoor.MS
