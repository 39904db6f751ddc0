/- The number that some bytes are: what the program's and the document's readers tell. At most four bytes. -/
import Derived.Test.YtoffhlbdfhhhjaaDoorMFrD
namespace Go.Proofs.YtoffhlbdfhhhjaaDoor.Fr
open Go Go.RowKit Go.Proofs.YtoffhlbdfhhhjaaDoorW.PrintWords Go.Proofs.YtoffhlbdfhhhjaaDoorW.PrintLast Go.Proofs.YtoffhlbdfhhhjaaDoorW.PrintMore Go.Proofs.YtoffhlbdfhhhjaaDoor.QL
set_option linter.unusedSimpArgs false
set_option linter.unusedVariables false
set_option maxHeartbeats 4000000
set_option maxRecDepth 100000
/-- The number that bytes are, behind v. -/
def numFrom (v : Int) : List UInt8 → Int
  | [] => v
  | x :: t => numFrom (v * 256 + (x.toNat : Int)) t
def num (s : ByteArray) : Int := numFrom 0 s.data.toList
theorem bt_list (s : ByteArray) (i : Nat) (h : i < s.size) : bt s (i : Int) = ((s.data.toList[i]'(by simpa using h)).toNat : Int) := by
  have e := bt_at s (i : Int) (by simpa using h)
  rw [← e]
  rfl
theorem drop_at (s : ByteArray) (i : Nat) (h : i < s.size) (v : Int) : numFrom v (s.data.toList.drop i) = numFrom (v * 256 + bt s (i : Int)) (s.data.toList.drop (i + 1)) := by
  rw [bt_list s i h, List.drop_eq_getElem_cons (by simpa using h)]
  rfl
theorem numFrom_bd (l : List UInt8) : ∀ v : Int, 0 ≤ v → 0 ≤ numFrom v l ∧ numFrom v l < (v + 1) * 256 ^ l.length := by
  induction l with
  | nil => intro v h; exact ⟨h, by simp only [numFrom, List.length_nil]; omega⟩
  | cons x t ih =>
    intro v h
    have hx := x.toNat_lt
    have hx' : (x.toNat : Int) < 256 := by exact_mod_cast hx
    have hb : 0 ≤ v * 256 + (x.toNat : Int) := by omega
    obtain ⟨h1, h2⟩ := ih _ hb
    refine ⟨h1, Int.lt_of_lt_of_le h2 ?_⟩
    have hp : (0 : Int) ≤ 256 ^ t.length := Int.le_of_lt (Int.pow_pos (by decide))
    rw [List.length_cons, Int.pow_succ, Int.mul_comm ((256 : Int) ^ t.length) 256, ← Int.mul_assoc]
    exact Int.mul_le_mul_of_nonneg_right (by omega) hp
theorem num_bd (s : ByteArray) : 0 ≤ num s ∧ num s < 256 ^ s.size := by
  have h := numFrom_bd s.data.toList 0 (Int.le_refl _)
  have e : s.data.toList.length = s.size := rfl
  rw [e] at h
  simpa [num] using h
theorem num4 (s : ByteArray) (h : s.size ≤ 4) : 0 ≤ num s ∧ num s ≤ 4294967295 := by
  have h1 := num_bd s
  refine ⟨h1.1, ?_⟩
  obtain e | e | e | e | e : s.size = 0 ∨ s.size = 1 ∨ s.size = 2 ∨ s.size = 3 ∨ s.size = 4 := by omega
  all_goals
    rw [e] at h1
    omega
theorem or_byte (v x : Int) (h0 : 0 ≤ v) (h1 : v < 4294967296) (hx0 : 0 ≤ x) (hx1 : x ≤ 255) : Go.bits .or .i64 (wrap64 (v * 256)) (wrap64 x) = v * 256 + x := by
  have e1 : wrap64 (v * 256) = v * 256 := by unfold wrap64; omega
  have e2 : wrap64 x = x := by unfold wrap64; omega
  rw [e1, e2]
  exact bits_join .i64 63 (by decide) (fun n a b => IntWalk.i64_in n (by omega)) 8 (v * 256) x (by omega) (by omega) (by omega) hx0 (by omega) (by omega)
theorem got_loop (s : ByteArray) (hs : s.size ≤ 4) : ∀ (m i : Nat) (v : Int), i + m = s.size → 0 ≤ v → v < 256 ^ i → frame_got.l0 (m + 1) s v (s.size : Int) (i : Int) = some (numFrom v (s.data.toList.drop i)) := by
  intro m
  induction m with
  | zero =>
    intro i v hi h0 h1
    rw [frame_got.l0, if_neg (by omega), List.drop_eq_nil_of_le (by show s.data.toList.length ≤ i; have : s.data.toList.length = s.size := rfl; omega)]
    rfl
  | succ m ih =>
    intro i v hi h0 h1
    have hb := bt_range s (i : Int)
    have hv : v < 4294967296 := by
      obtain e | e | e | e : i = 0 ∨ i = 1 ∨ i = 2 ∨ i = 3 := by omega
      all_goals rw [e] at h1; omega
    have hw : wrap64 ((i : Int) + 1) = ((i + 1 : Nat) : Int) := by unfold wrap64; omega
    rw [frame_got.l0, if_pos (by omega), if_pos (by omega), if_pos (by omega), or_byte v _ h0 hv hb.1 hb.2, hw, drop_at s i (by omega) v]
    refine ih (i + 1) _ (by omega) (by omega) ?_
    rw [Int.pow_succ]
    omega
theorem get_loop (s : ByteArray) (hs : s.size ≤ 4) : ∀ (m i : Nat) (v : Int), i + m = s.size → 0 ≤ v → v < 256 ^ i → heraldref06_get.l0 (m + 1) s v (i : Int) = some (numFrom v (s.data.toList.drop i)) := by
  intro m
  induction m with
  | zero =>
    intro i v hi h0 h1
    rw [heraldref06_get.l0, if_neg (by omega), List.drop_eq_nil_of_le (by show s.data.toList.length ≤ i; have : s.data.toList.length = s.size := rfl; omega)]
    rfl
  | succ m ih =>
    intro i v hi h0 h1
    have hb := bt_range s (i : Int)
    have hv : v < 4294967296 := by
      obtain e | e | e | e : i = 0 ∨ i = 1 ∨ i = 2 ∨ i = 3 := by omega
      all_goals rw [e] at h1; omega
    have hw : wrap64 ((i : Int) + 1) = ((i + 1 : Nat) : Int) := by unfold wrap64; omega
    have hx : wrap64 (wrap64 (256 * v) + wrap64 (bt s (i : Int))) = v * 256 + bt s (i : Int) := by unfold wrap64; omega
    rw [heraldref06_get.l0, if_pos (by omega), if_pos (by omega), hx, hw, drop_at s i (by omega) v]
    refine ih (i + 1) _ (by omega) (by omega) ?_
    rw [Int.pow_succ]
    omega
theorem got_f (s : ByteArray) (hs : s.size ≤ 4) : frame_got.f (s.size + 1) s = some (num s) := by
  have h := got_loop s hs s.size 0 0 (by omega) (by omega) (by decide)
  unfold frame_got.f
  exact h
theorem get_f (s : ByteArray) (hs : s.size ≤ 4) : heraldref06_get.f (s.size + 1) s = some (num s) := by
  have h := get_loop s hs s.size 0 0 (by omega) (by omega) (by decide)
  unfold heraldref06_get.f
  exact h
theorem got_calls (s : ByteArray) (x : Int) (w : World) (hs : s.size ≤ 4) (hx : num s = x) : Calls Tryd.prog 56 #[.string s] w fun e w' => e = .returned (.int .i64 x) ∧ ∃ n, w' = w.drewN n := by
  subst hx
  exact (frame_got.calls _ s _ w (got_f s hs)).mono fun _ _ h => ⟨h.1, h.2.out⟩
theorem id_calls (s : ByteArray) (x : Int) (w : World) (hs : s.size ≤ 4) (hx : num s % 2147483648 = x) : Calls Tryd.prog 57 #[.string s] w fun e w' => e = .returned (.int .i64 x) ∧ ∃ n, w' = w.drewN n := by
  subst hx
  refine (frame_id.calls (s.size + 1) s _ w ?_).mono fun _ _ h => ⟨h.1, h.2.out⟩
  have hb := num4 s hs
  unfold frame_id.f
  rw [got_f s hs]
  show some (Go.bits .and .i64 (num s) 2147483647) = _
  rw [show (2147483647 : Int) = 2 ^ 31 - 1 from by decide, bits_mask .i64 63 (by decide) (fun n a b => IntWalk.i64_in n (by omega)) 31 (by decide) (num s) hb.1 (by omega)]
  rfl
theorem getR_calls (s : ByteArray) (x : Int) (w : World) (hs : s.size ≤ 4) (hx : num s = x) : Calls Tryd.prog 61 #[.string s] w fun e w' => e = .returned (.int .i64 x) ∧ ∃ n, w' = w.drewN n := by
  subst hx
  exact (heraldref06_get.calls _ s _ w (get_f s hs)).mono fun _ _ h => ⟨h.1, h.2.out⟩
theorem idR_calls (s : ByteArray) (x : Int) (w : World) (hs : s.size ≤ 4) (hx : num s % 2147483648 = x) : Calls Tryd.prog 62 #[.string s] w fun e w' => e = .returned (.int .i64 x) ∧ ∃ n, w' = w.drewN n := by
  subst hx
  refine (heraldref06_id.calls (s.size + 1) s _ w ?_).mono fun _ _ h => ⟨h.1, h.2.out⟩
  have hb := num4 s hs
  unfold heraldref06_id.f
  rw [get_f s hs]
  show some (Int.tmod (num s) 2147483648) = _
  rw [Int.tmod_eq_emod_of_nonneg hb.1]
theorem got_below (s : ByteArray) (x : Int) (w : World) (hs : s.size ≤ 4) (hx : num s = x) : Calls Tryd.prog 56 #[.string s] w fun e w' => e = .returned (.int .i64 x) ∧ Below w.heap.size w w' :=
  (got_calls s x w hs hx).mono fun _ _ h => ⟨h.1, by obtain ⟨n, hn⟩ := h.2; rw [hn]; exact pw_below_drewN (Below.refl _ _) n⟩
theorem id_below (s : ByteArray) (x : Int) (w : World) (hs : s.size ≤ 4) (hx : num s % 2147483648 = x) : Calls Tryd.prog 57 #[.string s] w fun e w' => e = .returned (.int .i64 x) ∧ Below w.heap.size w w' :=
  (id_calls s x w hs hx).mono fun _ _ h => ⟨h.1, by obtain ⟨n, hn⟩ := h.2; rw [hn]; exact pw_below_drewN (Below.refl _ _) n⟩
theorem getR_below (s : ByteArray) (x : Int) (w : World) (hs : s.size ≤ 4) (hx : num s = x) : Calls Tryd.prog 61 #[.string s] w fun e w' => e = .returned (.int .i64 x) ∧ Below w.heap.size w w' :=
  (getR_calls s x w hs hx).mono fun _ _ h => ⟨h.1, by obtain ⟨n, hn⟩ := h.2; rw [hn]; exact pw_below_drewN (Below.refl _ _) n⟩
theorem idR_below (s : ByteArray) (x : Int) (w : World) (hs : s.size ≤ 4) (hx : num s % 2147483648 = x) : Calls Tryd.prog 62 #[.string s] w fun e w' => e = .returned (.int .i64 x) ∧ Below w.heap.size w w' :=
  (idR_calls s x w hs hx).mono fun _ _ h => ⟨h.1, by obtain ⟨n, hn⟩ := h.2; rw [hn]; exact pw_below_drewN (Below.refl _ _) n⟩
end Go.Proofs.YtoffhlbdfhhhjaaDoor.Fr
