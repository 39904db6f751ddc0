/- What a row's list of package-level variables gives: each variable's cells hold the numbers that the list tells. No condition. -/
import Derived.Test.YtagkncjdohljgaaDoorRows
import Derived.OpenShut
import Derived.ChangeArms
import Derived.Lib.LaidTab
namespace Go.Proofs.YtagkncjdohljgaaDoor.ZLaid
open Go

/-- The cells of a datum that is made of numbers and bools. -/
def flat {H : Type} : Nat → DataW H → Option (List Value)
  | 0, _ => none
  | _ + 1, .lit (.int k n) => some [.int k n]
  | _ + 1, .lit (.bool b) => some [.bool b]
  | m + 1, .agg parts => (parts.mapM (flat m)).map List.flatten
  | _ + 1, _ => none

mutual
/-- No place between two parts. -/
def tight (P : Program) : Nat → TypeId → Bool
  | 0, _ => false
  | m + 1, t => match P.underlying t with
    | some (.struct fs) => line P m fs.toList 0 (P.cellsOf t)
    | some (.array n e) => P.cellsOf t == n * P.cellsOf e && tight P m e
    | some (.int _) => true
    | some .bool => true
    | _ => false
def line (P : Program) : Nat → List Field → Nat → Nat → Bool
  | 0, _, _, _ => false
  | _ + 1, [], o, n => o == n
  | m + 1, f :: fs, o, n => f.offset == o && tight P m f.type && line P m fs (o + P.cellsOf f.type) n
end

theorem mapM_cons {α β : Type} {f : α → Option β} {a : α} {l : List α} {r : List β} (h : (a :: l).mapM f = some r) : ∃ b s, f a = some b ∧ l.mapM f = some s ∧ r = b :: s := by
  rw [List.mapM_cons] at h
  cases hb : f a with
  | none => rw [hb] at h; cases h
  | some b =>
    cases hs : l.mapM f with
    | none => rw [hb, hs] at h; cases h
    | some s =>
      rw [hb, hs] at h
      exact ⟨b, s, rfl, rfl, (Option.some.inj h).symm⟩

section
variable {H : Type} {enc : TypeId × Value → H} {P : Program} {w : World} {base : Nat} {spare : Nat → Bool} {held : Bool}

def One (P : Program) (H : Type) (enc : TypeId × Value → H) (w : World) (base : Nat) (spare : Nat → Bool) (held : Bool) (fuel : Nat) : Prop :=
  ∀ (m k : Nat) (t : TypeId) (cs : List Value) (d : DataW H) (p : List MemPlace) (l : List Value), tight P k t = true → DataW.trod enc P w base spare held fuel t cs = some (d, p) → flat m d = some l → cs = l

theorem line_flat {n : Nat} (ih : One P H enc w base spare held n) (m : Nat) (cs : List Value) : ∀ (fs : List Field) (k o : Nat) (xs : List (DataW H × List MemPlace)) (ls : List (List Value)),
    line P k fs o cs.length = true → xs.length = fs.length → (∀ (i : Nat) (f : Field), fs[i]? = some f → DataW.trod enc P w base spare held n f.type ((cs.drop f.offset).take (P.cellsOf f.type)) = xs[i]?) →
    (xs.map (·.1)).mapM (flat m) = some ls → cs.drop o = ls.flatten
  | [], 0, _, _, _, h, _, _, _ => by simp [line] at h
  | _ :: _, 0, _, _, _, h, _, _, _ => by simp [line] at h
  | [], k + 1, o, xs, ls, h, hl, _, hm => by
    have e : o = cs.length := by simpa [line] using h
    obtain rfl : xs = [] := List.eq_nil_of_length_eq_zero (by simpa using hl)
    obtain rfl : ls = [] := by simpa using hm.symm
    simp [e]
  | f :: fs, k + 1, o, xs, ls, h, hl, hx, hm => by
    simp only [line, Bool.and_eq_true, beq_iff_eq] at h
    obtain ⟨⟨ho, ht⟩, hrest⟩ := h
    obtain ⟨x, ys, rfl⟩ : ∃ x ys, xs = x :: ys := by
      match xs, hl with
      | x :: ys, _ => exact ⟨x, ys, rfl⟩
    rw [List.map_cons] at hm
    obtain ⟨l1, l2, h1, h2, rfl⟩ := mapM_cons hm
    have e1 := ih m k _ _ x.1 x.2 l1 ht (hx 0 f rfl) h1
    have e2 := line_flat ih m cs fs k (o + P.cellsOf f.type) ys l2 hrest (by simpa using hl) (fun i g hg => by simpa using hx (i + 1) g (by simpa using hg)) h2
    rw [List.flatten_cons, ← e1, ← e2, ho, ← List.drop_drop, List.take_append_drop]

theorem arr_flat {n : Nat} (ih : One P H enc w base spare held n) (m k c : Nat) (e : TypeId) (he : tight P k e = true) (hc : P.cellsOf e = c) : ∀ (j : Nat) (cs : List Value) (xs : List (DataW H × List MemPlace)) (ls : List (List Value)),
    cs.length = j * c → xs.length = j → (∀ i, i < j → DataW.trod enc P w base spare held n e ((cs.drop (i * c)).take c) = xs[i]?) → (xs.map (·.1)).mapM (flat m) = some ls → cs = ls.flatten
  | 0, cs, xs, ls, hcs, hl, _, hm => by
    obtain rfl : xs = [] := List.eq_nil_of_length_eq_zero hl
    obtain rfl : ls = [] := by simpa using hm.symm
    simpa using hcs
  | j + 1, cs, xs, ls, hcs, hl, hx, hm => by
    obtain ⟨x, ys, rfl⟩ : ∃ x ys, xs = x :: ys := by
      match xs, hl with
      | x :: ys, _ => exact ⟨x, ys, rfl⟩
    rw [List.map_cons] at hm
    obtain ⟨l1, l2, h1, h2, rfl⟩ := mapM_cons hm
    have e1 := ih m k _ _ x.1 x.2 l1 he (hx 0 (by omega)) h1
    have e2 := arr_flat ih m k c e he hc j (cs.drop c) ys l2 (by rw [List.length_drop, hcs, Nat.add_mul]; omega) (by simpa using hl) (fun i hi => by
      have := hx (i + 1) (by omega)
      rw [List.drop_drop, show c + i * c = (i + 1) * c by rw [Nat.add_mul]; omega, this]
      rfl) h2
    rw [List.flatten_cons, ← e1, ← e2]
    rw [Nat.zero_mul, List.drop_zero, List.take_append_drop]

theorem one_all : ∀ fuel, One P H enc w base spare held fuel
  | 0 => by intro m k t cs d p l _ h; simp [DataW.trod] at h
  | fuel + 1 => by
    intro m k t cs d p l ht h hf
    cases k with
    | zero => simp [tight] at ht
    | succ k =>
      cases hu : P.underlying t with
      | none => rw [tight, hu] at ht; cases ht
      | some u =>
        rw [tight, hu] at ht
        cases u with
        | bool =>
          obtain ⟨b, rfl, hx⟩ := DataW.trod_bool hu h
          obtain ⟨rfl, rfl⟩ := Prod.mk.inj hx
          cases m <;> simp [flat] at hf
          exact hf
        | int kk =>
          obtain ⟨nn, rfl, hx, _⟩ := DataW.trod_int hu h
          obtain ⟨rfl, rfl⟩ := Prod.mk.inj hx
          cases m <;> simp [flat] at hf
          exact hf
        | struct fs =>
          obtain ⟨xs, n', hn, hx, hcl, hxl, hi⟩ := DataW.trod_struct hu h
          obtain ⟨rfl, rfl⟩ := Prod.mk.inj hx
          obtain rfl : fuel = n' := by omega
          cases m with
          | zero => simp [flat] at hf
          | succ m =>
            simp only [flat, Option.map_eq_some_iff] at hf
            obtain ⟨ls, hm, rfl⟩ := hf
            have ht' : line P k fs.toList 0 (P.cellsOf t) = true := ht
            rw [← hcl] at ht'
            have := line_flat (one_all fuel) m cs fs.toList k 0 xs ls ht' (by rw [hxl, Array.length_toList]) (fun i f hfi => hi i f (by rw [← Array.getElem?_toList]; exact hfi)) hm
            simpa using this
        | array nn e =>
          obtain ⟨xs, n', hn, hx, hcl, hxl, hi⟩ := DataW.trod_array hu h
          obtain ⟨rfl, rfl⟩ := Prod.mk.inj hx
          obtain rfl : fuel = n' := by omega
          simp only [Bool.and_eq_true, beq_iff_eq] at ht
          cases m with
          | zero => simp [flat] at hf
          | succ m =>
            simp only [flat, Option.map_eq_some_iff] at hf
            obtain ⟨ls, hm, rfl⟩ := hf
            exact arr_flat (one_all fuel) m k _ e ht.2 rfl nn cs xs ls (by rw [hcl, ht.1]) hxl hi hm
        | _ => cases ht
end

/-- One variable of the list: its cells. -/
theorem laid_cells {P : Program} {w : World} {name : String} {g : Nat} {t : TypeId} {d : DataW Unit} {l : List Value} {cs : Array Value} {fuel : Nat} {p : List MemPlace} {enc : TypeId × Value → Unit} {spare : Nat → Bool} {held : Bool} (hg : P.globalNamed name = some g)
    (hv : w.var? P name = some cs) (hd : DataW.trod enc P w 0 spare held fuel t cs.toList = some (d, p)) (ht : tight P 8 t = true) (hf : flat 8 d = some l) (i : Nat) (v : Value) (hi : l[i]? = some v) : w.cell? ⟨g, i, none⟩ = some v := by
  have e := one_all fuel 8 8 t cs.toList d p l ht hd hf
  rw [World.var?_cell hg hv i, ← Array.getElem?_toList, e]
  exact hi

end Go.Proofs.YtagkncjdohljgaaDoor.ZLaid
