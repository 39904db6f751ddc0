/- What the arguments of a call read as, kind by kind: a value whose cells can be read as data is a plain Lean value, its numbers fit their kinds, its texts and lists are as long as the reading says. No condition. -/
import Derived.Test.YtagkncjdohljgaaDoorRows
import Derived.Test.YtagkncjdohljgaaDoorWWords
import Derived.OpenShut
import Derived.ChangeArms
import Derived.SizedLaws
namespace Go.Proofs.YtagkncjdohljgaaDoor.ZRow
open Go Go.RowKit Go.Proofs.YtagkncjdohljgaaDoorW.PrintWords

theorem add_add (a : Addr) (m n : Nat) : (a.add m).add n = a.add (m + n) := by
  unfold Addr.add
  by_cases hm : m = 0
  · subst hm; simp
  · by_cases hn : n = 0
    · subst hn; simp
    · simp [hm, hn, Nat.add_assoc]

/-- What the cells of a type read as: a value of the kind d with G, of bulk at least μ. -/
structure Rd (P : Program) (t : TypeId) {α : Type} (d : Kd α) (G : α → Prop) (μ : α → Nat) : Prop where
  size : P.cellsOf t = d.sz
  read : ∀ {H : Type} {enc : TypeId × Value → H} {W : World} {base : Nat} {spare : Nat → Bool} {held : Bool} {fuel : Nat} {cs : List Value} {x : DataW H × List MemPlace},
    DataW.trod enc P W base spare held fuel t cs = some x →
    ∃ v : α, d.K W v cs ∧ ((∀ n ∈ x.1.weights P t, n ≤ reachBytes) → G v) ∧ μ v ≤ Rows.uptoBulk x.1

theorem Rd.int {P : Program} {t : TypeId} {k : IntKind} (ht : P.underlying t = some (.int k)) (hs : P.cellsOf t = 1) : Rd P t (Kd.int k) (fun n => (Lit.int k n).wf = true) (fun _ => 1) where
  size := hs
  read := by
    intro H enc W base spare held fuel cs x h
    obtain ⟨n, rfl, rfl, hw⟩ := DataW.trod_int ht h
    exact ⟨n, rfl, fun _ => hw, by simp [Rows.uptoBulk]⟩

theorem Rd.bool {P : Program} {t : TypeId} (ht : P.underlying t = some .bool) (hs : P.cellsOf t = 1) : Rd P t Kd.bool (fun _ => True) (fun _ => 1) where
  size := hs
  read := by
    intro H enc W base spare held fuel cs x h
    obtain ⟨b, rfl, rfl⟩ := DataW.trod_bool ht h
    exact ⟨b, rfl, fun _ => trivial, by simp [Rows.uptoBulk]⟩

theorem Rd.string {P : Program} {t : TypeId} (ht : P.underlying t = some .string) (hs : P.cellsOf t = 1) : Rd P t Kd.string (fun s => s.size ≤ 140737488351232) (fun s => s.size + 1) where
  size := hs
  read := by
    intro H enc W base spare held fuel cs x h
    obtain ⟨s, rfl, rfl, hm⟩ := DataW.trod_string ht h
    refine ⟨s, rfl, fun hw => ?_, ?_⟩
    · have := hw s.data.toList.length (by simp [DataW.weights])
      rw [data_length] at this
      exact this
    · simp [Rows.uptoBulk]

theorem weightsAll_mem {H : Type} {P : Program} {e : TypeId} {d : DataW H} {l : List (DataW H)} (hd : d ∈ l) : ∀ n ∈ d.weights P e, n ∈ DataW.weightsAll P e l := by
  induction l with
  | nil => cases hd
  | cons a l ih =>
    intro n hn
    simp only [DataW.weightsAll, List.mem_append]
    rcases List.mem_cons.1 hd with rfl | h
    · exact Or.inl hn
    · exact Or.inr (ih h n hn)

theorem bulkAll_of {H α : Type} (μ : α → Nat) : ∀ (vs : List α) (ds : List (DataW H)), vs.length = ds.length → (∀ (i : Nat) v d, vs[i]? = some v → ds[i]? = some d → μ v ≤ Rows.uptoBulk d) → (vs.map μ).sum ≤ Rows.uptoBulkAll ds
  | [], [], _, _ => by simp
  | [], _ :: _, h, _ => by simp at h
  | _ :: _, [], h, _ => by simp at h
  | v :: vs, d :: ds, h, hi => by
    have h1 := hi 0 v d rfl rfl
    have h2 := bulkAll_of μ vs ds (by simpa using h) (fun i v' d' hv hd => hi (i + 1) v' d' (by simpa using hv) (by simpa using hd))
    simp only [List.map_cons, List.sum_cons, Rows.uptoBulkAll]
    omega

/-- A list out of its places. -/
theorem list_of {α : Type} (n : Nat) (R : Nat → α → Prop) (h : ∀ i, i < n → ∃ v, R i v) : ∃ vs : List α, vs.length = n ∧ ∀ (i : Nat) v, vs[i]? = some v → R i v := by
  induction n with
  | zero => exact ⟨[], rfl, fun i v hv => by simp at hv⟩
  | succ n ih =>
    obtain ⟨vs, hl, hv⟩ := ih (fun i hi => h i (by omega))
    obtain ⟨v, hr⟩ := h n (by omega)
    refine ⟨vs ++ [v], by simp [hl], fun i u hu => ?_⟩
    by_cases hi : i < vs.length
    · rw [List.getElem?_append_left hi] at hu
      exact hv i u hu
    · rw [List.getElem?_append_right (by omega)] at hu
      have h0 : i - vs.length = 0 := by
        have := (List.getElem?_eq_some_iff.1 hu).1
        simp at this
        omega
      rw [h0] at hu
      obtain rfl : v = u := by simpa using hu
      obtain rfl : i = n := by omega
      exact hr

/-- What is good of a list: its length's bytes, and each element. -/
def GdL {α : Type} (bytes : Nat) (G : α → Prop) (l : List α) : Prop := l.length * bytes ≤ 140737488351232 ∧ ∀ v ∈ l, G v
def muL {α : Type} (μ : α → Nat) (l : List α) : Nat := (l.map μ).sum + 1

theorem muL_len {α : Type} {μ : α → Nat} (h1 : ∀ v, 1 ≤ μ v) (l : List α) : l.length + 1 ≤ muL μ l := by
  unfold muL
  have : l.length ≤ (l.map μ).sum := by
    induction l with
    | nil => simp
    | cons a l ih => have := h1 a; simp only [List.length_cons, List.map_cons, List.sum_cons]; omega
  omega

theorem muL_mem {α : Type} {μ : α → Nat} {l : List α} {v : α} (h : v ∈ l) : μ v + 1 ≤ muL μ l := by
  unfold muL
  have : μ v ≤ (l.map μ).sum := by
    induction l with
    | nil => cases h
    | cons a l ih =>
      simp only [List.map_cons, List.sum_cons]
      rcases List.mem_cons.1 h with rfl | h
      · omega
      · have := ih h; omega
  omega

theorem Rd.slice {P : Program} {t e : TypeId} {α : Type} {d : Kd α} {G : α → Prop} {μ : α → Nat} {bytes : Nat} (ht : P.underlying t = some (.slice e)) (hs : P.cellsOf t = 1) (hb : P.bytesOf e = bytes) (he : Rd P e d G μ) :
    Rd P t (Kd.slice e d) (GdL bytes G) (muL μ) where
  size := hs
  read := by
    intro H enc W base spare held fuel cs x h
    rcases DataW.trod_slice ht h with ⟨rfl, rfl⟩ | ⟨a, len, cap, elems, rest, n, _, rfl, rfl, _, hl, hm, hlen, hel, hsp, hns⟩
    · refine ⟨[], ⟨none, 0, rfl, Nat.le_refl _, rfl, by simp, fun h0 => absurd h0 (by simp)⟩, fun _ => ⟨by simp, fun v hv => by simp at hv⟩, by simp [muL, Rows.uptoBulk]⟩
    · have each : ∀ i, i < len → ∃ v : α, ∃ c y, elems[i]? = some y ∧ c.length = d.sz ∧ d.K W v c ∧ (∀ j u, c[j]? = some u → W.cell? (a.add (i * d.sz + j)) = some u) ∧ ((∀ m ∈ y.1.weights P e, m ≤ reachBytes) → G v) ∧ μ v ≤ Rows.uptoBulk y.1 := by
        intro i hi
        have h1 := hel i hi
        obtain ⟨y, hy⟩ : ∃ y, elems[i]? = some y := ⟨elems[i]'(by omega), List.getElem?_eq_getElem (by omega)⟩
        rw [hy, Option.bind_eq_some_iff] at h1
        obtain ⟨c, hc, hr⟩ := h1
        obtain ⟨v, hK, hG, hmu⟩ := he.read hr
        obtain ⟨_, hcl, hcc⟩ := World.cells?_some hc
        refine ⟨v, c, y, hy, d.K_len hK, hK, fun j u hu => ?_, hG, hmu⟩
        have hj := (List.getElem?_eq_some_iff.1 hu).1
        have h2 := hcc j (by omega)
        rw [add_add, he.size] at h2
        rw [h2, hu]
      obtain ⟨vs, hvl, hvs⟩ := list_of len _ each
      have hz2 : len ≤ 9223372036854775807 := by simp only [maxLen] at hm; omega
      refine ⟨vs, ⟨some a, cap, by rw [hvl], by omega, rfl, by omega, fun _ => ⟨a, rfl, fun j p hp => ?_⟩⟩, fun hw => ⟨?_, fun v hv => ?_⟩, ?_⟩
      · obtain ⟨c, y, _, h1, h2, h3, _⟩ := hvs j p hp
        exact ⟨c, h1, h2, h3⟩
      · have := hw (((elems.map (·.1)).length + (rest.map (·.1)).length) * P.bytesOf e) (by simp [DataW.weights, ht])
        rw [hb, List.length_map, hlen] at this
        have h2 : vs.length * bytes ≤ (len + (rest.map (·.1)).length) * bytes := Nat.mul_le_mul_right _ (by omega)
        exact Nat.le_trans h2 this
      · obtain ⟨i, hi⟩ := List.getElem?_of_mem hv
        obtain ⟨c, y, hy, _, _, _, hG, _⟩ := hvs i v hi
        refine hG fun m hm => hw m ?_
        simp only [DataW.weights, ht, List.mem_cons, List.mem_append]
        exact Or.inr (Or.inl (weightsAll_mem (List.mem_map.2 ⟨y, List.mem_of_getElem? hy, rfl⟩) m hm))
      · have h1 := bulkAll_of μ vs (elems.map (·.1)) (by rw [List.length_map]; omega) (fun i v dd hv hd => by
          obtain ⟨c, y, hy, _, _, _, _, hmu⟩ := hvs i v hv
          rw [List.getElem?_map, hy] at hd
          obtain rfl : y.1 = dd := by simpa using hd
          exact hmu)
        simp only [muL, Rows.uptoBulk]
        omega

/-- Fields in line, the first at the offset o. -/
structure RdF (P : Program) (fs : List Field) (o : Nat) {α : Type} (d : Kd α) (G : α → Prop) (μ : α → Nat) : Prop where
  read : ∀ {H : Type} {enc : TypeId × Value → H} {W : World} {base : Nat} {spare : Nat → Bool} {held : Bool} {n : Nat} {cs : List Value} {xs : List (DataW H × List MemPlace)},
    xs.length = fs.length → (∀ (i : Nat) (f : Field), fs[i]? = some f → DataW.trod enc P W base spare held n f.type ((cs.drop f.offset).take (P.cellsOf f.type)) = xs[i]?) → (cs.drop o).length = d.sz →
    ∃ v : α, d.K W v (cs.drop o) ∧ ((∀ m ∈ DataW.weightsEach P (fs.map (·.type)) (xs.map (·.1)), m ≤ reachBytes) → G v) ∧ μ v ≤ Rows.uptoBulkAll (xs.map (·.1))

theorem RdF.last {P : Program} {f : Field} {o : Nat} {α : Type} {d : Kd α} {G : α → Prop} {μ : α → Nat} (hf : f.offset = o) (h : Rd P f.type d G μ) : RdF P [f] o d G μ where
  read := by
    intro H enc W base spare held n cs xs hl hx hc
    obtain ⟨x, rfl⟩ : ∃ x, xs = [x] := by
      match xs, hl with
      | [x], _ => exact ⟨x, rfl⟩
    have h1 := hx 0 f rfl
    rw [hf, List.take_of_length_le (by rw [hc, h.size]; omega)] at h1
    obtain ⟨v, hK, hG, hmu⟩ := h.read h1
    exact ⟨v, hK, fun hw => hG (fun m hm => hw m (by simp [DataW.weightsEach, hm])), by simp only [List.map_cons, List.map_nil, Rows.uptoBulkAll]; omega⟩

theorem RdF.cons {P : Program} {f : Field} {fs : List Field} {o : Nat} {α β : Type} {d : Kd α} {d2 : Kd β} {G : α → Prop} {G2 : β → Prop} {μ : α → Nat} {μ2 : β → Nat} (hf : f.offset = o) (h : Rd P f.type d G μ) (h2 : RdF P fs (o + d.sz) d2 G2 μ2) :
    RdF P (f :: fs) o (Kd.pair d d2) (fun v => G v.1 ∧ G2 v.2) (fun v => μ v.1 + μ2 v.2) where
  read := by
    intro H enc W base spare held n cs xs hl hx hc
    obtain ⟨x, ys, rfl⟩ : ∃ x ys, xs = x :: ys := by
      match xs, hl with
      | x :: ys, _ => exact ⟨x, ys, rfl⟩
    have hc' : (cs.drop o).length = d.sz + d2.sz := hc
    have h1 := hx 0 f rfl
    rw [hf, h.size] at h1
    obtain ⟨v, hK, hG, hmu⟩ := h.read h1
    obtain ⟨u, hK2, hG2, hmu2⟩ := h2.read (xs := ys) (by simpa using hl) (fun i g hg => by simpa using hx (i + 1) g (by simpa using hg)) (by rw [List.length_drop] at hc' ⊢; omega)
    refine ⟨(v, u), ⟨(cs.drop o).take d.sz, cs.drop (o + d.sz), ?_, hK, hK2⟩, fun hw => ⟨hG (fun m hm => hw m (by simp [DataW.weightsEach, hm])), hG2 (fun m hm => hw m (by simp only [List.map_cons, DataW.weightsEach, List.mem_append]; exact Or.inr hm))⟩, ?_⟩
    · rw [← List.drop_drop, List.take_append_drop]
    · simp only [List.map_cons, Rows.uptoBulkAll]; omega

theorem Rd.struct {P : Program} {t : TypeId} {fs : Array Field} {α β : Type} {d : Kd α} {G : α → Prop} {μ : α → Nat} (ht : P.underlying t = some (.struct fs)) (hs : P.cellsOf t = d.sz) (h : RdF P fs.toList 0 d G μ) (g : β → α) (mk : α → β) (hg : ∀ v, g (mk v) = v) :
    Rd P t (Kd.iso d g) (fun v => G (g v)) (fun v => μ (g v) + 1) where
  size := hs
  read := by
    intro H enc W base spare held fuel cs x hx
    obtain ⟨xs, n, _, rfl, hl, hxl, hi⟩ := DataW.trod_struct ht hx
    obtain ⟨v, hK, hG, hmu⟩ := h.read (cs := cs) (xs := xs) (by rw [hxl, Array.length_toList]) (fun i f hf => hi i f (by rw [← Array.getElem?_toList]; exact hf)) (by rw [List.drop_zero, hl, hs])
    rw [List.drop_zero] at hK
    refine ⟨mk v, ?_, fun hw => ?_, ?_⟩
    · show d.K W (g (mk v)) cs
      rw [hg]; exact hK
    · show G (g (mk v))
      rw [hg]
      refine hG fun m hm => hw m ?_
      simp only [DataW.weights, ht]
      exact hm
    · show μ (g (mk v)) + 1 ≤ _
      rw [hg]
      simp only [Rows.uptoBulk]
      omega

end Go.Proofs.YtagkncjdohljgaaDoor.ZRow
