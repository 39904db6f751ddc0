/- The map of what waits, told as a function of the streams' numbers. Each statement has its own conditions. -/
import Derived.Test.YtedkjbdkokdgdaaProg
import Derived.Test.YtedkjbdkokdgdaaWMore
import Derived.Maps.OwnOps
import Derived.Maps.OwnSet
import Derived.Maps.RangeWalk
namespace Go.Proofs.Ytedkjbdkokdgdaa.Sh
open Go Go.RowKit Go.Proofs.YtedkjbdkokdgdaaW.PrintWords Go.Proofs.YtedkjbdkokdgdaaW.PrintLast Go.Proofs.YtedkjbdkokdgdaaW.PrintMore
set_option linter.unusedSimpArgs false
set_option linter.unusedVariables false
set_option maxHeartbeats 2000000
set_option maxRecDepth 100000
/-- What waits of one stream. -/
structure Qu where
  t : ByteArray
  o : Bool
  e : Bool
def Qu.zero : Qu := ⟨ByteArray.empty, false, false⟩
def Qu.cells (q : Qu) : Array Value := #[.string q.t, .bool q.o, .bool q.e]
def Qu.val (q : Qu) : Value := .agg q.cells
def QD (q : Qu) : DataW Unit := .agg [.lit (.string q.t.data.toList), .lit (.bool q.o), .lit (.bool q.e)]
theorem QD_inj {p q : Qu} (h : QD p = QD q) : p = q := by
  obtain ⟨⟨⟨a⟩⟩, b, c⟩ := p
  obtain ⟨⟨⟨a'⟩⟩, b', c'⟩ := q
  unfold QD at h
  injection h with h
  injection h with h1 h
  injection h with h2 h
  injection h with h3 _
  injection h1 with h1
  injection h1 with h1
  injection h2 with h2
  injection h2 with h2
  injection h3 with h3
  injection h3 with h3
  simp only at h1
  subst h1; subst h2; subst h3
  rfl
/-- How an element reads. -/
def rdQ : Value → Option (DataW Unit × List MemPlace)
  | .agg cs => match cs.toList with
    | [.string t, .bool o, .bool e] => some (QD ⟨t, o, e⟩, [])
    | _ => none
  | _ => none
theorem rdQ_val (q : Qu) : rdQ q.val = some (QD q, []) := rfl
theorem rdQ_inv {v : Value} {z : DataW Unit × List MemPlace} (h : rdQ v = some z) : ∃ q : Qu, v = q.val ∧ z = (QD q, []) := by
  unfold rdQ at h
  split at h
  · rename_i cs
    split at h
    · rename_i t o e hcs
      obtain ⟨l⟩ := cs
      simp only at hcs
      subst hcs
      exact ⟨⟨t, o, e⟩, rfl, (Option.some.inj h).symm⟩
    · cases h
  · cases h
theorem KK : Maps.Keyed Try.prog 2 := Maps.int_keyed Try.underlying2
def W64 (n : Int) : Prop := -9223372036854775808 ≤ n ∧ n ≤ 9223372036854775807
theorem wf_of {n : Int} (h : W64 n) : (Lit.int .i64 n).wf = true := by
  obtain ⟨h1, h2⟩ := h
  simp [Lit.wf, IntKind.min, IntKind.max, IntKind.signed, IntKind.bits]
  omega
theorem of_wf {n : Int} (h : (Lit.int .i64 n).wf = true) : W64 n := by
  simp [Lit.wf, IntKind.min, IntKind.max, IntKind.signed, IntKind.bits] at h
  unfold W64
  omega
theorem key_of {id : Int} (h : W64 id) : keyOf Try.prog 2 (.int .i64 id) = some (.int .i64 id) := Maps.keyOf_int_mk Try.underlying2 (wf_of h)
theorem isKey (id : Int) : WideAt.IsKeyLit (.int .i64 id) := trivial
/-- The function m but at id. -/
def updM (m : Int → Qu) (id : Int) (q : Qu) : Int → Qu := fun i => if i = id then q else m i
/-- Block b of w is a map of at most n entries that holds m. -/
structure MQ (w : World) (b n : Nat) (m : Int → Qu) : Prop where
  own : ∃ D : DataW Unit, w.ownsMap Try.prog 2 rdQ b n D ∧ ∀ id : Int, W64 id → D.atKey (.int .i64 id) (QD Qu.zero) = QD (m id)
  sup : ∀ id, m id ≠ Qu.zero → 1 ≤ id ∧ id ≤ 2147483647
section
variable {w w' : World} {b n : Nat} {m : Int → Qu}
theorem MQ.lt (h : MQ w b n m) : b < w.heap.size := by obtain ⟨D, h1, _⟩ := h.own; exact h1.lt
theorem MQ.kept {row : Option Nat} (h : MQ w b n m) (hg : w.grownBy w' row) (hne : some b ≠ row) : MQ w' b n m := by
  obtain ⟨D, h1, h2⟩ := h.own
  exact ⟨⟨D, h1.kept hg hne, h2⟩, h.sup⟩
theorem grown_of {n : Nat} (hb : Below w.heap.size w w') : w.grownBy w' none := ⟨hb.os, hb.tape, hb.output, hb.size, fun i hi _ => hb.block i hi⟩
theorem MQ.low (h : MQ w b n m) (hb : Below w.heap.size w w') : MQ w' b n m := h.kept (grown_of (n := 0) hb) (by simp)
theorem MQ.mono (h : MQ w b n m) {n' : Nat} (hn : n ≤ n') : MQ w b n' m := by
  obtain ⟨D, h1, h2⟩ := h.own
  exact ⟨⟨D, h1.mono hn, h2⟩, h.sup⟩
theorem MQ.made (w : World) : MQ (w.alloc (.map #[] 0)) w.heap.size 0 (fun _ => Qu.zero) :=
  ⟨⟨_, World.ownsMap_made w _ _ _, fun id _ => rfl⟩, fun id h => absurd rfl h⟩
theorem zero65 (w : World) : (zeroValue 65).run Try.prog w = .ok Qu.zero.val w := by kernel_rfl
theorem MQ.look (h : MQ w b n m) {id : Int} (hid : W64 id) : (Instr.lookup 58 (.map (some b)) (.int .i64 id) false).run Try.prog w = .ok (.agg #[.string (m id).t, .bool (m id).o, .bool (m id).e]) w := by
  obtain ⟨D, h1, h2⟩ := h.own
  obtain ⟨v, ps, hrun, hv⟩ := h1.lookup KK Try.underlying58 (zero65 w) (rdQ_val _) (key_of hid)
  rw [h2 id hid] at hv
  obtain ⟨q, rfl, hz⟩ := rdQ_inv hv
  obtain rfl := QD_inj (congrArg Prod.fst hz)
  exact hrun
theorem MQ.put (h : MQ w b n m) (hn : n < maxLen) {id : Int} (h1 : 1 ≤ id) (h2 : id ≤ 2147483647) (q : Qu) : ∃ w', (Instr.mapUpdate 58 (.map (some b)) (.int .i64 id) (.agg #[.string q.t, .bool q.o, .bool q.e])).run Try.prog w = .ok () w' ∧ MQ w' b (n + 1) (updM m id q) ∧ w.grownBy w' (some b) := by
  obtain ⟨D, g1, g2⟩ := h.own
  obtain ⟨w', hrun, ho, hg⟩ := g1.update KK Try.underlying58 hn (key_of (id := id) ⟨by omega, by omega⟩) (rdQ_val q)
  refine ⟨w', hrun, ⟨⟨_, ho, fun i hi => ?_⟩, fun i hi => ?_⟩, hg⟩
  · unfold updM
    by_cases e : i = id
    · subst e
      rw [if_pos rfl, Maps.atKey_put_same g1.isMap (isKey _)]
    · rw [if_neg e, Maps.atKey_put_other (by simp; exact e), g2 i hi]
  · unfold updM at hi
    by_cases e : i = id
    · omega
    · rw [if_neg e] at hi
      exact h.sup i hi
theorem MQ.drop (h : MQ w b n m) {id : Int} (hid : W64 id) (ty : TypeId) : ∃ w', (Builtin.delete_ #[58, 2] ty #[.map (some b), .int .i64 id]).run Try.prog w = .ok (.tuple #[]) w' ∧ MQ w' b n (updM m id Qu.zero) ∧ w.grownBy w' (some b) := by
  obtain ⟨D, g1, g2⟩ := h.own
  obtain ⟨w', hrun, ho, hg⟩ := g1.drop KK Try.underlying58 (key_of hid) ty
  refine ⟨w', hrun, ⟨⟨_, ho, fun i hi => ?_⟩, fun i hi => ?_⟩, ?_⟩
  · unfold updM
    by_cases e : i = id
    · subst e
      rw [if_pos rfl, Maps.atKey_del_same]
    · rw [if_neg e, Maps.atKey_del_other (by simp; exact e), g2 i hi]
  · unfold updM at hi
    by_cases e : i = id
    · rw [if_pos e] at hi; exact absurd rfl hi
    · rw [if_neg e] at hi
      exact h.sup i hi
  · exact hg.grown
end
end Go.Proofs.Ytedkjbdkokdgdaa.Sh
