/- What the laws of this chapter share: an event on a table, the document's first example. The package's variables hold what the program lays. -/
import Derived.Test.YtagkncjdohljgaaDoorMDoB
import Derived.Test.YtagkncjdohljgaaDoorMRange
namespace Go.Proofs.YtagkncjdohljgaaDoor.St
open Go Go.RowKit Go.Proofs.YtagkncjdohljgaaDoorW.PrintWords Go.Proofs.YtagkncjdohljgaaDoorW.PrintLast Go.Proofs.YtagkncjdohljgaaDoorW.PrintMore Go.Proofs.YtagkncjdohljgaaDoor.QL
set_option linter.unusedSimpArgs false
set_option linter.unusedVariables false
set_option maxHeartbeats 4000000
set_option maxRecDepth 100000
section
variable {w0 w w1 w2 : World} {base p : Nat} {S : Nat → Prop} {T : Tb}
theorem DoPost.pre (hb : Below w0.heap.size w0 w) (h : DoPost w w1 base S p T) : DoPost w0 w1 base S p T := by
  obtain ⟨S', h1, h2, h3⟩ := h
  exact ⟨S', h1, (Fr.of_below hb S).then_ h2 (fun _ e => Or.inl e), fun k hk => (h3 k hk).imp (fun e => e) (fun e => Nat.le_trans hb.size e)⟩
theorem DoPost.post (h : DoPost w w1 base S p T) (hb : Below w1.heap.size w1 w2) : DoPost w w2 base S p T := by
  obtain ⟨S', h1, h2, h3⟩ := h
  exact ⟨S', h1.low hb, h2.low hb, h3⟩
/-- Below base nothing changes. -/
theorem DoPost.below {B : Nat} (h : DoPost w w1 base S p T) (hb : Below B w0 w) (hB : B ≤ w.heap.size) (hs : ∀ k, S k → B ≤ k) : Below B w0 w1 := by
  obtain ⟨S', h1, h2, h3⟩ := h
  exact Fr.below hb hB h2 hs
end
theorem done_calls (base : Nat) (S : Nat → Prop) (p : Nat) (T : Tb) (two : Bool) (id : Int) (got : Bool) (k : Int) (w : World) (h : TAt w base S p T) (hG : GL w) (hid : W64 id) : Calls Tryd.prog 11 #[.pointer (some ⟨p, 0, none⟩), .agg #[.bool two, .int .i64 id, .bool got, .int .i64 k]] w fun e w' => e = .returned (.tuple #[.int .i64 (T.act id got k).1.1, .int .i64 (T.act id got k).1.2]) ∧ DoPost w w' base S p (T.act id got k).2 := by
  obtain ⟨⟨⟨a, b⟩, T'⟩, hR⟩ : ∃ R, T.act id got k = R := ⟨_, rfl⟩
  rw [hR]
  have HR := Aside0.mk hR
  have H := Aside0.mk h
  have HG := Aside0.mk hG
  have HW := Aside0.mk hid
  clear hR h hG hid
  go_enter Tryd.func11, Tryd.ntmps11
  go_upto_region 2 with (go_at_call 27; refine (do_calls base S p T id got k _ (H.out.low (below_alloc (Below.refl _ _) _)) (HG.out.below (below_alloc (Below.refl _ _) _)) HW.out).mono ?_; rintro e w1 ⟨rfl, hP⟩; rw [HR.out] at hP ⊢; have HP := Aside0.mk (DoPost.pre (below_alloc (Below.refl _ _) _) hP); clear hP)
  obtain ⟨W, hW⟩ : ∃ W, w1.alloc (.cells #[.int .i64 a, .int .i64 b] 53) = W := ⟨_, rfl⟩
  obtain ⟨g, hg⟩ : ∃ g, w1.heap.size = g := ⟨_, rfl⟩
  have hb : Below w1.heap.size w1 W := by rw [← hW]; exact below_alloc (Below.refl _ _) _
  have HP1 := Aside0.mk (HP.out.post hb)
  have c0 : W.cell? ⟨g, 0, none⟩ = some (.int .i64 a) := by rw [← hW, ← hg]; exact blk_cell (blk_new _ _) 0
  have c1 : W.cell? ⟨g, 1, none⟩ = some (.int .i64 b) := by rw [← hW, ← hg]; exact blk_cell (blk_new _ _) 1
  rw [hW, hg]
  clear hW hg hb
  go_quiet (fail)
  go_wp2_with fail
  go_ret2
  exact ⟨rfl, HP1.out.post (pw_below_drewN (Below.refl _ _) _)⟩
end Go.Proofs.YtagkncjdohljgaaDoor.St
