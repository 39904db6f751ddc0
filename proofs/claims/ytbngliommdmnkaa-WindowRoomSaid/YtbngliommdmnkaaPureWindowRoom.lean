/- What Room tells is no more than any of the four numbers, and one more would be too many: for every four numbers of 64 bits; no further condition. -/
import Derived.Test.YtbngliommdmnkaaQWindowRoomx1
namespace Go.Proofs.Ytbngliommdmnkaa.Pure
open Go.RowKit Go.Proofs.Ytbngliommdmnkaa.QWindowRoom Go.Proofs.YtbngliommdmnkaaW.PrintWords Go.Proofs.YtbngliommdmnkaaW.PrintLast Go.Proofs.YtbngliommdmnkaaW.PrintMore

theorem first_room : heraldlaw09_first.f = some true := by decide +kernel

theorem mn_spec (a b : Int) : (mn a b = a ∧ a ≤ b) ∨ (mn a b = b ∧ b ≤ a) := by
  unfold mn; split <;> omega
theorem mx_spec (a b : Int) : (mx a b = a ∧ b ≤ a) ∨ (mx a b = b ∧ a ≤ b) := by
  unfold mx; split <;> omega

theorem WindowRoom : heraldlaw09_WindowRoom.Pure := by
  intro a b c d _ _ _ _
  unfold heraldlaw09_WindowRoom.f
  rw [first_room]
  simp only [window_Room.f, Option.bind_some, if_true]
  generalize e3 : mx 0 (mn (mn (mn a b) c) d) = r
  have h1 := mn_spec a b
  have h2 := mn_spec (mn a b) c
  have h3 := mn_spec (mn (mn a b) c) d
  have h4 := mx_spec 0 (mn (mn (mn a b) c) d)
  rw [e3] at h4
  by_cases hr : r = 0
  · rw [if_pos hr]
    by_cases ha : a ≤ 0
    · rw [if_pos ha]
    · rw [if_neg ha]
      by_cases hb : b ≤ 0
      · rw [if_pos hb]
      · rw [if_neg hb]
        by_cases hc : c ≤ 0
        · rw [if_pos hc]
        · rw [if_neg hc]
          rw [decide_eq_true (by omega : d ≤ 0)]
  · rw [if_neg hr, if_neg (by omega), if_neg (by omega), if_neg (by omega), if_neg (by omega), if_neg (by omega)]
    by_cases ha : r = a
    · rw [if_pos ha]
    · rw [if_neg ha]
      by_cases hb : r = b
      · rw [if_pos hb]
      · rw [if_neg hb]
        by_cases hc : r = c
        · rw [if_pos hc]
        · rw [if_neg hc]
          have : r = d := by omega
          rw [this, beq_self_eq_true]

end Go.Proofs.Ytbngliommdmnkaa.Pure
