/- What the program's Room tells is what the document's tells: for every four numbers of 64 bits; no further condition. -/
import Derived.Test.YtbngliommdmnkaaQWindowRoomsx1
namespace Go.Proofs.Ytbngliommdmnkaa.Pure
open Go.RowKit Go.Proofs.Ytbngliommdmnkaa.QWindowRooms Go.Proofs.YtbngliommdmnkaaW.PrintWords Go.Proofs.YtbngliommdmnkaaW.PrintLast Go.Proofs.YtbngliommdmnkaaW.PrintMore

theorem first_rooms : heraldlaw09_first.f = some true := by decide +kernel

theorem mn_spec (a b : Int) : (mn a b = a ∧ a ≤ b) ∨ (mn a b = b ∧ b ≤ a) := by
  unfold mn; split <;> omega
theorem mx_spec (a b : Int) : (mx a b = a ∧ b ≤ a) ∨ (mx a b = b ∧ a ≤ b) := by
  unfold mx; split <;> omega

theorem ref_room (a b n r : Int) (hr : (0 ≤ r ∧ r ≤ max 0 n) ∧ (r ≤ max 0 a ∧ r ≤ max 0 b) ∧ (r = 0 ∨ r = n ∨ r = a ∨ r = b) ∧ (r = 0 → n ≤ 0 ∨ a ≤ 0 ∨ b ≤ 0)) :
    heraldref09_Room.j0 2 a b n = some r := by
  simp only [heraldref09_Room.j0, heraldref09_Room.j1]
  by_cases h1 : n > a
  · rw [if_pos h1]
    by_cases h2 : a > b
    · rw [if_pos h2]
      by_cases h3 : b < 0
      · rw [if_pos h3]; congr 1; omega
      · rw [if_neg h3]; congr 1; omega
    · rw [if_neg h2]
      by_cases h3 : a < 0
      · rw [if_pos h3]; congr 1; omega
      · rw [if_neg h3]; congr 1; omega
  · rw [if_neg h1]
    by_cases h2 : n > b
    · rw [if_pos h2]
      by_cases h3 : b < 0
      · rw [if_pos h3]; congr 1; omega
      · rw [if_neg h3]; congr 1; omega
    · rw [if_neg h2]
      by_cases h3 : n < 0
      · rw [if_pos h3]; congr 1; omega
      · rw [if_neg h3]; congr 1; omega

theorem WindowRooms : heraldlaw09_WindowRooms.Pure := by
  intro a b c d _ _ _ _
  refine ⟨2, ?_⟩
  unfold heraldlaw09_WindowRooms.f heraldref09_Room.f
  rw [first_rooms]
  simp only [window_Room.f, Option.bind_some, if_true]
  generalize e3 : mx 0 (mn (mn (mn a b) c) d) = r
  have h1 := mn_spec a b
  have h2 := mn_spec (mn a b) c
  have h3 := mn_spec (mn (mn a b) c) d
  have h4 := mx_spec 0 (mn (mn (mn a b) c) d)
  rw [e3] at h4
  by_cases hd : d < c
  · rw [if_pos hd, ref_room a b d r (by omega)]; simp
  · rw [if_neg hd, ref_room a b c r (by omega)]; simp

end Go.Proofs.Ytbngliommdmnkaa.Pure
