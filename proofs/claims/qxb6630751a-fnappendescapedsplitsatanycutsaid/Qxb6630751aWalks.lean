/-
  The leaves of the two laws on appendEscaped, walked.
-/
import Derived.Test.Qxb6630751aRows
import Derived.Test.Qxb6630751aLaws
import Derived.Test.Qxb6630751aPlain
import Derived.WalkKit
import Derived.WalkSmall
import Derived.WalkLawsBesides
import Derived.WalkSpells
import Derived.Deep.QuietTactic
import Derived.BigQuiet
namespace Go.Proofs.Qxb6630751a
open Go.RowKit

theorem Try.info5 : (Try.prog.info? 5).map (fun i => (i.zero, i.size, i.bytes)) = some (some (.int .u8 0), 1, 1) := by kernel_rfl

/-- zzB1Safe. -/
theorem safe_yes (c : Int) (w : World) (h : Pl.safe c = true) :
    Calls Try.prog 9 #[.int .u8 c] w fun e w' => e = .returned (.bool true) ∧ w' = w := by
  rw [Pl.safe_true] at h
  obtain ⟨⟨h1, h2⟩, h3, h4, h5, h6, h7⟩ := h
  have g3 : (c == 34) = false := beq_eq_false_iff_ne.2 h3
  have g4 : (c == 44) = false := beq_eq_false_iff_ne.2 h4
  have g5 : (c == 59) = false := beq_eq_false_iff_ne.2 h5
  have g6 : (c == 92) = false := beq_eq_false_iff_ne.2 h6
  have g7 : (c == 37) = false := beq_eq_false_iff_ne.2 h7
  clear h3 h4 h5 h6 h7
  go_enter Try.func9, Try.ntmps9
  go_wp2
  go_ret
  exact ⟨rfl, rfl⟩

theorem safe_no (c : Int) (w : World) (h : Pl.safe c = false) :
    Calls Try.prog 9 #[.int .u8 c] w fun e w' => e = .returned (.bool false) ∧ w' = w := by
  rw [Pl.safe_false] at h
  by_cases h1 : c < 33
  · clear h
    go_enter Try.func9, Try.ntmps9
    go_wp2
    go_ret
    exact ⟨rfl, rfl⟩
  by_cases h2 : 126 < c
  · clear h
    go_enter Try.func9, Try.ntmps9
    go_wp2
    go_ret
    exact ⟨rfl, rfl⟩
  have h3 : c = 34 ∨ c = 44 ∨ c = 59 ∨ c = 92 ∨ c = 37 := by omega
  clear h h1 h2
  rcases h3 with rfl | rfl | rfl | rfl | rfl
  all_goals
    go_enter Try.func9, Try.ntmps9
    go_wp2
    go_ret
    exact ⟨rfl, rfl⟩

/-- isBaggageOctet. -/
theorem oct_yes (c : Int) (w : World) (h : Pl.oct c = true) :
    Calls Try.prog 12 #[.int .u8 c] w fun e w' => e = .returned (.bool true) ∧ w' = w := by
  rw [Pl.oct_true] at h
  rcases h with rfl | ⟨h1, h2⟩ | ⟨h1, h2⟩ | ⟨h1, h2⟩ | ⟨h1, h2⟩
  · go_enter Try.func12, Try.ntmps12
    go_wp2
    go_ret
    exact ⟨rfl, rfl⟩
  all_goals
    have g0 : (c == 33) = false := beq_eq_false_iff_ne.2 (by omega)
    go_enter Try.func12, Try.ntmps12
    go_wp2
    go_ret
    exact ⟨rfl, rfl⟩

end Go.Proofs.Qxb6630751a
