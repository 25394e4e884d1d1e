import Derived.Test.Qxb6614446aRows
import Derived.WalkKit
import Derived.WalkSpells
import Derived.WalkLawsBesides
namespace Go.Proofs.Qxb6614446a
open Go.RowKit

set_option maxHeartbeats 1600000 in
theorem split_main (a b c d : Int) (w : World) (hab : a ≤ b) (hbc : b ≤ c) :
    Calls Try.prog 3 #[.int .i64 a, .int .i64 b, .int .i64 c, .int .i64 d] w fun e w' => e = .returned (.bool true) ∧ Grown w w' := by
  by_cases hlt : a < b
  · rcases (show (d ≤ a ∧ d ≤ b ∧ d ≤ c) ∨ (a < d ∧ d ≤ b ∧ d ≤ c) ∨ (a < d ∧ b < d ∧ d ≤ c) ∨ (a < d ∧ b < d ∧ c < d) from by omega) with ⟨h, h', h''⟩ | ⟨h, h', h''⟩ | ⟨h, h', h''⟩ | ⟨h, h', h''⟩
    all_goals
      go_enter Try.func3, Try.ntmps3
      go_wp2
      go_ret
      exact ⟨rfl, by repeat (first | exact Grown.refl _ | apply Grown.drew | apply Grown.alloc)⟩
  · obtain rfl : a = b := by omega
    rcases (show (d ≤ a ∧ d ≤ c) ∨ (a < d ∧ d ≤ c) ∨ (a < d ∧ c < d) from by omega) with ⟨h, h'⟩ | ⟨h, h'⟩ | ⟨h, h'⟩
    all_goals
      go_enter Try.func3, Try.ntmps3
      go_wp2
      go_ret
      exact ⟨rfl, by repeat (first | exact Grown.refl _ | apply Grown.drew | apply Grown.alloc)⟩

theorem split_walk (a b c d : Int) (w : World) :
    Calls Try.prog 3 #[.int .i64 a, .int .i64 b, .int .i64 c, .int .i64 d] w fun e w' => e = .returned (.bool true) ∧ Grown w w' := by
  by_cases hab : a ≤ b
  · by_cases hbc : b ≤ c
    · exact split_main a b c d w hab hbc
    · go_enter Try.func3, Try.ntmps3
      go_wp2
      go_ret
      exact ⟨rfl, Grown.refl _⟩
  · go_enter Try.func3, Try.ntmps3
    go_wp2
    go_ret
    exact ⟨rfl, Grown.refl _⟩

set_option maxHeartbeats 1600000 in
theorem compl_main (a b d : Int) (w : World) (hab : a ≤ b) (hd : -9223372036854775808 < d) (hd2 : d ≤ 9223372036854775807) :
    Calls Try.prog 4 #[.int .i64 a, .int .i64 b, .int .i64 d] w fun e w' => e = .returned (.bool true) ∧ Grown w w' := by
  have hne : (d == -9223372036854775808) = false := beq_eq_false_iff_ne.2 (by omega)
  rcases (show (d ≤ a ∧ d ≤ b) ∨ (a < d ∧ d ≤ b) ∨ (a < d ∧ b < d) from by omega) with ⟨h, h'⟩ | ⟨h, h'⟩ | ⟨h, h'⟩
  all_goals
    go_enter Try.func4, Try.ntmps4
    go_wp2
    go_ret
    exact ⟨rfl, by repeat (first | exact Grown.refl _ | apply Grown.drew | apply Grown.alloc)⟩

theorem compl_walk (a b d : Int) (w : World) (hd : -9223372036854775808 ≤ d) (hd2 : d ≤ 9223372036854775807) :
    Calls Try.prog 4 #[.int .i64 a, .int .i64 b, .int .i64 d] w fun e w' => e = .returned (.bool true) ∧ Grown w w' := by
  by_cases hab : a ≤ b
  · by_cases hm : d = -9223372036854775808
    · have hne : (d == -9223372036854775808) = true := beq_iff_eq.2 hm
      clear hm
      go_enter Try.func4, Try.ntmps4
      go_wp2
      go_ret
      exact ⟨rfl, Grown.refl _⟩
    · exact compl_main a b d w hab (by omega) hd2
  · go_enter Try.func4, Try.ntmps4
    go_wp2
    go_ret
    exact ⟨rfl, Grown.refl _⟩
end Go.Proofs.Qxb6614446a
