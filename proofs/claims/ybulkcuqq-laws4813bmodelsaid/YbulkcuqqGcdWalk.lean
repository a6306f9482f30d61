import Derived.Test.YbulkcuqqRows
import Derived.Test.YbulkcuqqGcd
import Derived.WalkKit
import Derived.WalkSpells
import Derived.WalkLawsBesides
import Derived.Deep.QuietTactic
import Derived.BigQuiet
namespace Go.Proofs.Ybulkcuqq
open Go.RowKit

theorem grown_drewN {W w' : World} (h : Grown W w') (n : Nat) : Grown W (w'.drewN n) := by
  induction n with
  | zero => exact h
  | succ n ih => exact ih

set_option maxHeartbeats 400000 in
theorem gcd_any (a b : Int) (w : World) (ha : -9223372036854775808 ≤ a ∧ a ≤ 9223372036854775807) (hb : -9223372036854775808 ≤ b ∧ b ≤ 9223372036854775807) :
    Calls Yba.prog 12 #[.int .i64 a, .int .i64 b] w fun e w' => ∃ g : Int, e = .returned (.int .i64 g) ∧ Gcd.IsGcd a b g ∧ Grown w w' := by
  go_enter Yba.func12, Yba.ntmps12
  go_wp2
  go_loopw [0, 1] (fun s t wr => ∃ x y : Int, s = .int .i64 x ∧ t = .int .i64 y ∧ Hid (Gcd.Rel a b x y) ∧ Grown w wr) (fun _ t _ => (intOf t).natAbs)
  case atStart => exact ⟨a, b, rfl, rfl, Gcd.rel_start a b ha hb, Grown.refl _⟩
  case round =>
    obtain ⟨x, y, rfl, rfl, hr, hg⟩ := hrel
    by_cases hy : y = 0
    · subst hy
      go_wp2
      go_ret
      exact ⟨x, rfl, Gcd.rel_end hr.out, hg⟩
    · have hy' : (y == 0) = false := by simp [hy]
      go_wp2
      go_quiet (fail)
      go_wp2
      go_roundw
      case rel => exact ⟨y, x.tmod y, rfl, rfl, Gcd.rel_step hr.out hy, grown_drewN hg _⟩
      case measure => simpa [intOf] using Gcd.tmod_abs_lt x y hy

end Go.Proofs.Ybulkcuqq
