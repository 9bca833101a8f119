/- The small functions on floats: what they answer is told no further than that it is a bool. -/
import Derived.Test.YtclnpjelgdoloaaHolds
import Derived.WalkLawsBesides
namespace Go.Proofs.Ytclnpjelgdoloaa
open Go.RowKit

theorem bits_run (x : Nat) (w : World) : (callFunc 56 #[.float .f64 x]).run Try.prog w = .ok (.value (.int .u64 x)) w := by kernel_rfl
theorem frombits_run (x : Int) (w : World) : (callFunc 57 #[.int .u64 x]).run Try.prog w = .ok (.value (.float .f64 x.toNat)) w := by kernel_rfl

def SomeBool (w : World) (e : Ending) (w' : World) : Prop := ∃ b : Bool, e = .returned (.bool b) ∧ w = w'

theorem noFloat_any (x : Nat) (w : World) : Calls Try.prog 48 #[.float .f64 x] w (SomeBool w) := by
  have h := bits_run x
  go_enter Try.func48, Try.ntmps48
  go_wp2_with (fail)
  go_ret
  exact ⟨_, rfl, rfl⟩

theorem isNaN_any (x : Nat) (w : World) : Calls Try.prog 36 #[.float .f64 x] w (SomeBool w) := by
  go_enter Try.func36, Try.ntmps36
  go_wp2_with (fail)
  go_ret
  exact ⟨_, rfl, rfl⟩
def SomeFloat (w : World) (e : Ending) (w' : World) : Prop := ∃ b : Nat, e = .returned (.float .f64 b) ∧ w = w'

theorem abs_any (x : Nat) (w : World) : Calls Try.prog 50 #[.float .f64 x] w (SomeFloat w) := by
  have h := bits_run x
  have h2 := frombits_run
  go_enter Try.func50, Try.ntmps50
  go_wp2_with (fail)
  go_ret
  exact ⟨_, rfl, rfl⟩

theorem isInf_any (x : Nat) (w : World) : Calls Try.prog 37 #[.float .f64 x, .int .i64 0] w (SomeBool w) := by
  go_enter Try.func37, Try.ntmps37
  go_wp2_with (go_at_call 50; refine (abs_any _ _).mono ?_; rintro e w' ⟨b, rfl, rfl⟩)
  go_ret
  exact ⟨_, rfl, rfl⟩
end Go.Proofs.Ytclnpjelgdoloaa
