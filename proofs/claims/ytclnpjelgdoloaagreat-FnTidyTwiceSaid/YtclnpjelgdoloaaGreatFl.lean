/- The small functions on floats. -/
import Derived.Test.YtclnpjelgdoloaaGreatHolds
import Derived.WalkLawsBesides
namespace Go.Proofs.YtclnpjelgdoloaaGreat
open Go.RowKit

theorem bits_run (x : Nat) (w : World) : (callFunc 43 #[.float .f64 x]).run Tryz.prog w = .ok (.value (.int .u64 x)) w := by kernel_rfl
theorem frombits_run (x : Int) (w : World) : (callFunc 55 #[.int .u64 x]).run Tryz.prog w = .ok (.value (.float .f64 x.toNat)) w := by kernel_rfl

def SomeBool (w : World) (e : Ending) (w' : World) : Prop := ∃ b : Bool, e = .returned (.bool b) ∧ w = w'

theorem noFloat_any (x : Nat) (w : World) : Calls Tryz.prog 24 #[.float .f64 x] w (SomeBool w) := by
  have h := bits_run x
  go_enter Tryz.func24, Tryz.ntmps24
  go_wp2_with (fail)
  go_ret
  exact ⟨_, rfl, rfl⟩

/-- Is it no number? -/
def nanB (x : Nat) : Bool := FloatKind.f64.format.order x x != some Ordering.eq

/-- Its size. -/
def absF (x : Nat) : Nat := (bits BinOp.andNot IntKind.u64 (x : Int) 9223372036854775808).toNat

/-- Is it infinite? -/
def infB (x : Nat) : Bool := FloatKind.f64.format.order (absF x) 9218868437227405311 == some Ordering.gt

def IsB (b : Bool) (w : World) (e : Ending) (w' : World) : Prop := e = .returned (.bool b) ∧ w = w'

theorem isNaN_any (x : Nat) (w : World) : Calls Tryz.prog 25 #[.float .f64 x] w (IsB (nanB x) w) := by
  go_enter Tryz.func25, Tryz.ntmps25
  go_wp2_with (fail)
  go_ret
  exact ⟨rfl, rfl⟩

theorem abs_any (x : Nat) (w : World) : Calls Tryz.prog 44 #[.float .f64 x] w (fun e w' => e = .returned (.float .f64 (absF x)) ∧ w = w') := by
  have h := bits_run x
  have h2 := frombits_run
  go_enter Tryz.func44, Tryz.ntmps44
  go_wp2_with (fail)
  go_ret
  exact ⟨rfl, rfl⟩

theorem isInf_any (x : Nat) (w : World) : Calls Tryz.prog 26 #[.float .f64 x, .int .i64 0] w (IsB (infB x) w) := by
  go_enter Tryz.func26, Tryz.ntmps26
  go_wp2_with (go_at_call 44; refine (abs_any _ _).mono ?_; rintro e w' ⟨rfl, rfl⟩)
  go_ret
  exact ⟨rfl, rfl⟩
end Go.Proofs.YtclnpjelgdoloaaGreat
