/- ignoreIndex, ignoreKey, where nothing is ignored. -/
import Derived.Test.YtclnpjelgdoloaaDiff3
namespace Go.Proofs.Ytclnpjelgdoloaa
open Go.RowKit Go.Maps
set_option linter.unusedVariables false

set_option maxRecDepth 100000 in
theorem ignoreIndex_none (i : Int) (w : World) : Calls Try.prog 54 #[.int .i64 i, .slice none 0 0] w (fun e w' => e = .returned (.bool false) ∧ w' = w) := by
  go_enter Try.func54, Try.ntmps54
  go_wp2_with (fail)
  go_loopw [11] (fun k wr => k = .int .i64 0 ∧ wr = w) (fun k _ => 0)
  case atStart => exact ⟨rfl, rfl⟩
  case round =>
    obtain ⟨rfl, rfl⟩ := hrel
    go_wp2_with (fail)
    go_ret
    exact ⟨rfl, rfl⟩

set_option maxRecDepth 100000 in
theorem ignoreKey_none (s : ByteArray) (w : World) : Calls Try.prog 55 #[.string s, .slice none 0 0] w (fun e w' => e = .returned (.bool false) ∧ w' = w) := by
  go_enter Try.func55, Try.ntmps55
  go_wp2_with (fail)
  go_loopw [11] (fun k wr => k = .int .i64 0 ∧ wr = w) (fun k _ => 0)
  case atStart => exact ⟨rfl, rfl⟩
  case round =>
    obtain ⟨rfl, rfl⟩ := hrel
    go_wp2_with (fail)
    go_ret
    exact ⟨rfl, rfl⟩
end Go.Proofs.Ytclnpjelgdoloaa
