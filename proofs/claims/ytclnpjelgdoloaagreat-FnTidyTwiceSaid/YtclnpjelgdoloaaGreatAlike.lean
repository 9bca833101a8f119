/- laws.alike: values that are the same tree are alike: at null, a bool, a number, a text. -/
import Derived.Test.YtclnpjelgdoloaaGreatTidy
namespace Go.Proofs.YtclnpjelgdoloaaGreat
open Go.RowKit Go.Maps Go.Sort
set_option linter.unusedVariables false
set_option linter.unusedSimpArgs false

theorem order_self {f : Nat} (h : nanB f = false) : (FloatKind.f64.format.order f f == some Ordering.eq) = true := by
  unfold nanB at h
  simpa using h

set_option maxRecDepth 100000 in
set_option maxHeartbeats 1000000 in
theorem alike_null (n n' : Int) (f f' : Nat) (s s' : ByteArray) (L K L' K' : Value) (w : World) : Calls Tryz.prog 8 #[.agg #[.int .i64 1, .int .i64 n, .float .f64 f, .string s, L, K], .agg #[.int .i64 1, .int .i64 n', .float .f64 f', .string s', L', K']] w (BoolPost true w) := by
  go_enter Tryz.func8, Tryz.ntmps8
  go_wp2_with (fail)
  go_ret
  exact ⟨rfl, ((Below.refl _ _).alloc (Nat.le_refl _) _).alloc (by simp) _⟩

set_option maxRecDepth 100000 in
set_option maxHeartbeats 1000000 in
theorem alike_bool (n n' : Int) (f f' : Nat) (s s' : ByteArray) (L K L' K' : Value) (w : World) : Calls Tryz.prog 8 #[.agg #[.int .i64 2, .int .i64 n, .float .f64 f, .string s, L, K], .agg #[.int .i64 2, .int .i64 n, .float .f64 f', .string s', L', K']] w (BoolPost true w) := by
  go_enter Tryz.func8, Tryz.ntmps8
  go_wp2_with (fail)
  go_ret
  exact ⟨rfl, ((Below.refl _ _).alloc (Nat.le_refl _) _).alloc (by simp) _⟩

set_option maxRecDepth 100000 in
set_option maxHeartbeats 1000000 in
theorem alike_int (n n' : Int) (f f' : Nat) (s s' : ByteArray) (L K L' K' : Value) (w : World) : Calls Tryz.prog 8 #[.agg #[.int .i64 3, .int .i64 n, .float .f64 f, .string s, L, K], .agg #[.int .i64 3, .int .i64 n, .float .f64 f', .string s', L', K']] w (BoolPost true w) := by
  go_enter Tryz.func8, Tryz.ntmps8
  go_wp2_with (fail)
  go_ret
  exact ⟨rfl, ((Below.refl _ _).alloc (Nat.le_refl _) _).alloc (by simp) _⟩

set_option maxRecDepth 100000 in
set_option maxHeartbeats 1000000 in
theorem alike_flo (n n' : Int) (f f' : Nat) (s s' : ByteArray) (L K L' K' : Value) (w : World) (hf : nanB f = false) : Calls Tryz.prog 8 #[.agg #[.int .i64 4, .int .i64 n, .float .f64 f, .string s, L, K], .agg #[.int .i64 4, .int .i64 n', .float .f64 f, .string s', L', K']] w (BoolPost true w) := by
  have ho := order_self hf
  go_enter Tryz.func8, Tryz.ntmps8
  go_wp2_with (fail)
  go_ret
  exact ⟨rfl, ((Below.refl _ _).alloc (Nat.le_refl _) _).alloc (by simp) _⟩

set_option maxRecDepth 100000 in
set_option maxHeartbeats 1000000 in
theorem alike_str (n n' : Int) (f f' : Nat) (s s' : ByteArray) (L K L' K' : Value) (w : World) : Calls Tryz.prog 8 #[.agg #[.int .i64 5, .int .i64 n, .float .f64 f, .string s, L, K], .agg #[.int .i64 5, .int .i64 n', .float .f64 f', .string s, L', K']] w (BoolPost true w) := by
  go_enter Tryz.func8, Tryz.ntmps8
  go_wp2_with (fail)
  go_ret
  exact ⟨rfl, ((Below.refl _ _).alloc (Nat.le_refl _) _).alloc (by simp) _⟩

end Go.Proofs.YtclnpjelgdoloaaGreat
