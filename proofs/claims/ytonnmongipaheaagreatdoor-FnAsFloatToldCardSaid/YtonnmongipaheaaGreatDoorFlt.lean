/- alt.Float at plain data (printed by wip/flt.py). -/
import Derived.Test.YtonnmongipaheaaGreatDoorParse
namespace Go.Proofs.YtonnmongipaheaaGreatDoor
open Go.RowKit
set_option linter.unusedVariables false
set_option linter.unusedSimpArgs false

def Ta (x : Value) (A : TypeId) (r : Value) : Prop := ∀ w : World, (Instr.typeAssert x 20 A true).run Tryz.prog w = .ok r w

theorem tan22 : Ta (.nilIface) 22 (.tuple #[.float .f64 0, .bool false]) := fun w => by kernel_rfl
theorem tan47 : Ta (.nilIface) 47 (.tuple #[.float .f32 0, .bool false]) := fun w => by kernel_rfl
theorem tan48 : Ta (.nilIface) 48 (.tuple #[.float .f64 0, .bool false]) := fun w => by kernel_rfl
theorem tan2 : Ta (.nilIface) 2 (.tuple #[.int .i64 0, .bool false]) := fun w => by kernel_rfl
theorem tan3 : Ta (.nilIface) 3 (.tuple #[.int .i64 0, .bool false]) := fun w => by kernel_rfl
theorem tan49 : Ta (.nilIface) 49 (.tuple #[.int .i8 0, .bool false]) := fun w => by kernel_rfl
theorem tan50 : Ta (.nilIface) 50 (.tuple #[.int .i16 0, .bool false]) := fun w => by kernel_rfl
theorem tan21 : Ta (.nilIface) 21 (.tuple #[.int .i32 0, .bool false]) := fun w => by kernel_rfl
theorem tan51 : Ta (.nilIface) 51 (.tuple #[.int .u64 0, .bool false]) := fun w => by kernel_rfl
theorem tan5 : Ta (.nilIface) 5 (.tuple #[.int .u8 0, .bool false]) := fun w => by kernel_rfl
theorem tan52 : Ta (.nilIface) 52 (.tuple #[.int .u16 0, .bool false]) := fun w => by kernel_rfl
theorem tan53 : Ta (.nilIface) 53 (.tuple #[.int .u32 0, .bool false]) := fun w => by kernel_rfl
theorem tan54 : Ta (.nilIface) 54 (.tuple #[.int .u64 0, .bool false]) := fun w => by kernel_rfl
theorem tan9 : Ta (.nilIface) 9 (.tuple #[.string ByteArray.empty, .bool false]) := fun w => by kernel_rfl
theorem tan59 : Ta (.nilIface) 59 (.tuple #[.int .i64 0, .bool false]) := fun w => by kernel_rfl
theorem tan60 : Ta (.nilIface) 60 (.tuple #[.string ByteArray.empty, .bool false]) := fun w => by kernel_rfl
theorem tan61 : Ta (.nilIface) 61 (.tuple #[.string ByteArray.empty, .bool false]) := fun w => by kernel_rfl

theorem tab22 (v : Value) : Ta (.iface 4 v) 22 (.tuple #[.float .f64 0, .bool false]) := fun w => by kernel_rfl
theorem tab47 (v : Value) : Ta (.iface 4 v) 47 (.tuple #[.float .f32 0, .bool false]) := fun w => by kernel_rfl
theorem tab48 (v : Value) : Ta (.iface 4 v) 48 (.tuple #[.float .f64 0, .bool false]) := fun w => by kernel_rfl
theorem tab2 (v : Value) : Ta (.iface 4 v) 2 (.tuple #[.int .i64 0, .bool false]) := fun w => by kernel_rfl
theorem tab3 (v : Value) : Ta (.iface 4 v) 3 (.tuple #[.int .i64 0, .bool false]) := fun w => by kernel_rfl
theorem tab49 (v : Value) : Ta (.iface 4 v) 49 (.tuple #[.int .i8 0, .bool false]) := fun w => by kernel_rfl
theorem tab50 (v : Value) : Ta (.iface 4 v) 50 (.tuple #[.int .i16 0, .bool false]) := fun w => by kernel_rfl
theorem tab21 (v : Value) : Ta (.iface 4 v) 21 (.tuple #[.int .i32 0, .bool false]) := fun w => by kernel_rfl
theorem tab51 (v : Value) : Ta (.iface 4 v) 51 (.tuple #[.int .u64 0, .bool false]) := fun w => by kernel_rfl
theorem tab5 (v : Value) : Ta (.iface 4 v) 5 (.tuple #[.int .u8 0, .bool false]) := fun w => by kernel_rfl
theorem tab52 (v : Value) : Ta (.iface 4 v) 52 (.tuple #[.int .u16 0, .bool false]) := fun w => by kernel_rfl
theorem tab53 (v : Value) : Ta (.iface 4 v) 53 (.tuple #[.int .u32 0, .bool false]) := fun w => by kernel_rfl
theorem tab54 (v : Value) : Ta (.iface 4 v) 54 (.tuple #[.int .u64 0, .bool false]) := fun w => by kernel_rfl
theorem tab9 (v : Value) : Ta (.iface 4 v) 9 (.tuple #[.string ByteArray.empty, .bool false]) := fun w => by kernel_rfl
theorem tab59 (v : Value) : Ta (.iface 4 v) 59 (.tuple #[.int .i64 0, .bool false]) := fun w => by kernel_rfl
theorem tab60 (v : Value) : Ta (.iface 4 v) 60 (.tuple #[.string ByteArray.empty, .bool false]) := fun w => by kernel_rfl
theorem tab61 (v : Value) : Ta (.iface 4 v) 61 (.tuple #[.string ByteArray.empty, .bool false]) := fun w => by kernel_rfl

theorem tai22 (v : Value) : Ta (.iface 2 v) 22 (.tuple #[.float .f64 0, .bool false]) := fun w => by kernel_rfl
theorem tai47 (v : Value) : Ta (.iface 2 v) 47 (.tuple #[.float .f32 0, .bool false]) := fun w => by kernel_rfl
theorem tai48 (v : Value) : Ta (.iface 2 v) 48 (.tuple #[.float .f64 0, .bool false]) := fun w => by kernel_rfl
theorem tai2 (v : Value) : Ta (.iface 2 v) 2 (.tuple #[v, .bool true]) := fun w => by kernel_rfl
theorem tai3 (v : Value) : Ta (.iface 2 v) 3 (.tuple #[.int .i64 0, .bool false]) := fun w => by kernel_rfl
theorem tai49 (v : Value) : Ta (.iface 2 v) 49 (.tuple #[.int .i8 0, .bool false]) := fun w => by kernel_rfl
theorem tai50 (v : Value) : Ta (.iface 2 v) 50 (.tuple #[.int .i16 0, .bool false]) := fun w => by kernel_rfl
theorem tai21 (v : Value) : Ta (.iface 2 v) 21 (.tuple #[.int .i32 0, .bool false]) := fun w => by kernel_rfl
theorem tai51 (v : Value) : Ta (.iface 2 v) 51 (.tuple #[.int .u64 0, .bool false]) := fun w => by kernel_rfl
theorem tai5 (v : Value) : Ta (.iface 2 v) 5 (.tuple #[.int .u8 0, .bool false]) := fun w => by kernel_rfl
theorem tai52 (v : Value) : Ta (.iface 2 v) 52 (.tuple #[.int .u16 0, .bool false]) := fun w => by kernel_rfl
theorem tai53 (v : Value) : Ta (.iface 2 v) 53 (.tuple #[.int .u32 0, .bool false]) := fun w => by kernel_rfl
theorem tai54 (v : Value) : Ta (.iface 2 v) 54 (.tuple #[.int .u64 0, .bool false]) := fun w => by kernel_rfl
theorem tai9 (v : Value) : Ta (.iface 2 v) 9 (.tuple #[.string ByteArray.empty, .bool false]) := fun w => by kernel_rfl
theorem tai59 (v : Value) : Ta (.iface 2 v) 59 (.tuple #[.int .i64 0, .bool false]) := fun w => by kernel_rfl
theorem tai60 (v : Value) : Ta (.iface 2 v) 60 (.tuple #[.string ByteArray.empty, .bool false]) := fun w => by kernel_rfl
theorem tai61 (v : Value) : Ta (.iface 2 v) 61 (.tuple #[.string ByteArray.empty, .bool false]) := fun w => by kernel_rfl

theorem taf22 (v : Value) : Ta (.iface 22 v) 22 (.tuple #[v, .bool true]) := fun w => by kernel_rfl
theorem taf47 (v : Value) : Ta (.iface 22 v) 47 (.tuple #[.float .f32 0, .bool false]) := fun w => by kernel_rfl
theorem taf48 (v : Value) : Ta (.iface 22 v) 48 (.tuple #[.float .f64 0, .bool false]) := fun w => by kernel_rfl
theorem taf2 (v : Value) : Ta (.iface 22 v) 2 (.tuple #[.int .i64 0, .bool false]) := fun w => by kernel_rfl
theorem taf3 (v : Value) : Ta (.iface 22 v) 3 (.tuple #[.int .i64 0, .bool false]) := fun w => by kernel_rfl
theorem taf49 (v : Value) : Ta (.iface 22 v) 49 (.tuple #[.int .i8 0, .bool false]) := fun w => by kernel_rfl
theorem taf50 (v : Value) : Ta (.iface 22 v) 50 (.tuple #[.int .i16 0, .bool false]) := fun w => by kernel_rfl
theorem taf21 (v : Value) : Ta (.iface 22 v) 21 (.tuple #[.int .i32 0, .bool false]) := fun w => by kernel_rfl
theorem taf51 (v : Value) : Ta (.iface 22 v) 51 (.tuple #[.int .u64 0, .bool false]) := fun w => by kernel_rfl
theorem taf5 (v : Value) : Ta (.iface 22 v) 5 (.tuple #[.int .u8 0, .bool false]) := fun w => by kernel_rfl
theorem taf52 (v : Value) : Ta (.iface 22 v) 52 (.tuple #[.int .u16 0, .bool false]) := fun w => by kernel_rfl
theorem taf53 (v : Value) : Ta (.iface 22 v) 53 (.tuple #[.int .u32 0, .bool false]) := fun w => by kernel_rfl
theorem taf54 (v : Value) : Ta (.iface 22 v) 54 (.tuple #[.int .u64 0, .bool false]) := fun w => by kernel_rfl
theorem taf9 (v : Value) : Ta (.iface 22 v) 9 (.tuple #[.string ByteArray.empty, .bool false]) := fun w => by kernel_rfl
theorem taf59 (v : Value) : Ta (.iface 22 v) 59 (.tuple #[.int .i64 0, .bool false]) := fun w => by kernel_rfl
theorem taf60 (v : Value) : Ta (.iface 22 v) 60 (.tuple #[.string ByteArray.empty, .bool false]) := fun w => by kernel_rfl
theorem taf61 (v : Value) : Ta (.iface 22 v) 61 (.tuple #[.string ByteArray.empty, .bool false]) := fun w => by kernel_rfl

theorem tas22 (v : Value) : Ta (.iface 9 v) 22 (.tuple #[.float .f64 0, .bool false]) := fun w => by kernel_rfl
theorem tas47 (v : Value) : Ta (.iface 9 v) 47 (.tuple #[.float .f32 0, .bool false]) := fun w => by kernel_rfl
theorem tas48 (v : Value) : Ta (.iface 9 v) 48 (.tuple #[.float .f64 0, .bool false]) := fun w => by kernel_rfl
theorem tas2 (v : Value) : Ta (.iface 9 v) 2 (.tuple #[.int .i64 0, .bool false]) := fun w => by kernel_rfl
theorem tas3 (v : Value) : Ta (.iface 9 v) 3 (.tuple #[.int .i64 0, .bool false]) := fun w => by kernel_rfl
theorem tas49 (v : Value) : Ta (.iface 9 v) 49 (.tuple #[.int .i8 0, .bool false]) := fun w => by kernel_rfl
theorem tas50 (v : Value) : Ta (.iface 9 v) 50 (.tuple #[.int .i16 0, .bool false]) := fun w => by kernel_rfl
theorem tas21 (v : Value) : Ta (.iface 9 v) 21 (.tuple #[.int .i32 0, .bool false]) := fun w => by kernel_rfl
theorem tas51 (v : Value) : Ta (.iface 9 v) 51 (.tuple #[.int .u64 0, .bool false]) := fun w => by kernel_rfl
theorem tas5 (v : Value) : Ta (.iface 9 v) 5 (.tuple #[.int .u8 0, .bool false]) := fun w => by kernel_rfl
theorem tas52 (v : Value) : Ta (.iface 9 v) 52 (.tuple #[.int .u16 0, .bool false]) := fun w => by kernel_rfl
theorem tas53 (v : Value) : Ta (.iface 9 v) 53 (.tuple #[.int .u32 0, .bool false]) := fun w => by kernel_rfl
theorem tas54 (v : Value) : Ta (.iface 9 v) 54 (.tuple #[.int .u64 0, .bool false]) := fun w => by kernel_rfl
theorem tas9 (v : Value) : Ta (.iface 9 v) 9 (.tuple #[v, .bool true]) := fun w => by kernel_rfl
theorem tas59 (v : Value) : Ta (.iface 9 v) 59 (.tuple #[.int .i64 0, .bool false]) := fun w => by kernel_rfl
theorem tas60 (v : Value) : Ta (.iface 9 v) 60 (.tuple #[.string ByteArray.empty, .bool false]) := fun w => by kernel_rfl
theorem tas61 (v : Value) : Ta (.iface 9 v) 61 (.tuple #[.string ByteArray.empty, .bool false]) := fun w => by kernel_rfl

theorem taa22 (v : Value) : Ta (.iface 63 v) 22 (.tuple #[.float .f64 0, .bool false]) := fun w => by kernel_rfl
theorem taa47 (v : Value) : Ta (.iface 63 v) 47 (.tuple #[.float .f32 0, .bool false]) := fun w => by kernel_rfl
theorem taa48 (v : Value) : Ta (.iface 63 v) 48 (.tuple #[.float .f64 0, .bool false]) := fun w => by kernel_rfl
theorem taa2 (v : Value) : Ta (.iface 63 v) 2 (.tuple #[.int .i64 0, .bool false]) := fun w => by kernel_rfl
theorem taa3 (v : Value) : Ta (.iface 63 v) 3 (.tuple #[.int .i64 0, .bool false]) := fun w => by kernel_rfl
theorem taa49 (v : Value) : Ta (.iface 63 v) 49 (.tuple #[.int .i8 0, .bool false]) := fun w => by kernel_rfl
theorem taa50 (v : Value) : Ta (.iface 63 v) 50 (.tuple #[.int .i16 0, .bool false]) := fun w => by kernel_rfl
theorem taa21 (v : Value) : Ta (.iface 63 v) 21 (.tuple #[.int .i32 0, .bool false]) := fun w => by kernel_rfl
theorem taa51 (v : Value) : Ta (.iface 63 v) 51 (.tuple #[.int .u64 0, .bool false]) := fun w => by kernel_rfl
theorem taa5 (v : Value) : Ta (.iface 63 v) 5 (.tuple #[.int .u8 0, .bool false]) := fun w => by kernel_rfl
theorem taa52 (v : Value) : Ta (.iface 63 v) 52 (.tuple #[.int .u16 0, .bool false]) := fun w => by kernel_rfl
theorem taa53 (v : Value) : Ta (.iface 63 v) 53 (.tuple #[.int .u32 0, .bool false]) := fun w => by kernel_rfl
theorem taa54 (v : Value) : Ta (.iface 63 v) 54 (.tuple #[.int .u64 0, .bool false]) := fun w => by kernel_rfl
theorem taa9 (v : Value) : Ta (.iface 63 v) 9 (.tuple #[.string ByteArray.empty, .bool false]) := fun w => by kernel_rfl
theorem taa59 (v : Value) : Ta (.iface 63 v) 59 (.tuple #[.int .i64 0, .bool false]) := fun w => by kernel_rfl
theorem taa60 (v : Value) : Ta (.iface 63 v) 60 (.tuple #[.string ByteArray.empty, .bool false]) := fun w => by kernel_rfl
theorem taa61 (v : Value) : Ta (.iface 63 v) 61 (.tuple #[.string ByteArray.empty, .bool false]) := fun w => by kernel_rfl

theorem tao22 (v : Value) : Ta (.iface 64 v) 22 (.tuple #[.float .f64 0, .bool false]) := fun w => by kernel_rfl
theorem tao47 (v : Value) : Ta (.iface 64 v) 47 (.tuple #[.float .f32 0, .bool false]) := fun w => by kernel_rfl
theorem tao48 (v : Value) : Ta (.iface 64 v) 48 (.tuple #[.float .f64 0, .bool false]) := fun w => by kernel_rfl
theorem tao2 (v : Value) : Ta (.iface 64 v) 2 (.tuple #[.int .i64 0, .bool false]) := fun w => by kernel_rfl
theorem tao3 (v : Value) : Ta (.iface 64 v) 3 (.tuple #[.int .i64 0, .bool false]) := fun w => by kernel_rfl
theorem tao49 (v : Value) : Ta (.iface 64 v) 49 (.tuple #[.int .i8 0, .bool false]) := fun w => by kernel_rfl
theorem tao50 (v : Value) : Ta (.iface 64 v) 50 (.tuple #[.int .i16 0, .bool false]) := fun w => by kernel_rfl
theorem tao21 (v : Value) : Ta (.iface 64 v) 21 (.tuple #[.int .i32 0, .bool false]) := fun w => by kernel_rfl
theorem tao51 (v : Value) : Ta (.iface 64 v) 51 (.tuple #[.int .u64 0, .bool false]) := fun w => by kernel_rfl
theorem tao5 (v : Value) : Ta (.iface 64 v) 5 (.tuple #[.int .u8 0, .bool false]) := fun w => by kernel_rfl
theorem tao52 (v : Value) : Ta (.iface 64 v) 52 (.tuple #[.int .u16 0, .bool false]) := fun w => by kernel_rfl
theorem tao53 (v : Value) : Ta (.iface 64 v) 53 (.tuple #[.int .u32 0, .bool false]) := fun w => by kernel_rfl
theorem tao54 (v : Value) : Ta (.iface 64 v) 54 (.tuple #[.int .u64 0, .bool false]) := fun w => by kernel_rfl
theorem tao9 (v : Value) : Ta (.iface 64 v) 9 (.tuple #[.string ByteArray.empty, .bool false]) := fun w => by kernel_rfl
theorem tao59 (v : Value) : Ta (.iface 64 v) 59 (.tuple #[.int .i64 0, .bool false]) := fun w => by kernel_rfl
theorem tao60 (v : Value) : Ta (.iface 64 v) 60 (.tuple #[.string ByteArray.empty, .bool false]) := fun w => by kernel_rfl
theorem tao61 (v : Value) : Ta (.iface 64 v) 61 (.tuple #[.string ByteArray.empty, .bool false]) := fun w => by kernel_rfl


def FIs (x : Nat) (w : World) (e : Ending) (w' : World) : Prop := e = .returned (.float .f64 x) ∧ w = w'

set_option maxRecDepth 100000 in
set_option maxHeartbeats 2000000 in
theorem float_flo (v : Nat) (d : Value) (w : World) : Calls Tryz.prog 17 #[.iface 22 (.float .f64 v), d] w (FIs v w) := by
  have t22 := taf22 (.float .f64 v); unfold Ta at t22
  have t47 := taf47 (.float .f64 v); unfold Ta at t47
  have t48 := taf48 (.float .f64 v); unfold Ta at t48
  have t2 := taf2 (.float .f64 v); unfold Ta at t2
  have t3 := taf3 (.float .f64 v); unfold Ta at t3
  have t49 := taf49 (.float .f64 v); unfold Ta at t49
  have t50 := taf50 (.float .f64 v); unfold Ta at t50
  have t21 := taf21 (.float .f64 v); unfold Ta at t21
  have t51 := taf51 (.float .f64 v); unfold Ta at t51
  have t5 := taf5 (.float .f64 v); unfold Ta at t5
  have t52 := taf52 (.float .f64 v); unfold Ta at t52
  have t53 := taf53 (.float .f64 v); unfold Ta at t53
  have t54 := taf54 (.float .f64 v); unfold Ta at t54
  have t9 := taf9 (.float .f64 v); unfold Ta at t9
  have t59 := taf59 (.float .f64 v); unfold Ta at t59
  have t60 := taf60 (.float .f64 v); unfold Ta at t60
  have t61 := taf61 (.float .f64 v); unfold Ta at t61
  go_enter Tryz.func17, Tryz.ntmps17
  go_wp2_with (fail)
  go_ret
  exact ⟨rfl, rfl⟩

set_option maxRecDepth 100000 in
set_option maxHeartbeats 2000000 in
theorem float_two_n (g o c x1 : Nat) (w : World) (hc : c ≤ 9223372036854775807) (h2 : 2 ≤ c) (hx : w.cell? ⟨g, o + 1, none⟩ = some (.float .f64 x1)) : Calls Tryz.prog 17 #[.nilIface, .slice (some ⟨g, o, none⟩) 2 c] w (FIs x1 w) := by
  have t22 := tan22 ; unfold Ta at t22
  have t47 := tan47 ; unfold Ta at t47
  have t48 := tan48 ; unfold Ta at t48
  have t2 := tan2 ; unfold Ta at t2
  have t3 := tan3 ; unfold Ta at t3
  have t49 := tan49 ; unfold Ta at t49
  have t50 := tan50 ; unfold Ta at t50
  have t21 := tan21 ; unfold Ta at t21
  have t51 := tan51 ; unfold Ta at t51
  have t5 := tan5 ; unfold Ta at t5
  have t52 := tan52 ; unfold Ta at t52
  have t53 := tan53 ; unfold Ta at t53
  have t54 := tan54 ; unfold Ta at t54
  have t9 := tan9 ; unfold Ta at t9
  have t59 := tan59 ; unfold Ta at t59
  have t60 := tan60 ; unfold Ta at t60
  have t61 := tan61 ; unfold Ta at t61
  go_enter Tryz.func17, Tryz.ntmps17
  go_wp2_with (fail)
  go_ret
  exact ⟨rfl, rfl⟩

set_option maxRecDepth 100000 in
set_option maxHeartbeats 2000000 in
theorem float_two_b (b : Bool) (g o c x1 : Nat) (w : World) (hc : c ≤ 9223372036854775807) (h2 : 2 ≤ c) (hx : w.cell? ⟨g, o + 1, none⟩ = some (.float .f64 x1)) : Calls Tryz.prog 17 #[.iface 4 (.bool b), .slice (some ⟨g, o, none⟩) 2 c] w (FIs x1 w) := by
  have t22 := tab22 (.bool b); unfold Ta at t22
  have t47 := tab47 (.bool b); unfold Ta at t47
  have t48 := tab48 (.bool b); unfold Ta at t48
  have t2 := tab2 (.bool b); unfold Ta at t2
  have t3 := tab3 (.bool b); unfold Ta at t3
  have t49 := tab49 (.bool b); unfold Ta at t49
  have t50 := tab50 (.bool b); unfold Ta at t50
  have t21 := tab21 (.bool b); unfold Ta at t21
  have t51 := tab51 (.bool b); unfold Ta at t51
  have t5 := tab5 (.bool b); unfold Ta at t5
  have t52 := tab52 (.bool b); unfold Ta at t52
  have t53 := tab53 (.bool b); unfold Ta at t53
  have t54 := tab54 (.bool b); unfold Ta at t54
  have t9 := tab9 (.bool b); unfold Ta at t9
  have t59 := tab59 (.bool b); unfold Ta at t59
  have t60 := tab60 (.bool b); unfold Ta at t60
  have t61 := tab61 (.bool b); unfold Ta at t61
  go_enter Tryz.func17, Tryz.ntmps17
  go_wp2_with (fail)
  go_ret
  exact ⟨rfl, rfl⟩

set_option maxRecDepth 100000 in
set_option maxHeartbeats 2000000 in
theorem float_two_i (k : Int) (g o c x1 : Nat) (w : World) (hc : c ≤ 9223372036854775807) (h2 : 2 ≤ c) (hx : w.cell? ⟨g, o + 1, none⟩ = some (.float .f64 x1)) : Calls Tryz.prog 17 #[.iface 2 (.int .i64 k), .slice (some ⟨g, o, none⟩) 2 c] w (FIs x1 w) := by
  have t22 := tai22 (.int .i64 k); unfold Ta at t22
  have t47 := tai47 (.int .i64 k); unfold Ta at t47
  have t48 := tai48 (.int .i64 k); unfold Ta at t48
  have t2 := tai2 (.int .i64 k); unfold Ta at t2
  have t3 := tai3 (.int .i64 k); unfold Ta at t3
  have t49 := tai49 (.int .i64 k); unfold Ta at t49
  have t50 := tai50 (.int .i64 k); unfold Ta at t50
  have t21 := tai21 (.int .i64 k); unfold Ta at t21
  have t51 := tai51 (.int .i64 k); unfold Ta at t51
  have t5 := tai5 (.int .i64 k); unfold Ta at t5
  have t52 := tai52 (.int .i64 k); unfold Ta at t52
  have t53 := tai53 (.int .i64 k); unfold Ta at t53
  have t54 := tai54 (.int .i64 k); unfold Ta at t54
  have t9 := tai9 (.int .i64 k); unfold Ta at t9
  have t59 := tai59 (.int .i64 k); unfold Ta at t59
  have t60 := tai60 (.int .i64 k); unfold Ta at t60
  have t61 := tai61 (.int .i64 k); unfold Ta at t61
  go_enter Tryz.func17, Tryz.ntmps17
  go_wp2_with (fail)
  go_ret
  exact ⟨rfl, rfl⟩

set_option maxRecDepth 100000 in
set_option maxHeartbeats 2000000 in
theorem float_two_s (s : ByteArray) (g o c x1 : Nat) (w : World) (hc : c ≤ 9223372036854775807) (h2 : 2 ≤ c) (hx : w.cell? ⟨g, o + 1, none⟩ = some (.float .f64 x1)) : Calls Tryz.prog 17 #[.iface 9 (.string s), .slice (some ⟨g, o, none⟩) 2 c] w (FIs x1 w) := by
  have t22 := tas22 (.string s); unfold Ta at t22
  have t47 := tas47 (.string s); unfold Ta at t47
  have t48 := tas48 (.string s); unfold Ta at t48
  have t2 := tas2 (.string s); unfold Ta at t2
  have t3 := tas3 (.string s); unfold Ta at t3
  have t49 := tas49 (.string s); unfold Ta at t49
  have t50 := tas50 (.string s); unfold Ta at t50
  have t21 := tas21 (.string s); unfold Ta at t21
  have t51 := tas51 (.string s); unfold Ta at t51
  have t5 := tas5 (.string s); unfold Ta at t5
  have t52 := tas52 (.string s); unfold Ta at t52
  have t53 := tas53 (.string s); unfold Ta at t53
  have t54 := tas54 (.string s); unfold Ta at t54
  have t9 := tas9 (.string s); unfold Ta at t9
  have t59 := tas59 (.string s); unfold Ta at t59
  have t60 := tas60 (.string s); unfold Ta at t60
  have t61 := tas61 (.string s); unfold Ta at t61
  go_enter Tryz.func17, Tryz.ntmps17
  go_wp2_with (fail)
  go_ret
  exact ⟨rfl, rfl⟩

set_option maxRecDepth 100000 in
set_option maxHeartbeats 2000000 in
theorem float_two_a (v : Value) (g o c x1 : Nat) (w : World) (hc : c ≤ 9223372036854775807) (h2 : 2 ≤ c) (hx : w.cell? ⟨g, o + 1, none⟩ = some (.float .f64 x1)) : Calls Tryz.prog 17 #[.iface 63 v, .slice (some ⟨g, o, none⟩) 2 c] w (FIs x1 w) := by
  have t22 := taa22 v; unfold Ta at t22
  have t47 := taa47 v; unfold Ta at t47
  have t48 := taa48 v; unfold Ta at t48
  have t2 := taa2 v; unfold Ta at t2
  have t3 := taa3 v; unfold Ta at t3
  have t49 := taa49 v; unfold Ta at t49
  have t50 := taa50 v; unfold Ta at t50
  have t21 := taa21 v; unfold Ta at t21
  have t51 := taa51 v; unfold Ta at t51
  have t5 := taa5 v; unfold Ta at t5
  have t52 := taa52 v; unfold Ta at t52
  have t53 := taa53 v; unfold Ta at t53
  have t54 := taa54 v; unfold Ta at t54
  have t9 := taa9 v; unfold Ta at t9
  have t59 := taa59 v; unfold Ta at t59
  have t60 := taa60 v; unfold Ta at t60
  have t61 := taa61 v; unfold Ta at t61
  go_enter Tryz.func17, Tryz.ntmps17
  go_wp2_with (fail)
  go_ret
  exact ⟨rfl, rfl⟩

set_option maxRecDepth 100000 in
set_option maxHeartbeats 2000000 in
theorem float_two_o (v : Value) (g o c x1 : Nat) (w : World) (hc : c ≤ 9223372036854775807) (h2 : 2 ≤ c) (hx : w.cell? ⟨g, o + 1, none⟩ = some (.float .f64 x1)) : Calls Tryz.prog 17 #[.iface 64 v, .slice (some ⟨g, o, none⟩) 2 c] w (FIs x1 w) := by
  have t22 := tao22 v; unfold Ta at t22
  have t47 := tao47 v; unfold Ta at t47
  have t48 := tao48 v; unfold Ta at t48
  have t2 := tao2 v; unfold Ta at t2
  have t3 := tao3 v; unfold Ta at t3
  have t49 := tao49 v; unfold Ta at t49
  have t50 := tao50 v; unfold Ta at t50
  have t21 := tao21 v; unfold Ta at t21
  have t51 := tao51 v; unfold Ta at t51
  have t5 := tao5 v; unfold Ta at t5
  have t52 := tao52 v; unfold Ta at t52
  have t53 := tao53 v; unfold Ta at t53
  have t54 := tao54 v; unfold Ta at t54
  have t9 := tao9 v; unfold Ta at t9
  have t59 := tao59 v; unfold Ta at t59
  have t60 := tao60 v; unfold Ta at t60
  have t61 := tao61 v; unfold Ta at t61
  go_enter Tryz.func17, Tryz.ntmps17
  go_wp2_with (fail)
  go_ret
  exact ⟨rfl, rfl⟩

set_option maxRecDepth 100000 in
set_option maxHeartbeats 2000000 in
theorem float_int0 (k : Int) (ad : Option Addr) (c : Nat) (w : World) (hc : c ≤ 9223372036854775807) : Calls Tryz.prog 17 #[.iface 2 (.int .i64 k), .slice ad 0 c] w (FIs (floatOfInt .f64 k) w) := by
  have t22 := tai22 (.int .i64 k); unfold Ta at t22
  have t47 := tai47 (.int .i64 k); unfold Ta at t47
  have t48 := tai48 (.int .i64 k); unfold Ta at t48
  have t2 := tai2 (.int .i64 k); unfold Ta at t2
  have t3 := tai3 (.int .i64 k); unfold Ta at t3
  have t49 := tai49 (.int .i64 k); unfold Ta at t49
  have t50 := tai50 (.int .i64 k); unfold Ta at t50
  have t21 := tai21 (.int .i64 k); unfold Ta at t21
  have t51 := tai51 (.int .i64 k); unfold Ta at t51
  have t5 := tai5 (.int .i64 k); unfold Ta at t5
  have t52 := tai52 (.int .i64 k); unfold Ta at t52
  have t53 := tai53 (.int .i64 k); unfold Ta at t53
  have t54 := tai54 (.int .i64 k); unfold Ta at t54
  have t9 := tai9 (.int .i64 k); unfold Ta at t9
  have t59 := tai59 (.int .i64 k); unfold Ta at t59
  have t60 := tai60 (.int .i64 k); unfold Ta at t60
  have t61 := tai61 (.int .i64 k); unfold Ta at t61
  go_enter Tryz.func17, Tryz.ntmps17
  go_wp2_with (fail)
  go_ret
  exact ⟨rfl, rfl⟩

set_option maxRecDepth 100000 in
set_option maxHeartbeats 2000000 in
theorem float_int1 (k : Int) (g o c x0 : Nat) (w : World) (hc : c ≤ 9223372036854775807) (h1 : 1 ≤ c) (hx : w.cell? ⟨g, o, none⟩ = some (.float .f64 x0)) : Calls Tryz.prog 17 #[.iface 2 (.int .i64 k), .slice (some ⟨g, o, none⟩) 1 c] w (FIs (floatOfInt .f64 k) w) := by
  have t22 := tai22 (.int .i64 k); unfold Ta at t22
  have t47 := tai47 (.int .i64 k); unfold Ta at t47
  have t48 := tai48 (.int .i64 k); unfold Ta at t48
  have t2 := tai2 (.int .i64 k); unfold Ta at t2
  have t3 := tai3 (.int .i64 k); unfold Ta at t3
  have t49 := tai49 (.int .i64 k); unfold Ta at t49
  have t50 := tai50 (.int .i64 k); unfold Ta at t50
  have t21 := tai21 (.int .i64 k); unfold Ta at t21
  have t51 := tai51 (.int .i64 k); unfold Ta at t51
  have t5 := tai5 (.int .i64 k); unfold Ta at t5
  have t52 := tai52 (.int .i64 k); unfold Ta at t52
  have t53 := tai53 (.int .i64 k); unfold Ta at t53
  have t54 := tai54 (.int .i64 k); unfold Ta at t54
  have t9 := tai9 (.int .i64 k); unfold Ta at t9
  have t59 := tai59 (.int .i64 k); unfold Ta at t59
  have t60 := tai60 (.int .i64 k); unfold Ta at t60
  have t61 := tai61 (.int .i64 k); unfold Ta at t61
  go_enter Tryz.func17, Tryz.ntmps17
  go_wp2_with (fail)
  go_ret
  exact ⟨rfl, rfl⟩

set_option maxRecDepth 100000 in
set_option maxHeartbeats 2000000 in
theorem float_n0 (ad : Option Addr) (c : Nat) (w : World) (hc : c ≤ 9223372036854775807) : Calls Tryz.prog 17 #[.nilIface, .slice ad 0 c] w (FIs 0 w) := by
  have t22 := tan22 ; unfold Ta at t22
  have t47 := tan47 ; unfold Ta at t47
  have t48 := tan48 ; unfold Ta at t48
  have t2 := tan2 ; unfold Ta at t2
  have t3 := tan3 ; unfold Ta at t3
  have t49 := tan49 ; unfold Ta at t49
  have t50 := tan50 ; unfold Ta at t50
  have t21 := tan21 ; unfold Ta at t21
  have t51 := tan51 ; unfold Ta at t51
  have t5 := tan5 ; unfold Ta at t5
  have t52 := tan52 ; unfold Ta at t52
  have t53 := tan53 ; unfold Ta at t53
  have t54 := tan54 ; unfold Ta at t54
  have t9 := tan9 ; unfold Ta at t9
  have t59 := tan59 ; unfold Ta at t59
  have t60 := tan60 ; unfold Ta at t60
  have t61 := tan61 ; unfold Ta at t61
  go_enter Tryz.func17, Tryz.ntmps17
  go_wp2_with (fail)
  go_ret
  exact ⟨rfl, rfl⟩

set_option maxRecDepth 100000 in
set_option maxHeartbeats 2000000 in
theorem float_n1 (g o c x0 : Nat) (w : World) (hc : c ≤ 9223372036854775807) (h1 : 1 ≤ c) (hx : w.cell? ⟨g, o, none⟩ = some (.float .f64 x0)) : Calls Tryz.prog 17 #[.nilIface, .slice (some ⟨g, o, none⟩) 1 c] w (FIs x0 w) := by
  have t22 := tan22 ; unfold Ta at t22
  have t47 := tan47 ; unfold Ta at t47
  have t48 := tan48 ; unfold Ta at t48
  have t2 := tan2 ; unfold Ta at t2
  have t3 := tan3 ; unfold Ta at t3
  have t49 := tan49 ; unfold Ta at t49
  have t50 := tan50 ; unfold Ta at t50
  have t21 := tan21 ; unfold Ta at t21
  have t51 := tan51 ; unfold Ta at t51
  have t5 := tan5 ; unfold Ta at t5
  have t52 := tan52 ; unfold Ta at t52
  have t53 := tan53 ; unfold Ta at t53
  have t54 := tan54 ; unfold Ta at t54
  have t9 := tan9 ; unfold Ta at t9
  have t59 := tan59 ; unfold Ta at t59
  have t60 := tan60 ; unfold Ta at t60
  have t61 := tan61 ; unfold Ta at t61
  go_enter Tryz.func17, Tryz.ntmps17
  go_wp2_with (fail)
  go_ret
  exact ⟨rfl, rfl⟩

set_option maxRecDepth 100000 in
set_option maxHeartbeats 2000000 in
theorem float_b0 (b : Bool) (ad : Option Addr) (c : Nat) (w : World) (hc : c ≤ 9223372036854775807) : Calls Tryz.prog 17 #[.iface 4 (.bool b), .slice ad 0 c] w (FIs 0 w) := by
  have t22 := tab22 (.bool b); unfold Ta at t22
  have t47 := tab47 (.bool b); unfold Ta at t47
  have t48 := tab48 (.bool b); unfold Ta at t48
  have t2 := tab2 (.bool b); unfold Ta at t2
  have t3 := tab3 (.bool b); unfold Ta at t3
  have t49 := tab49 (.bool b); unfold Ta at t49
  have t50 := tab50 (.bool b); unfold Ta at t50
  have t21 := tab21 (.bool b); unfold Ta at t21
  have t51 := tab51 (.bool b); unfold Ta at t51
  have t5 := tab5 (.bool b); unfold Ta at t5
  have t52 := tab52 (.bool b); unfold Ta at t52
  have t53 := tab53 (.bool b); unfold Ta at t53
  have t54 := tab54 (.bool b); unfold Ta at t54
  have t9 := tab9 (.bool b); unfold Ta at t9
  have t59 := tab59 (.bool b); unfold Ta at t59
  have t60 := tab60 (.bool b); unfold Ta at t60
  have t61 := tab61 (.bool b); unfold Ta at t61
  go_enter Tryz.func17, Tryz.ntmps17
  go_wp2_with (fail)
  go_ret
  exact ⟨rfl, rfl⟩

set_option maxRecDepth 100000 in
set_option maxHeartbeats 2000000 in
theorem float_b1 (b : Bool) (g o c x0 : Nat) (w : World) (hc : c ≤ 9223372036854775807) (h1 : 1 ≤ c) (hx : w.cell? ⟨g, o, none⟩ = some (.float .f64 x0)) : Calls Tryz.prog 17 #[.iface 4 (.bool b), .slice (some ⟨g, o, none⟩) 1 c] w (FIs x0 w) := by
  have t22 := tab22 (.bool b); unfold Ta at t22
  have t47 := tab47 (.bool b); unfold Ta at t47
  have t48 := tab48 (.bool b); unfold Ta at t48
  have t2 := tab2 (.bool b); unfold Ta at t2
  have t3 := tab3 (.bool b); unfold Ta at t3
  have t49 := tab49 (.bool b); unfold Ta at t49
  have t50 := tab50 (.bool b); unfold Ta at t50
  have t21 := tab21 (.bool b); unfold Ta at t21
  have t51 := tab51 (.bool b); unfold Ta at t51
  have t5 := tab5 (.bool b); unfold Ta at t5
  have t52 := tab52 (.bool b); unfold Ta at t52
  have t53 := tab53 (.bool b); unfold Ta at t53
  have t54 := tab54 (.bool b); unfold Ta at t54
  have t9 := tab9 (.bool b); unfold Ta at t9
  have t59 := tab59 (.bool b); unfold Ta at t59
  have t60 := tab60 (.bool b); unfold Ta at t60
  have t61 := tab61 (.bool b); unfold Ta at t61
  go_enter Tryz.func17, Tryz.ntmps17
  go_wp2_with (fail)
  go_ret
  exact ⟨rfl, rfl⟩

set_option maxRecDepth 100000 in
set_option maxHeartbeats 2000000 in
theorem float_a0 (v : Value) (ad : Option Addr) (c : Nat) (w : World) (hc : c ≤ 9223372036854775807) : Calls Tryz.prog 17 #[.iface 63 v, .slice ad 0 c] w (FIs 0 w) := by
  have t22 := taa22 v; unfold Ta at t22
  have t47 := taa47 v; unfold Ta at t47
  have t48 := taa48 v; unfold Ta at t48
  have t2 := taa2 v; unfold Ta at t2
  have t3 := taa3 v; unfold Ta at t3
  have t49 := taa49 v; unfold Ta at t49
  have t50 := taa50 v; unfold Ta at t50
  have t21 := taa21 v; unfold Ta at t21
  have t51 := taa51 v; unfold Ta at t51
  have t5 := taa5 v; unfold Ta at t5
  have t52 := taa52 v; unfold Ta at t52
  have t53 := taa53 v; unfold Ta at t53
  have t54 := taa54 v; unfold Ta at t54
  have t9 := taa9 v; unfold Ta at t9
  have t59 := taa59 v; unfold Ta at t59
  have t60 := taa60 v; unfold Ta at t60
  have t61 := taa61 v; unfold Ta at t61
  go_enter Tryz.func17, Tryz.ntmps17
  go_wp2_with (fail)
  go_ret
  exact ⟨rfl, rfl⟩

set_option maxRecDepth 100000 in
set_option maxHeartbeats 2000000 in
theorem float_a1 (v : Value) (g o c x0 : Nat) (w : World) (hc : c ≤ 9223372036854775807) (h1 : 1 ≤ c) (hx : w.cell? ⟨g, o, none⟩ = some (.float .f64 x0)) : Calls Tryz.prog 17 #[.iface 63 v, .slice (some ⟨g, o, none⟩) 1 c] w (FIs x0 w) := by
  have t22 := taa22 v; unfold Ta at t22
  have t47 := taa47 v; unfold Ta at t47
  have t48 := taa48 v; unfold Ta at t48
  have t2 := taa2 v; unfold Ta at t2
  have t3 := taa3 v; unfold Ta at t3
  have t49 := taa49 v; unfold Ta at t49
  have t50 := taa50 v; unfold Ta at t50
  have t21 := taa21 v; unfold Ta at t21
  have t51 := taa51 v; unfold Ta at t51
  have t5 := taa5 v; unfold Ta at t5
  have t52 := taa52 v; unfold Ta at t52
  have t53 := taa53 v; unfold Ta at t53
  have t54 := taa54 v; unfold Ta at t54
  have t9 := taa9 v; unfold Ta at t9
  have t59 := taa59 v; unfold Ta at t59
  have t60 := taa60 v; unfold Ta at t60
  have t61 := taa61 v; unfold Ta at t61
  go_enter Tryz.func17, Tryz.ntmps17
  go_wp2_with (fail)
  go_ret
  exact ⟨rfl, rfl⟩

set_option maxRecDepth 100000 in
set_option maxHeartbeats 2000000 in
theorem float_o0 (v : Value) (ad : Option Addr) (c : Nat) (w : World) (hc : c ≤ 9223372036854775807) : Calls Tryz.prog 17 #[.iface 64 v, .slice ad 0 c] w (FIs 0 w) := by
  have t22 := tao22 v; unfold Ta at t22
  have t47 := tao47 v; unfold Ta at t47
  have t48 := tao48 v; unfold Ta at t48
  have t2 := tao2 v; unfold Ta at t2
  have t3 := tao3 v; unfold Ta at t3
  have t49 := tao49 v; unfold Ta at t49
  have t50 := tao50 v; unfold Ta at t50
  have t21 := tao21 v; unfold Ta at t21
  have t51 := tao51 v; unfold Ta at t51
  have t5 := tao5 v; unfold Ta at t5
  have t52 := tao52 v; unfold Ta at t52
  have t53 := tao53 v; unfold Ta at t53
  have t54 := tao54 v; unfold Ta at t54
  have t9 := tao9 v; unfold Ta at t9
  have t59 := tao59 v; unfold Ta at t59
  have t60 := tao60 v; unfold Ta at t60
  have t61 := tao61 v; unfold Ta at t61
  go_enter Tryz.func17, Tryz.ntmps17
  go_wp2_with (fail)
  go_ret
  exact ⟨rfl, rfl⟩

set_option maxRecDepth 100000 in
set_option maxHeartbeats 2000000 in
theorem float_o1 (v : Value) (g o c x0 : Nat) (w : World) (hc : c ≤ 9223372036854775807) (h1 : 1 ≤ c) (hx : w.cell? ⟨g, o, none⟩ = some (.float .f64 x0)) : Calls Tryz.prog 17 #[.iface 64 v, .slice (some ⟨g, o, none⟩) 1 c] w (FIs x0 w) := by
  have t22 := tao22 v; unfold Ta at t22
  have t47 := tao47 v; unfold Ta at t47
  have t48 := tao48 v; unfold Ta at t48
  have t2 := tao2 v; unfold Ta at t2
  have t3 := tao3 v; unfold Ta at t3
  have t49 := tao49 v; unfold Ta at t49
  have t50 := tao50 v; unfold Ta at t50
  have t21 := tao21 v; unfold Ta at t21
  have t51 := tao51 v; unfold Ta at t51
  have t5 := tao5 v; unfold Ta at t5
  have t52 := tao52 v; unfold Ta at t52
  have t53 := tao53 v; unfold Ta at t53
  have t54 := tao54 v; unfold Ta at t54
  have t9 := tao9 v; unfold Ta at t9
  have t59 := tao59 v; unfold Ta at t59
  have t60 := tao60 v; unfold Ta at t60
  have t61 := tao61 v; unfold Ta at t61
  go_enter Tryz.func17, Tryz.ntmps17
  go_wp2_with (fail)
  go_ret
  exact ⟨rfl, rfl⟩


/-- What ParseFloat is told to answer. -/
def Told (R : Nat → Value → World → Prop) (w : World) : Prop := ∀ f e w', R f e w' → (e = .nilIface ∨ ∃ N, e = PErr N) ∧ Below w.heap.size w w'

set_option maxRecDepth 100000 in
set_option maxHeartbeats 2000000 in
theorem float_str0 (s : ByteArray) (ad : Option Addr) (c : Nat) (w : World) (hc : c ≤ 9223372036854775807) (R : Nat → Value → World → Prop) (hR : Told R w) (h : Calls Tryz.prog 29 #[.string s, .int .i64 64] w (Two R)) : Calls Tryz.prog 17 #[.iface 9 (.string s), .slice ad 0 c] w (fun x w' => ∃ f e, R f e w' ∧ ((e = .nilIface ∧ x = .returned (.float .f64 f)) ∨ (e ≠ .nilIface ∧ x = .returned (.float .f64 f)))) := by
  have t22 := tas22 (.string s); unfold Ta at t22
  have t47 := tas47 (.string s); unfold Ta at t47
  have t48 := tas48 (.string s); unfold Ta at t48
  have t2 := tas2 (.string s); unfold Ta at t2
  have t3 := tas3 (.string s); unfold Ta at t3
  have t49 := tas49 (.string s); unfold Ta at t49
  have t50 := tas50 (.string s); unfold Ta at t50
  have t21 := tas21 (.string s); unfold Ta at t21
  have t51 := tas51 (.string s); unfold Ta at t51
  have t5 := tas5 (.string s); unfold Ta at t5
  have t52 := tas52 (.string s); unfold Ta at t52
  have t53 := tas53 (.string s); unfold Ta at t53
  have t54 := tas54 (.string s); unfold Ta at t54
  have t9 := tas9 (.string s); unfold Ta at t9
  have t59 := tas59 (.string s); unfold Ta at t59
  have t60 := tas60 (.string s); unfold Ta at t60
  have t61 := tas61 (.string s); unfold Ta at t61
  have HR := hide2 hR
  have H := hide2 h
  clear hR h
  go_enter Tryz.func17, Tryz.ntmps17
  go_wp2_with (fail)
  refine H.out.mono ?_
  rintro x w' ⟨f, e, rfl, hr⟩
  obtain ⟨he, hBl⟩ := HR.out _ _ _ hr
  have HRR := hide2 hr
  clear hr hBl
  rcases he with rfl | ⟨N, rfl⟩
  · go_wp2_with (fail)
    go_ret
    exact ⟨_, _, HRR.out, .inl ⟨rfl, rfl⟩⟩
  · unfold PErr at *
    go_wp2_with (fail)
    go_ret
    exact ⟨_, _, HRR.out, .inr ⟨(by intro h; cases h), rfl⟩⟩

set_option maxRecDepth 100000 in
set_option maxHeartbeats 2000000 in
theorem float_str1 (s : ByteArray) (g o c x0 : Nat) (w : World) (hc : c ≤ 9223372036854775807) (h1 : 1 ≤ c) (hx : w.cell? ⟨g, o, none⟩ = some (.float .f64 x0)) (R : Nat → Value → World → Prop) (hR : Told R w) (h : Calls Tryz.prog 29 #[.string s, .int .i64 64] w (Two R)) : Calls Tryz.prog 17 #[.iface 9 (.string s), .slice (some ⟨g, o, none⟩) 1 c] w (fun x w' => ∃ f e, R f e w' ∧ ((e = .nilIface ∧ x = .returned (.float .f64 f)) ∨ (e ≠ .nilIface ∧ x = .returned (.float .f64 x0)))) := by
  have t22 := tas22 (.string s); unfold Ta at t22
  have t47 := tas47 (.string s); unfold Ta at t47
  have t48 := tas48 (.string s); unfold Ta at t48
  have t2 := tas2 (.string s); unfold Ta at t2
  have t3 := tas3 (.string s); unfold Ta at t3
  have t49 := tas49 (.string s); unfold Ta at t49
  have t50 := tas50 (.string s); unfold Ta at t50
  have t21 := tas21 (.string s); unfold Ta at t21
  have t51 := tas51 (.string s); unfold Ta at t51
  have t5 := tas5 (.string s); unfold Ta at t5
  have t52 := tas52 (.string s); unfold Ta at t52
  have t53 := tas53 (.string s); unfold Ta at t53
  have t54 := tas54 (.string s); unfold Ta at t54
  have t9 := tas9 (.string s); unfold Ta at t9
  have t59 := tas59 (.string s); unfold Ta at t59
  have t60 := tas60 (.string s); unfold Ta at t60
  have t61 := tas61 (.string s); unfold Ta at t61
  have HR := hide2 hR
  have H := hide2 h
  clear hR h
  go_enter Tryz.func17, Tryz.ntmps17
  go_wp2_with (fail)
  refine H.out.mono ?_
  rintro x w' ⟨f, e, rfl, hr⟩
  obtain ⟨he, hBl⟩ := HR.out _ _ _ hr
  have HRR := hide2 hr; have HX := hide2 ((hBl.cell (World.block_lt_of_cell? _ _ hx)).trans hx)
  have hx' := HX.out
  clear hr hBl
  rcases he with rfl | ⟨N, rfl⟩
  · go_wp2_with (fail)
    go_ret
    exact ⟨_, _, HRR.out, .inl ⟨rfl, rfl⟩⟩
  · unfold PErr at *
    go_wp2_with (fail)
    go_ret
    exact ⟨_, _, HRR.out, .inr ⟨(by intro h; cases h), rfl⟩⟩

end Go.Proofs.YtonnmongipaheaaGreatDoor
