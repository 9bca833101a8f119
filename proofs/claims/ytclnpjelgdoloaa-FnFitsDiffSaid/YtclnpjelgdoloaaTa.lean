/- What the program's type assertions yield (printed by wip/ta.py). -/
import Derived.Test.YtclnpjelgdoloaaD
namespace Go.Proofs.Ytclnpjelgdoloaa
set_option linter.unusedVariables false

def Ta (x : Value) (A : TypeId) (r : Value) : Prop := ∀ w : World, (Instr.typeAssert x 20 A true).run Try.prog w = .ok r w

theorem tan2 : Ta (.nilIface) 2 (.tuple #[.int .i64 0, .bool false]) := fun w => by kernel_rfl
theorem tan3 : Ta (.nilIface) 3 (.tuple #[.int .i64 0, .bool false]) := fun w => by kernel_rfl
theorem tan74 : Ta (.nilIface) 74 (.tuple #[.int .i8 0, .bool false]) := fun w => by kernel_rfl
theorem tan75 : Ta (.nilIface) 75 (.tuple #[.int .i16 0, .bool false]) := fun w => by kernel_rfl
theorem tan21 : Ta (.nilIface) 21 (.tuple #[.int .i32 0, .bool false]) := fun w => by kernel_rfl
theorem tan76 : Ta (.nilIface) 76 (.tuple #[.int .u64 0, .bool false]) := fun w => by kernel_rfl
theorem tan5 : Ta (.nilIface) 5 (.tuple #[.int .u8 0, .bool false]) := fun w => by kernel_rfl
theorem tan77 : Ta (.nilIface) 77 (.tuple #[.int .u16 0, .bool false]) := fun w => by kernel_rfl
theorem tan78 : Ta (.nilIface) 78 (.tuple #[.int .u32 0, .bool false]) := fun w => by kernel_rfl
theorem tan79 : Ta (.nilIface) 79 (.tuple #[.int .u64 0, .bool false]) := fun w => by kernel_rfl
theorem tan82 : Ta (.nilIface) 82 (.tuple #[.float .f32 0, .bool false]) := fun w => by kernel_rfl
theorem tan22 : Ta (.nilIface) 22 (.tuple #[.float .f64 0, .bool false]) := fun w => by kernel_rfl
theorem tan95 : Ta (.nilIface) 95 (.tuple #[.int .i64 0, .bool false]) := fun w => by kernel_rfl
theorem tan96 : Ta (.nilIface) 96 (.tuple #[.float .f64 0, .bool false]) := fun w => by kernel_rfl
theorem tan4 : Ta (.nilIface) 4 (.tuple #[.bool false, .bool false]) := fun w => by kernel_rfl
theorem tan9 : Ta (.nilIface) 9 (.tuple #[.string ByteArray.empty, .bool false]) := fun w => by kernel_rfl
theorem tan52 : Ta (.nilIface) 52 (.tuple #[.slice none 0 0, .bool false]) := fun w => by kernel_rfl
theorem tan72 : Ta (.nilIface) 72 (.tuple #[.map none, .bool false]) := fun w => by kernel_rfl

theorem tab2 (v : Value) : Ta (.iface 4 v) 2 (.tuple #[.int .i64 0, .bool false]) := fun w => by kernel_rfl
theorem tab3 (v : Value) : Ta (.iface 4 v) 3 (.tuple #[.int .i64 0, .bool false]) := fun w => by kernel_rfl
theorem tab74 (v : Value) : Ta (.iface 4 v) 74 (.tuple #[.int .i8 0, .bool false]) := fun w => by kernel_rfl
theorem tab75 (v : Value) : Ta (.iface 4 v) 75 (.tuple #[.int .i16 0, .bool false]) := fun w => by kernel_rfl
theorem tab21 (v : Value) : Ta (.iface 4 v) 21 (.tuple #[.int .i32 0, .bool false]) := fun w => by kernel_rfl
theorem tab76 (v : Value) : Ta (.iface 4 v) 76 (.tuple #[.int .u64 0, .bool false]) := fun w => by kernel_rfl
theorem tab5 (v : Value) : Ta (.iface 4 v) 5 (.tuple #[.int .u8 0, .bool false]) := fun w => by kernel_rfl
theorem tab77 (v : Value) : Ta (.iface 4 v) 77 (.tuple #[.int .u16 0, .bool false]) := fun w => by kernel_rfl
theorem tab78 (v : Value) : Ta (.iface 4 v) 78 (.tuple #[.int .u32 0, .bool false]) := fun w => by kernel_rfl
theorem tab79 (v : Value) : Ta (.iface 4 v) 79 (.tuple #[.int .u64 0, .bool false]) := fun w => by kernel_rfl
theorem tab82 (v : Value) : Ta (.iface 4 v) 82 (.tuple #[.float .f32 0, .bool false]) := fun w => by kernel_rfl
theorem tab22 (v : Value) : Ta (.iface 4 v) 22 (.tuple #[.float .f64 0, .bool false]) := fun w => by kernel_rfl
theorem tab95 (v : Value) : Ta (.iface 4 v) 95 (.tuple #[.int .i64 0, .bool false]) := fun w => by kernel_rfl
theorem tab96 (v : Value) : Ta (.iface 4 v) 96 (.tuple #[.float .f64 0, .bool false]) := fun w => by kernel_rfl
theorem tab4 (v : Value) : Ta (.iface 4 v) 4 (.tuple #[v, .bool true]) := fun w => by kernel_rfl
theorem tab9 (v : Value) : Ta (.iface 4 v) 9 (.tuple #[.string ByteArray.empty, .bool false]) := fun w => by kernel_rfl
theorem tab52 (v : Value) : Ta (.iface 4 v) 52 (.tuple #[.slice none 0 0, .bool false]) := fun w => by kernel_rfl
theorem tab72 (v : Value) : Ta (.iface 4 v) 72 (.tuple #[.map none, .bool false]) := fun w => by kernel_rfl

theorem tai2 (v : Value) : Ta (.iface 2 v) 2 (.tuple #[v, .bool true]) := fun w => by kernel_rfl
theorem tai3 (v : Value) : Ta (.iface 2 v) 3 (.tuple #[.int .i64 0, .bool false]) := fun w => by kernel_rfl
theorem tai74 (v : Value) : Ta (.iface 2 v) 74 (.tuple #[.int .i8 0, .bool false]) := fun w => by kernel_rfl
theorem tai75 (v : Value) : Ta (.iface 2 v) 75 (.tuple #[.int .i16 0, .bool false]) := fun w => by kernel_rfl
theorem tai21 (v : Value) : Ta (.iface 2 v) 21 (.tuple #[.int .i32 0, .bool false]) := fun w => by kernel_rfl
theorem tai76 (v : Value) : Ta (.iface 2 v) 76 (.tuple #[.int .u64 0, .bool false]) := fun w => by kernel_rfl
theorem tai5 (v : Value) : Ta (.iface 2 v) 5 (.tuple #[.int .u8 0, .bool false]) := fun w => by kernel_rfl
theorem tai77 (v : Value) : Ta (.iface 2 v) 77 (.tuple #[.int .u16 0, .bool false]) := fun w => by kernel_rfl
theorem tai78 (v : Value) : Ta (.iface 2 v) 78 (.tuple #[.int .u32 0, .bool false]) := fun w => by kernel_rfl
theorem tai79 (v : Value) : Ta (.iface 2 v) 79 (.tuple #[.int .u64 0, .bool false]) := fun w => by kernel_rfl
theorem tai82 (v : Value) : Ta (.iface 2 v) 82 (.tuple #[.float .f32 0, .bool false]) := fun w => by kernel_rfl
theorem tai22 (v : Value) : Ta (.iface 2 v) 22 (.tuple #[.float .f64 0, .bool false]) := fun w => by kernel_rfl
theorem tai95 (v : Value) : Ta (.iface 2 v) 95 (.tuple #[.int .i64 0, .bool false]) := fun w => by kernel_rfl
theorem tai96 (v : Value) : Ta (.iface 2 v) 96 (.tuple #[.float .f64 0, .bool false]) := fun w => by kernel_rfl
theorem tai4 (v : Value) : Ta (.iface 2 v) 4 (.tuple #[.bool false, .bool false]) := fun w => by kernel_rfl
theorem tai9 (v : Value) : Ta (.iface 2 v) 9 (.tuple #[.string ByteArray.empty, .bool false]) := fun w => by kernel_rfl
theorem tai52 (v : Value) : Ta (.iface 2 v) 52 (.tuple #[.slice none 0 0, .bool false]) := fun w => by kernel_rfl
theorem tai72 (v : Value) : Ta (.iface 2 v) 72 (.tuple #[.map none, .bool false]) := fun w => by kernel_rfl

theorem tas2 (v : Value) : Ta (.iface 9 v) 2 (.tuple #[.int .i64 0, .bool false]) := fun w => by kernel_rfl
theorem tas3 (v : Value) : Ta (.iface 9 v) 3 (.tuple #[.int .i64 0, .bool false]) := fun w => by kernel_rfl
theorem tas74 (v : Value) : Ta (.iface 9 v) 74 (.tuple #[.int .i8 0, .bool false]) := fun w => by kernel_rfl
theorem tas75 (v : Value) : Ta (.iface 9 v) 75 (.tuple #[.int .i16 0, .bool false]) := fun w => by kernel_rfl
theorem tas21 (v : Value) : Ta (.iface 9 v) 21 (.tuple #[.int .i32 0, .bool false]) := fun w => by kernel_rfl
theorem tas76 (v : Value) : Ta (.iface 9 v) 76 (.tuple #[.int .u64 0, .bool false]) := fun w => by kernel_rfl
theorem tas5 (v : Value) : Ta (.iface 9 v) 5 (.tuple #[.int .u8 0, .bool false]) := fun w => by kernel_rfl
theorem tas77 (v : Value) : Ta (.iface 9 v) 77 (.tuple #[.int .u16 0, .bool false]) := fun w => by kernel_rfl
theorem tas78 (v : Value) : Ta (.iface 9 v) 78 (.tuple #[.int .u32 0, .bool false]) := fun w => by kernel_rfl
theorem tas79 (v : Value) : Ta (.iface 9 v) 79 (.tuple #[.int .u64 0, .bool false]) := fun w => by kernel_rfl
theorem tas82 (v : Value) : Ta (.iface 9 v) 82 (.tuple #[.float .f32 0, .bool false]) := fun w => by kernel_rfl
theorem tas22 (v : Value) : Ta (.iface 9 v) 22 (.tuple #[.float .f64 0, .bool false]) := fun w => by kernel_rfl
theorem tas95 (v : Value) : Ta (.iface 9 v) 95 (.tuple #[.int .i64 0, .bool false]) := fun w => by kernel_rfl
theorem tas96 (v : Value) : Ta (.iface 9 v) 96 (.tuple #[.float .f64 0, .bool false]) := fun w => by kernel_rfl
theorem tas4 (v : Value) : Ta (.iface 9 v) 4 (.tuple #[.bool false, .bool false]) := fun w => by kernel_rfl
theorem tas9 (v : Value) : Ta (.iface 9 v) 9 (.tuple #[v, .bool true]) := fun w => by kernel_rfl
theorem tas52 (v : Value) : Ta (.iface 9 v) 52 (.tuple #[.slice none 0 0, .bool false]) := fun w => by kernel_rfl
theorem tas72 (v : Value) : Ta (.iface 9 v) 72 (.tuple #[.map none, .bool false]) := fun w => by kernel_rfl

theorem taa2 (v : Value) : Ta (.iface 52 v) 2 (.tuple #[.int .i64 0, .bool false]) := fun w => by kernel_rfl
theorem taa3 (v : Value) : Ta (.iface 52 v) 3 (.tuple #[.int .i64 0, .bool false]) := fun w => by kernel_rfl
theorem taa74 (v : Value) : Ta (.iface 52 v) 74 (.tuple #[.int .i8 0, .bool false]) := fun w => by kernel_rfl
theorem taa75 (v : Value) : Ta (.iface 52 v) 75 (.tuple #[.int .i16 0, .bool false]) := fun w => by kernel_rfl
theorem taa21 (v : Value) : Ta (.iface 52 v) 21 (.tuple #[.int .i32 0, .bool false]) := fun w => by kernel_rfl
theorem taa76 (v : Value) : Ta (.iface 52 v) 76 (.tuple #[.int .u64 0, .bool false]) := fun w => by kernel_rfl
theorem taa5 (v : Value) : Ta (.iface 52 v) 5 (.tuple #[.int .u8 0, .bool false]) := fun w => by kernel_rfl
theorem taa77 (v : Value) : Ta (.iface 52 v) 77 (.tuple #[.int .u16 0, .bool false]) := fun w => by kernel_rfl
theorem taa78 (v : Value) : Ta (.iface 52 v) 78 (.tuple #[.int .u32 0, .bool false]) := fun w => by kernel_rfl
theorem taa79 (v : Value) : Ta (.iface 52 v) 79 (.tuple #[.int .u64 0, .bool false]) := fun w => by kernel_rfl
theorem taa82 (v : Value) : Ta (.iface 52 v) 82 (.tuple #[.float .f32 0, .bool false]) := fun w => by kernel_rfl
theorem taa22 (v : Value) : Ta (.iface 52 v) 22 (.tuple #[.float .f64 0, .bool false]) := fun w => by kernel_rfl
theorem taa95 (v : Value) : Ta (.iface 52 v) 95 (.tuple #[.int .i64 0, .bool false]) := fun w => by kernel_rfl
theorem taa96 (v : Value) : Ta (.iface 52 v) 96 (.tuple #[.float .f64 0, .bool false]) := fun w => by kernel_rfl
theorem taa4 (v : Value) : Ta (.iface 52 v) 4 (.tuple #[.bool false, .bool false]) := fun w => by kernel_rfl
theorem taa9 (v : Value) : Ta (.iface 52 v) 9 (.tuple #[.string ByteArray.empty, .bool false]) := fun w => by kernel_rfl
theorem taa52 (v : Value) : Ta (.iface 52 v) 52 (.tuple #[v, .bool true]) := fun w => by kernel_rfl
theorem taa72 (v : Value) : Ta (.iface 52 v) 72 (.tuple #[.map none, .bool false]) := fun w => by kernel_rfl

theorem tao2 (v : Value) : Ta (.iface 72 v) 2 (.tuple #[.int .i64 0, .bool false]) := fun w => by kernel_rfl
theorem tao3 (v : Value) : Ta (.iface 72 v) 3 (.tuple #[.int .i64 0, .bool false]) := fun w => by kernel_rfl
theorem tao74 (v : Value) : Ta (.iface 72 v) 74 (.tuple #[.int .i8 0, .bool false]) := fun w => by kernel_rfl
theorem tao75 (v : Value) : Ta (.iface 72 v) 75 (.tuple #[.int .i16 0, .bool false]) := fun w => by kernel_rfl
theorem tao21 (v : Value) : Ta (.iface 72 v) 21 (.tuple #[.int .i32 0, .bool false]) := fun w => by kernel_rfl
theorem tao76 (v : Value) : Ta (.iface 72 v) 76 (.tuple #[.int .u64 0, .bool false]) := fun w => by kernel_rfl
theorem tao5 (v : Value) : Ta (.iface 72 v) 5 (.tuple #[.int .u8 0, .bool false]) := fun w => by kernel_rfl
theorem tao77 (v : Value) : Ta (.iface 72 v) 77 (.tuple #[.int .u16 0, .bool false]) := fun w => by kernel_rfl
theorem tao78 (v : Value) : Ta (.iface 72 v) 78 (.tuple #[.int .u32 0, .bool false]) := fun w => by kernel_rfl
theorem tao79 (v : Value) : Ta (.iface 72 v) 79 (.tuple #[.int .u64 0, .bool false]) := fun w => by kernel_rfl
theorem tao82 (v : Value) : Ta (.iface 72 v) 82 (.tuple #[.float .f32 0, .bool false]) := fun w => by kernel_rfl
theorem tao22 (v : Value) : Ta (.iface 72 v) 22 (.tuple #[.float .f64 0, .bool false]) := fun w => by kernel_rfl
theorem tao95 (v : Value) : Ta (.iface 72 v) 95 (.tuple #[.int .i64 0, .bool false]) := fun w => by kernel_rfl
theorem tao96 (v : Value) : Ta (.iface 72 v) 96 (.tuple #[.float .f64 0, .bool false]) := fun w => by kernel_rfl
theorem tao4 (v : Value) : Ta (.iface 72 v) 4 (.tuple #[.bool false, .bool false]) := fun w => by kernel_rfl
theorem tao9 (v : Value) : Ta (.iface 72 v) 9 (.tuple #[.string ByteArray.empty, .bool false]) := fun w => by kernel_rfl
theorem tao52 (v : Value) : Ta (.iface 72 v) 52 (.tuple #[.slice none 0 0, .bool false]) := fun w => by kernel_rfl
theorem tao72 (v : Value) : Ta (.iface 72 v) 72 (.tuple #[v, .bool true]) := fun w => by kernel_rfl

end Go.Proofs.Ytclnpjelgdoloaa
