/- What the program's type assertions yield (printed by wip/taz.py). -/
import Derived.Test.YtclnpjelgdoloaaGreatUpd
namespace Go.Proofs.YtclnpjelgdoloaaGreat
set_option linter.unusedVariables false

def Ta (x : Value) (A : TypeId) (r : Value) : Prop := ∀ w : World, (Instr.typeAssert x 20 A true).run Tryz.prog w = .ok r w

theorem tan2 : Ta (.nilIface) 2 (.tuple #[.int .i64 0, .bool false]) := fun w => by kernel_rfl
theorem tan3 : Ta (.nilIface) 3 (.tuple #[.int .i64 0, .bool false]) := fun w => by kernel_rfl
theorem tan87 : Ta (.nilIface) 87 (.tuple #[.int .i8 0, .bool false]) := fun w => by kernel_rfl
theorem tan88 : Ta (.nilIface) 88 (.tuple #[.int .i16 0, .bool false]) := fun w => by kernel_rfl
theorem tan21 : Ta (.nilIface) 21 (.tuple #[.int .i32 0, .bool false]) := fun w => by kernel_rfl
theorem tan89 : Ta (.nilIface) 89 (.tuple #[.int .u64 0, .bool false]) := fun w => by kernel_rfl
theorem tan5 : Ta (.nilIface) 5 (.tuple #[.int .u8 0, .bool false]) := fun w => by kernel_rfl
theorem tan90 : Ta (.nilIface) 90 (.tuple #[.int .u16 0, .bool false]) := fun w => by kernel_rfl
theorem tan91 : Ta (.nilIface) 91 (.tuple #[.int .u32 0, .bool false]) := fun w => by kernel_rfl
theorem tan77 : Ta (.nilIface) 77 (.tuple #[.int .u64 0, .bool false]) := fun w => by kernel_rfl
theorem tan92 : Ta (.nilIface) 92 (.tuple #[.float .f32 0, .bool false]) := fun w => by kernel_rfl
theorem tan22 : Ta (.nilIface) 22 (.tuple #[.float .f64 0, .bool false]) := fun w => by kernel_rfl
theorem tan50 : Ta (.nilIface) 50 (.tuple #[.bool false, .bool false]) := fun w => by kernel_rfl
theorem tan51 : Ta (.nilIface) 51 (.tuple #[.int .i64 0, .bool false]) := fun w => by kernel_rfl
theorem tan52 : Ta (.nilIface) 52 (.tuple #[.float .f64 0, .bool false]) := fun w => by kernel_rfl
theorem tan53 : Ta (.nilIface) 53 (.tuple #[.string ByteArray.empty, .bool false]) := fun w => by kernel_rfl
theorem tan54 : Ta (.nilIface) 54 (.tuple #[.string ByteArray.empty, .bool false]) := fun w => by kernel_rfl
theorem tan55 : Ta (.nilIface) 55 (.tuple #[.string ByteArray.empty, .bool false]) := fun w => by kernel_rfl
theorem tan4 : Ta (.nilIface) 4 (.tuple #[.bool false, .bool false]) := fun w => by kernel_rfl
theorem tan9 : Ta (.nilIface) 9 (.tuple #[.string ByteArray.empty, .bool false]) := fun w => by kernel_rfl
theorem tan56 : Ta (.nilIface) 56 (.tuple #[.slice none 0 0, .bool false]) := fun w => by kernel_rfl
theorem tan59 : Ta (.nilIface) 59 (.tuple #[.slice none 0 0, .bool false]) := fun w => by kernel_rfl
theorem tan63 : Ta (.nilIface) 63 (.tuple #[.pointer none, .bool false]) := fun w => by kernel_rfl
theorem tan66 : Ta (.nilIface) 66 (.tuple #[.map none, .bool false]) := fun w => by kernel_rfl
theorem tan71 : Ta (.nilIface) 71 (.tuple #[.map none, .bool false]) := fun w => by kernel_rfl
theorem tan73 : Ta (.nilIface) 73 (.tuple #[.pointer none, .bool false]) := fun w => by kernel_rfl

theorem tab2 (v : Value) : Ta (.iface 4 v) 2 (.tuple #[.int .i64 0, .bool false]) := fun w => by kernel_rfl
theorem tab3 (v : Value) : Ta (.iface 4 v) 3 (.tuple #[.int .i64 0, .bool false]) := fun w => by kernel_rfl
theorem tab87 (v : Value) : Ta (.iface 4 v) 87 (.tuple #[.int .i8 0, .bool false]) := fun w => by kernel_rfl
theorem tab88 (v : Value) : Ta (.iface 4 v) 88 (.tuple #[.int .i16 0, .bool false]) := fun w => by kernel_rfl
theorem tab21 (v : Value) : Ta (.iface 4 v) 21 (.tuple #[.int .i32 0, .bool false]) := fun w => by kernel_rfl
theorem tab89 (v : Value) : Ta (.iface 4 v) 89 (.tuple #[.int .u64 0, .bool false]) := fun w => by kernel_rfl
theorem tab5 (v : Value) : Ta (.iface 4 v) 5 (.tuple #[.int .u8 0, .bool false]) := fun w => by kernel_rfl
theorem tab90 (v : Value) : Ta (.iface 4 v) 90 (.tuple #[.int .u16 0, .bool false]) := fun w => by kernel_rfl
theorem tab91 (v : Value) : Ta (.iface 4 v) 91 (.tuple #[.int .u32 0, .bool false]) := fun w => by kernel_rfl
theorem tab77 (v : Value) : Ta (.iface 4 v) 77 (.tuple #[.int .u64 0, .bool false]) := fun w => by kernel_rfl
theorem tab92 (v : Value) : Ta (.iface 4 v) 92 (.tuple #[.float .f32 0, .bool false]) := fun w => by kernel_rfl
theorem tab22 (v : Value) : Ta (.iface 4 v) 22 (.tuple #[.float .f64 0, .bool false]) := fun w => by kernel_rfl
theorem tab50 (v : Value) : Ta (.iface 4 v) 50 (.tuple #[.bool false, .bool false]) := fun w => by kernel_rfl
theorem tab51 (v : Value) : Ta (.iface 4 v) 51 (.tuple #[.int .i64 0, .bool false]) := fun w => by kernel_rfl
theorem tab52 (v : Value) : Ta (.iface 4 v) 52 (.tuple #[.float .f64 0, .bool false]) := fun w => by kernel_rfl
theorem tab53 (v : Value) : Ta (.iface 4 v) 53 (.tuple #[.string ByteArray.empty, .bool false]) := fun w => by kernel_rfl
theorem tab54 (v : Value) : Ta (.iface 4 v) 54 (.tuple #[.string ByteArray.empty, .bool false]) := fun w => by kernel_rfl
theorem tab55 (v : Value) : Ta (.iface 4 v) 55 (.tuple #[.string ByteArray.empty, .bool false]) := fun w => by kernel_rfl
theorem tab4 (v : Value) : Ta (.iface 4 v) 4 (.tuple #[v, .bool true]) := fun w => by kernel_rfl
theorem tab9 (v : Value) : Ta (.iface 4 v) 9 (.tuple #[.string ByteArray.empty, .bool false]) := fun w => by kernel_rfl
theorem tab56 (v : Value) : Ta (.iface 4 v) 56 (.tuple #[.slice none 0 0, .bool false]) := fun w => by kernel_rfl
theorem tab59 (v : Value) : Ta (.iface 4 v) 59 (.tuple #[.slice none 0 0, .bool false]) := fun w => by kernel_rfl
theorem tab63 (v : Value) : Ta (.iface 4 v) 63 (.tuple #[.pointer none, .bool false]) := fun w => by kernel_rfl
theorem tab66 (v : Value) : Ta (.iface 4 v) 66 (.tuple #[.map none, .bool false]) := fun w => by kernel_rfl
theorem tab71 (v : Value) : Ta (.iface 4 v) 71 (.tuple #[.map none, .bool false]) := fun w => by kernel_rfl
theorem tab73 (v : Value) : Ta (.iface 4 v) 73 (.tuple #[.pointer none, .bool false]) := fun w => by kernel_rfl

theorem tai2 (v : Value) : Ta (.iface 2 v) 2 (.tuple #[v, .bool true]) := fun w => by kernel_rfl
theorem tai3 (v : Value) : Ta (.iface 2 v) 3 (.tuple #[.int .i64 0, .bool false]) := fun w => by kernel_rfl
theorem tai87 (v : Value) : Ta (.iface 2 v) 87 (.tuple #[.int .i8 0, .bool false]) := fun w => by kernel_rfl
theorem tai88 (v : Value) : Ta (.iface 2 v) 88 (.tuple #[.int .i16 0, .bool false]) := fun w => by kernel_rfl
theorem tai21 (v : Value) : Ta (.iface 2 v) 21 (.tuple #[.int .i32 0, .bool false]) := fun w => by kernel_rfl
theorem tai89 (v : Value) : Ta (.iface 2 v) 89 (.tuple #[.int .u64 0, .bool false]) := fun w => by kernel_rfl
theorem tai5 (v : Value) : Ta (.iface 2 v) 5 (.tuple #[.int .u8 0, .bool false]) := fun w => by kernel_rfl
theorem tai90 (v : Value) : Ta (.iface 2 v) 90 (.tuple #[.int .u16 0, .bool false]) := fun w => by kernel_rfl
theorem tai91 (v : Value) : Ta (.iface 2 v) 91 (.tuple #[.int .u32 0, .bool false]) := fun w => by kernel_rfl
theorem tai77 (v : Value) : Ta (.iface 2 v) 77 (.tuple #[.int .u64 0, .bool false]) := fun w => by kernel_rfl
theorem tai92 (v : Value) : Ta (.iface 2 v) 92 (.tuple #[.float .f32 0, .bool false]) := fun w => by kernel_rfl
theorem tai22 (v : Value) : Ta (.iface 2 v) 22 (.tuple #[.float .f64 0, .bool false]) := fun w => by kernel_rfl
theorem tai50 (v : Value) : Ta (.iface 2 v) 50 (.tuple #[.bool false, .bool false]) := fun w => by kernel_rfl
theorem tai51 (v : Value) : Ta (.iface 2 v) 51 (.tuple #[.int .i64 0, .bool false]) := fun w => by kernel_rfl
theorem tai52 (v : Value) : Ta (.iface 2 v) 52 (.tuple #[.float .f64 0, .bool false]) := fun w => by kernel_rfl
theorem tai53 (v : Value) : Ta (.iface 2 v) 53 (.tuple #[.string ByteArray.empty, .bool false]) := fun w => by kernel_rfl
theorem tai54 (v : Value) : Ta (.iface 2 v) 54 (.tuple #[.string ByteArray.empty, .bool false]) := fun w => by kernel_rfl
theorem tai55 (v : Value) : Ta (.iface 2 v) 55 (.tuple #[.string ByteArray.empty, .bool false]) := fun w => by kernel_rfl
theorem tai4 (v : Value) : Ta (.iface 2 v) 4 (.tuple #[.bool false, .bool false]) := fun w => by kernel_rfl
theorem tai9 (v : Value) : Ta (.iface 2 v) 9 (.tuple #[.string ByteArray.empty, .bool false]) := fun w => by kernel_rfl
theorem tai56 (v : Value) : Ta (.iface 2 v) 56 (.tuple #[.slice none 0 0, .bool false]) := fun w => by kernel_rfl
theorem tai59 (v : Value) : Ta (.iface 2 v) 59 (.tuple #[.slice none 0 0, .bool false]) := fun w => by kernel_rfl
theorem tai63 (v : Value) : Ta (.iface 2 v) 63 (.tuple #[.pointer none, .bool false]) := fun w => by kernel_rfl
theorem tai66 (v : Value) : Ta (.iface 2 v) 66 (.tuple #[.map none, .bool false]) := fun w => by kernel_rfl
theorem tai71 (v : Value) : Ta (.iface 2 v) 71 (.tuple #[.map none, .bool false]) := fun w => by kernel_rfl
theorem tai73 (v : Value) : Ta (.iface 2 v) 73 (.tuple #[.pointer none, .bool false]) := fun w => by kernel_rfl

theorem taf2 (v : Value) : Ta (.iface 22 v) 2 (.tuple #[.int .i64 0, .bool false]) := fun w => by kernel_rfl
theorem taf3 (v : Value) : Ta (.iface 22 v) 3 (.tuple #[.int .i64 0, .bool false]) := fun w => by kernel_rfl
theorem taf87 (v : Value) : Ta (.iface 22 v) 87 (.tuple #[.int .i8 0, .bool false]) := fun w => by kernel_rfl
theorem taf88 (v : Value) : Ta (.iface 22 v) 88 (.tuple #[.int .i16 0, .bool false]) := fun w => by kernel_rfl
theorem taf21 (v : Value) : Ta (.iface 22 v) 21 (.tuple #[.int .i32 0, .bool false]) := fun w => by kernel_rfl
theorem taf89 (v : Value) : Ta (.iface 22 v) 89 (.tuple #[.int .u64 0, .bool false]) := fun w => by kernel_rfl
theorem taf5 (v : Value) : Ta (.iface 22 v) 5 (.tuple #[.int .u8 0, .bool false]) := fun w => by kernel_rfl
theorem taf90 (v : Value) : Ta (.iface 22 v) 90 (.tuple #[.int .u16 0, .bool false]) := fun w => by kernel_rfl
theorem taf91 (v : Value) : Ta (.iface 22 v) 91 (.tuple #[.int .u32 0, .bool false]) := fun w => by kernel_rfl
theorem taf77 (v : Value) : Ta (.iface 22 v) 77 (.tuple #[.int .u64 0, .bool false]) := fun w => by kernel_rfl
theorem taf92 (v : Value) : Ta (.iface 22 v) 92 (.tuple #[.float .f32 0, .bool false]) := fun w => by kernel_rfl
theorem taf22 (v : Value) : Ta (.iface 22 v) 22 (.tuple #[v, .bool true]) := fun w => by kernel_rfl
theorem taf50 (v : Value) : Ta (.iface 22 v) 50 (.tuple #[.bool false, .bool false]) := fun w => by kernel_rfl
theorem taf51 (v : Value) : Ta (.iface 22 v) 51 (.tuple #[.int .i64 0, .bool false]) := fun w => by kernel_rfl
theorem taf52 (v : Value) : Ta (.iface 22 v) 52 (.tuple #[.float .f64 0, .bool false]) := fun w => by kernel_rfl
theorem taf53 (v : Value) : Ta (.iface 22 v) 53 (.tuple #[.string ByteArray.empty, .bool false]) := fun w => by kernel_rfl
theorem taf54 (v : Value) : Ta (.iface 22 v) 54 (.tuple #[.string ByteArray.empty, .bool false]) := fun w => by kernel_rfl
theorem taf55 (v : Value) : Ta (.iface 22 v) 55 (.tuple #[.string ByteArray.empty, .bool false]) := fun w => by kernel_rfl
theorem taf4 (v : Value) : Ta (.iface 22 v) 4 (.tuple #[.bool false, .bool false]) := fun w => by kernel_rfl
theorem taf9 (v : Value) : Ta (.iface 22 v) 9 (.tuple #[.string ByteArray.empty, .bool false]) := fun w => by kernel_rfl
theorem taf56 (v : Value) : Ta (.iface 22 v) 56 (.tuple #[.slice none 0 0, .bool false]) := fun w => by kernel_rfl
theorem taf59 (v : Value) : Ta (.iface 22 v) 59 (.tuple #[.slice none 0 0, .bool false]) := fun w => by kernel_rfl
theorem taf63 (v : Value) : Ta (.iface 22 v) 63 (.tuple #[.pointer none, .bool false]) := fun w => by kernel_rfl
theorem taf66 (v : Value) : Ta (.iface 22 v) 66 (.tuple #[.map none, .bool false]) := fun w => by kernel_rfl
theorem taf71 (v : Value) : Ta (.iface 22 v) 71 (.tuple #[.map none, .bool false]) := fun w => by kernel_rfl
theorem taf73 (v : Value) : Ta (.iface 22 v) 73 (.tuple #[.pointer none, .bool false]) := fun w => by kernel_rfl

theorem tas2 (v : Value) : Ta (.iface 9 v) 2 (.tuple #[.int .i64 0, .bool false]) := fun w => by kernel_rfl
theorem tas3 (v : Value) : Ta (.iface 9 v) 3 (.tuple #[.int .i64 0, .bool false]) := fun w => by kernel_rfl
theorem tas87 (v : Value) : Ta (.iface 9 v) 87 (.tuple #[.int .i8 0, .bool false]) := fun w => by kernel_rfl
theorem tas88 (v : Value) : Ta (.iface 9 v) 88 (.tuple #[.int .i16 0, .bool false]) := fun w => by kernel_rfl
theorem tas21 (v : Value) : Ta (.iface 9 v) 21 (.tuple #[.int .i32 0, .bool false]) := fun w => by kernel_rfl
theorem tas89 (v : Value) : Ta (.iface 9 v) 89 (.tuple #[.int .u64 0, .bool false]) := fun w => by kernel_rfl
theorem tas5 (v : Value) : Ta (.iface 9 v) 5 (.tuple #[.int .u8 0, .bool false]) := fun w => by kernel_rfl
theorem tas90 (v : Value) : Ta (.iface 9 v) 90 (.tuple #[.int .u16 0, .bool false]) := fun w => by kernel_rfl
theorem tas91 (v : Value) : Ta (.iface 9 v) 91 (.tuple #[.int .u32 0, .bool false]) := fun w => by kernel_rfl
theorem tas77 (v : Value) : Ta (.iface 9 v) 77 (.tuple #[.int .u64 0, .bool false]) := fun w => by kernel_rfl
theorem tas92 (v : Value) : Ta (.iface 9 v) 92 (.tuple #[.float .f32 0, .bool false]) := fun w => by kernel_rfl
theorem tas22 (v : Value) : Ta (.iface 9 v) 22 (.tuple #[.float .f64 0, .bool false]) := fun w => by kernel_rfl
theorem tas50 (v : Value) : Ta (.iface 9 v) 50 (.tuple #[.bool false, .bool false]) := fun w => by kernel_rfl
theorem tas51 (v : Value) : Ta (.iface 9 v) 51 (.tuple #[.int .i64 0, .bool false]) := fun w => by kernel_rfl
theorem tas52 (v : Value) : Ta (.iface 9 v) 52 (.tuple #[.float .f64 0, .bool false]) := fun w => by kernel_rfl
theorem tas53 (v : Value) : Ta (.iface 9 v) 53 (.tuple #[.string ByteArray.empty, .bool false]) := fun w => by kernel_rfl
theorem tas54 (v : Value) : Ta (.iface 9 v) 54 (.tuple #[.string ByteArray.empty, .bool false]) := fun w => by kernel_rfl
theorem tas55 (v : Value) : Ta (.iface 9 v) 55 (.tuple #[.string ByteArray.empty, .bool false]) := fun w => by kernel_rfl
theorem tas4 (v : Value) : Ta (.iface 9 v) 4 (.tuple #[.bool false, .bool false]) := fun w => by kernel_rfl
theorem tas9 (v : Value) : Ta (.iface 9 v) 9 (.tuple #[v, .bool true]) := fun w => by kernel_rfl
theorem tas56 (v : Value) : Ta (.iface 9 v) 56 (.tuple #[.slice none 0 0, .bool false]) := fun w => by kernel_rfl
theorem tas59 (v : Value) : Ta (.iface 9 v) 59 (.tuple #[.slice none 0 0, .bool false]) := fun w => by kernel_rfl
theorem tas63 (v : Value) : Ta (.iface 9 v) 63 (.tuple #[.pointer none, .bool false]) := fun w => by kernel_rfl
theorem tas66 (v : Value) : Ta (.iface 9 v) 66 (.tuple #[.map none, .bool false]) := fun w => by kernel_rfl
theorem tas71 (v : Value) : Ta (.iface 9 v) 71 (.tuple #[.map none, .bool false]) := fun w => by kernel_rfl
theorem tas73 (v : Value) : Ta (.iface 9 v) 73 (.tuple #[.pointer none, .bool false]) := fun w => by kernel_rfl

theorem taa2 (v : Value) : Ta (.iface 56 v) 2 (.tuple #[.int .i64 0, .bool false]) := fun w => by kernel_rfl
theorem taa3 (v : Value) : Ta (.iface 56 v) 3 (.tuple #[.int .i64 0, .bool false]) := fun w => by kernel_rfl
theorem taa87 (v : Value) : Ta (.iface 56 v) 87 (.tuple #[.int .i8 0, .bool false]) := fun w => by kernel_rfl
theorem taa88 (v : Value) : Ta (.iface 56 v) 88 (.tuple #[.int .i16 0, .bool false]) := fun w => by kernel_rfl
theorem taa21 (v : Value) : Ta (.iface 56 v) 21 (.tuple #[.int .i32 0, .bool false]) := fun w => by kernel_rfl
theorem taa89 (v : Value) : Ta (.iface 56 v) 89 (.tuple #[.int .u64 0, .bool false]) := fun w => by kernel_rfl
theorem taa5 (v : Value) : Ta (.iface 56 v) 5 (.tuple #[.int .u8 0, .bool false]) := fun w => by kernel_rfl
theorem taa90 (v : Value) : Ta (.iface 56 v) 90 (.tuple #[.int .u16 0, .bool false]) := fun w => by kernel_rfl
theorem taa91 (v : Value) : Ta (.iface 56 v) 91 (.tuple #[.int .u32 0, .bool false]) := fun w => by kernel_rfl
theorem taa77 (v : Value) : Ta (.iface 56 v) 77 (.tuple #[.int .u64 0, .bool false]) := fun w => by kernel_rfl
theorem taa92 (v : Value) : Ta (.iface 56 v) 92 (.tuple #[.float .f32 0, .bool false]) := fun w => by kernel_rfl
theorem taa22 (v : Value) : Ta (.iface 56 v) 22 (.tuple #[.float .f64 0, .bool false]) := fun w => by kernel_rfl
theorem taa50 (v : Value) : Ta (.iface 56 v) 50 (.tuple #[.bool false, .bool false]) := fun w => by kernel_rfl
theorem taa51 (v : Value) : Ta (.iface 56 v) 51 (.tuple #[.int .i64 0, .bool false]) := fun w => by kernel_rfl
theorem taa52 (v : Value) : Ta (.iface 56 v) 52 (.tuple #[.float .f64 0, .bool false]) := fun w => by kernel_rfl
theorem taa53 (v : Value) : Ta (.iface 56 v) 53 (.tuple #[.string ByteArray.empty, .bool false]) := fun w => by kernel_rfl
theorem taa54 (v : Value) : Ta (.iface 56 v) 54 (.tuple #[.string ByteArray.empty, .bool false]) := fun w => by kernel_rfl
theorem taa55 (v : Value) : Ta (.iface 56 v) 55 (.tuple #[.string ByteArray.empty, .bool false]) := fun w => by kernel_rfl
theorem taa4 (v : Value) : Ta (.iface 56 v) 4 (.tuple #[.bool false, .bool false]) := fun w => by kernel_rfl
theorem taa9 (v : Value) : Ta (.iface 56 v) 9 (.tuple #[.string ByteArray.empty, .bool false]) := fun w => by kernel_rfl
theorem taa56 (v : Value) : Ta (.iface 56 v) 56 (.tuple #[v, .bool true]) := fun w => by kernel_rfl
theorem taa59 (v : Value) : Ta (.iface 56 v) 59 (.tuple #[.slice none 0 0, .bool false]) := fun w => by kernel_rfl
theorem taa63 (v : Value) : Ta (.iface 56 v) 63 (.tuple #[.pointer none, .bool false]) := fun w => by kernel_rfl
theorem taa66 (v : Value) : Ta (.iface 56 v) 66 (.tuple #[.map none, .bool false]) := fun w => by kernel_rfl
theorem taa71 (v : Value) : Ta (.iface 56 v) 71 (.tuple #[.map none, .bool false]) := fun w => by kernel_rfl
theorem taa73 (v : Value) : Ta (.iface 56 v) 73 (.tuple #[.pointer none, .bool false]) := fun w => by kernel_rfl

theorem tao2 (v : Value) : Ta (.iface 66 v) 2 (.tuple #[.int .i64 0, .bool false]) := fun w => by kernel_rfl
theorem tao3 (v : Value) : Ta (.iface 66 v) 3 (.tuple #[.int .i64 0, .bool false]) := fun w => by kernel_rfl
theorem tao87 (v : Value) : Ta (.iface 66 v) 87 (.tuple #[.int .i8 0, .bool false]) := fun w => by kernel_rfl
theorem tao88 (v : Value) : Ta (.iface 66 v) 88 (.tuple #[.int .i16 0, .bool false]) := fun w => by kernel_rfl
theorem tao21 (v : Value) : Ta (.iface 66 v) 21 (.tuple #[.int .i32 0, .bool false]) := fun w => by kernel_rfl
theorem tao89 (v : Value) : Ta (.iface 66 v) 89 (.tuple #[.int .u64 0, .bool false]) := fun w => by kernel_rfl
theorem tao5 (v : Value) : Ta (.iface 66 v) 5 (.tuple #[.int .u8 0, .bool false]) := fun w => by kernel_rfl
theorem tao90 (v : Value) : Ta (.iface 66 v) 90 (.tuple #[.int .u16 0, .bool false]) := fun w => by kernel_rfl
theorem tao91 (v : Value) : Ta (.iface 66 v) 91 (.tuple #[.int .u32 0, .bool false]) := fun w => by kernel_rfl
theorem tao77 (v : Value) : Ta (.iface 66 v) 77 (.tuple #[.int .u64 0, .bool false]) := fun w => by kernel_rfl
theorem tao92 (v : Value) : Ta (.iface 66 v) 92 (.tuple #[.float .f32 0, .bool false]) := fun w => by kernel_rfl
theorem tao22 (v : Value) : Ta (.iface 66 v) 22 (.tuple #[.float .f64 0, .bool false]) := fun w => by kernel_rfl
theorem tao50 (v : Value) : Ta (.iface 66 v) 50 (.tuple #[.bool false, .bool false]) := fun w => by kernel_rfl
theorem tao51 (v : Value) : Ta (.iface 66 v) 51 (.tuple #[.int .i64 0, .bool false]) := fun w => by kernel_rfl
theorem tao52 (v : Value) : Ta (.iface 66 v) 52 (.tuple #[.float .f64 0, .bool false]) := fun w => by kernel_rfl
theorem tao53 (v : Value) : Ta (.iface 66 v) 53 (.tuple #[.string ByteArray.empty, .bool false]) := fun w => by kernel_rfl
theorem tao54 (v : Value) : Ta (.iface 66 v) 54 (.tuple #[.string ByteArray.empty, .bool false]) := fun w => by kernel_rfl
theorem tao55 (v : Value) : Ta (.iface 66 v) 55 (.tuple #[.string ByteArray.empty, .bool false]) := fun w => by kernel_rfl
theorem tao4 (v : Value) : Ta (.iface 66 v) 4 (.tuple #[.bool false, .bool false]) := fun w => by kernel_rfl
theorem tao9 (v : Value) : Ta (.iface 66 v) 9 (.tuple #[.string ByteArray.empty, .bool false]) := fun w => by kernel_rfl
theorem tao56 (v : Value) : Ta (.iface 66 v) 56 (.tuple #[.slice none 0 0, .bool false]) := fun w => by kernel_rfl
theorem tao59 (v : Value) : Ta (.iface 66 v) 59 (.tuple #[.slice none 0 0, .bool false]) := fun w => by kernel_rfl
theorem tao63 (v : Value) : Ta (.iface 66 v) 63 (.tuple #[.pointer none, .bool false]) := fun w => by kernel_rfl
theorem tao66 (v : Value) : Ta (.iface 66 v) 66 (.tuple #[v, .bool true]) := fun w => by kernel_rfl
theorem tao71 (v : Value) : Ta (.iface 66 v) 71 (.tuple #[.map none, .bool false]) := fun w => by kernel_rfl
theorem tao73 (v : Value) : Ta (.iface 66 v) 73 (.tuple #[.pointer none, .bool false]) := fun w => by kernel_rfl

end Go.Proofs.YtclnpjelgdoloaaGreat
