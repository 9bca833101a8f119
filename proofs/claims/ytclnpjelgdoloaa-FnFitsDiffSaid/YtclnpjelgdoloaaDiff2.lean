/- alt.diff at values that hold no others (printed by wip/dsc.py). -/
import Derived.Test.YtclnpjelgdoloaaDiff1
import Derived.Maps.AppendAt
namespace Go.Proofs.Ytclnpjelgdoloaa
open Go.RowKit Go.Maps
set_option linter.unusedVariables false


set_option maxRecDepth 100000 in
set_option maxHeartbeats 1000000 in
theorem diff_arr_null (p : Option Addr) (pn pc : Nat) (w : World) : Calls Try.prog 44 #[.iface 52 (.slice p pn pc), .nilIface, .bool false, .slice none 0 0] w (OneOr true w) := by
  obtain ⟨i0, hi, hz0, hz1, hz2⟩ := info_parts info53
  have tx4 := taa4 (.slice p pn pc); unfold Ta at tx4
  have tx3 := taa3 (.slice p pn pc); unfold Ta at tx3
  have tx74 := taa74 (.slice p pn pc); unfold Ta at tx74
  have tx75 := taa75 (.slice p pn pc); unfold Ta at tx75
  have tx21 := taa21 (.slice p pn pc); unfold Ta at tx21
  have tx2 := taa2 (.slice p pn pc); unfold Ta at tx2
  have tx76 := taa76 (.slice p pn pc); unfold Ta at tx76
  have tx5 := taa5 (.slice p pn pc); unfold Ta at tx5
  have tx77 := taa77 (.slice p pn pc); unfold Ta at tx77
  have tx78 := taa78 (.slice p pn pc); unfold Ta at tx78
  have tx79 := taa79 (.slice p pn pc); unfold Ta at tx79
  have tx82 := taa82 (.slice p pn pc); unfold Ta at tx82
  have tx22 := taa22 (.slice p pn pc); unfold Ta at tx22
  have tx9 := taa9 (.slice p pn pc); unfold Ta at tx9
  have tx52 := taa52 (.slice p pn pc); unfold Ta at tx52
  have tx72 := taa72 (.slice p pn pc); unfold Ta at tx72
  have ty52 := tan52; unfold Ta at ty52
  have ty72 := tan72; unfold Ta at ty72
  have fx := PForm.arr p pn pc
  have fy := PForm.null
  have FX := hid fx; have FY := hid fy; clear fx fy
  go_enter Try.func44, Try.ntmps44
  go_wp2_with (first
    | (go_at_call_of 46 (Value.iface 52 (.slice p pn pc)); refine (asInt_any _ FX.out _).mono ?_; rintro e w2 ⟨rfl, hw⟩; rw [hw]; clear hw w2; unfold asIntOf)
    | (go_at_call_of 46 (Value.nilIface); refine (asInt_any _ FY.out _).mono ?_; rintro e w2 ⟨rfl, hw⟩; rw [hw]; clear hw w2; unfold asIntOf)
    | (at_builtin; refine wpList_append_own_at _ rfl (.tmp 204) (.tmp 206) 51 rfl w.heap.size 53 i0 (.slice none 0 0) 1 24 Try.underlying51 hi hz0 hz1 hz2 rfl (by decide) (.slice none 0 0) 0 [] rfl (ownsRow_nil53 _ _) ⟨w.heap.size + 1, 0, none⟩ 1 1 [.slice (some ⟨w.heap.size, 0, none⟩) 1 1] rfl rfl (by have := cell_one_new (w.alloc (.cells #[.nilIface] 20)) (.slice (some ⟨w.heap.size, 0, none⟩) 1 1) 53; simpa using this) (one_slice _) len1 (by omega) (by simp; omega) ?_; intro v' w1 hown hgrow hnil hat; have OW := hid hown; have GR := hid hgrow; clear hown hgrow hnil hat))
  go_ret
  first | exact oneOr_none w | exact oneOr_one OW.out GR.out

set_option maxRecDepth 100000 in
set_option maxHeartbeats 1000000 in
theorem diff_arr_bool (p : Option Addr) (pn pc : Nat) (q : Bool) (w : World) : Calls Try.prog 44 #[.iface 52 (.slice p pn pc), .iface 4 (.bool q), .bool false, .slice none 0 0] w (OneOr true w) := by
  obtain ⟨i0, hi, hz0, hz1, hz2⟩ := info_parts info53
  have tx4 := taa4 (.slice p pn pc); unfold Ta at tx4
  have tx3 := taa3 (.slice p pn pc); unfold Ta at tx3
  have tx74 := taa74 (.slice p pn pc); unfold Ta at tx74
  have tx75 := taa75 (.slice p pn pc); unfold Ta at tx75
  have tx21 := taa21 (.slice p pn pc); unfold Ta at tx21
  have tx2 := taa2 (.slice p pn pc); unfold Ta at tx2
  have tx76 := taa76 (.slice p pn pc); unfold Ta at tx76
  have tx5 := taa5 (.slice p pn pc); unfold Ta at tx5
  have tx77 := taa77 (.slice p pn pc); unfold Ta at tx77
  have tx78 := taa78 (.slice p pn pc); unfold Ta at tx78
  have tx79 := taa79 (.slice p pn pc); unfold Ta at tx79
  have tx82 := taa82 (.slice p pn pc); unfold Ta at tx82
  have tx22 := taa22 (.slice p pn pc); unfold Ta at tx22
  have tx9 := taa9 (.slice p pn pc); unfold Ta at tx9
  have tx52 := taa52 (.slice p pn pc); unfold Ta at tx52
  have tx72 := taa72 (.slice p pn pc); unfold Ta at tx72
  have ty52 := tab52 (.bool q); unfold Ta at ty52
  have ty72 := tab72 (.bool q); unfold Ta at ty72
  have fx := PForm.arr p pn pc
  have fy := PForm.bool q
  have FX := hid fx; have FY := hid fy; clear fx fy
  go_enter Try.func44, Try.ntmps44
  go_wp2_with (first
    | (go_at_call_of 46 (Value.iface 52 (.slice p pn pc)); refine (asInt_any _ FX.out _).mono ?_; rintro e w2 ⟨rfl, hw⟩; rw [hw]; clear hw w2; unfold asIntOf)
    | (go_at_call_of 46 (Value.iface 4 (.bool q)); refine (asInt_any _ FY.out _).mono ?_; rintro e w2 ⟨rfl, hw⟩; rw [hw]; clear hw w2; unfold asIntOf)
    | (at_builtin; refine wpList_append_own_at _ rfl (.tmp 204) (.tmp 206) 51 rfl w.heap.size 53 i0 (.slice none 0 0) 1 24 Try.underlying51 hi hz0 hz1 hz2 rfl (by decide) (.slice none 0 0) 0 [] rfl (ownsRow_nil53 _ _) ⟨w.heap.size + 1, 0, none⟩ 1 1 [.slice (some ⟨w.heap.size, 0, none⟩) 1 1] rfl rfl (by have := cell_one_new (w.alloc (.cells #[.nilIface] 20)) (.slice (some ⟨w.heap.size, 0, none⟩) 1 1) 53; simpa using this) (one_slice _) len1 (by omega) (by simp; omega) ?_; intro v' w1 hown hgrow hnil hat; have OW := hid hown; have GR := hid hgrow; clear hown hgrow hnil hat))
  go_ret
  first | exact oneOr_none w | exact oneOr_one OW.out GR.out

set_option maxRecDepth 100000 in
set_option maxHeartbeats 1000000 in
theorem diff_arr_int (p : Option Addr) (pn pc : Nat) (q : Int) (w : World) : Calls Try.prog 44 #[.iface 52 (.slice p pn pc), .iface 2 (.int .i64 q), .bool false, .slice none 0 0] w (OneOr true w) := by
  obtain ⟨i0, hi, hz0, hz1, hz2⟩ := info_parts info53
  have tx4 := taa4 (.slice p pn pc); unfold Ta at tx4
  have tx3 := taa3 (.slice p pn pc); unfold Ta at tx3
  have tx74 := taa74 (.slice p pn pc); unfold Ta at tx74
  have tx75 := taa75 (.slice p pn pc); unfold Ta at tx75
  have tx21 := taa21 (.slice p pn pc); unfold Ta at tx21
  have tx2 := taa2 (.slice p pn pc); unfold Ta at tx2
  have tx76 := taa76 (.slice p pn pc); unfold Ta at tx76
  have tx5 := taa5 (.slice p pn pc); unfold Ta at tx5
  have tx77 := taa77 (.slice p pn pc); unfold Ta at tx77
  have tx78 := taa78 (.slice p pn pc); unfold Ta at tx78
  have tx79 := taa79 (.slice p pn pc); unfold Ta at tx79
  have tx82 := taa82 (.slice p pn pc); unfold Ta at tx82
  have tx22 := taa22 (.slice p pn pc); unfold Ta at tx22
  have tx9 := taa9 (.slice p pn pc); unfold Ta at tx9
  have tx52 := taa52 (.slice p pn pc); unfold Ta at tx52
  have tx72 := taa72 (.slice p pn pc); unfold Ta at tx72
  have ty52 := tai52 (.int .i64 q); unfold Ta at ty52
  have ty72 := tai72 (.int .i64 q); unfold Ta at ty72
  have fx := PForm.arr p pn pc
  have fy := PForm.int q
  have FX := hid fx; have FY := hid fy; clear fx fy
  go_enter Try.func44, Try.ntmps44
  go_wp2_with (first
    | (go_at_call_of 46 (Value.iface 52 (.slice p pn pc)); refine (asInt_any _ FX.out _).mono ?_; rintro e w2 ⟨rfl, hw⟩; rw [hw]; clear hw w2; unfold asIntOf)
    | (go_at_call_of 46 (Value.iface 2 (.int .i64 q)); refine (asInt_any _ FY.out _).mono ?_; rintro e w2 ⟨rfl, hw⟩; rw [hw]; clear hw w2; unfold asIntOf)
    | (at_builtin; refine wpList_append_own_at _ rfl (.tmp 204) (.tmp 206) 51 rfl w.heap.size 53 i0 (.slice none 0 0) 1 24 Try.underlying51 hi hz0 hz1 hz2 rfl (by decide) (.slice none 0 0) 0 [] rfl (ownsRow_nil53 _ _) ⟨w.heap.size + 1, 0, none⟩ 1 1 [.slice (some ⟨w.heap.size, 0, none⟩) 1 1] rfl rfl (by have := cell_one_new (w.alloc (.cells #[.nilIface] 20)) (.slice (some ⟨w.heap.size, 0, none⟩) 1 1) 53; simpa using this) (one_slice _) len1 (by omega) (by simp; omega) ?_; intro v' w1 hown hgrow hnil hat; have OW := hid hown; have GR := hid hgrow; clear hown hgrow hnil hat))
  go_ret
  first | exact oneOr_none w | exact oneOr_one OW.out GR.out

set_option maxRecDepth 100000 in
set_option maxHeartbeats 1000000 in
theorem diff_arr_str (p : Option Addr) (pn pc : Nat) (q : ByteArray) (w : World) : Calls Try.prog 44 #[.iface 52 (.slice p pn pc), .iface 9 (.string q), .bool false, .slice none 0 0] w (OneOr true w) := by
  obtain ⟨i0, hi, hz0, hz1, hz2⟩ := info_parts info53
  have tx4 := taa4 (.slice p pn pc); unfold Ta at tx4
  have tx3 := taa3 (.slice p pn pc); unfold Ta at tx3
  have tx74 := taa74 (.slice p pn pc); unfold Ta at tx74
  have tx75 := taa75 (.slice p pn pc); unfold Ta at tx75
  have tx21 := taa21 (.slice p pn pc); unfold Ta at tx21
  have tx2 := taa2 (.slice p pn pc); unfold Ta at tx2
  have tx76 := taa76 (.slice p pn pc); unfold Ta at tx76
  have tx5 := taa5 (.slice p pn pc); unfold Ta at tx5
  have tx77 := taa77 (.slice p pn pc); unfold Ta at tx77
  have tx78 := taa78 (.slice p pn pc); unfold Ta at tx78
  have tx79 := taa79 (.slice p pn pc); unfold Ta at tx79
  have tx82 := taa82 (.slice p pn pc); unfold Ta at tx82
  have tx22 := taa22 (.slice p pn pc); unfold Ta at tx22
  have tx9 := taa9 (.slice p pn pc); unfold Ta at tx9
  have tx52 := taa52 (.slice p pn pc); unfold Ta at tx52
  have tx72 := taa72 (.slice p pn pc); unfold Ta at tx72
  have ty52 := tas52 (.string q); unfold Ta at ty52
  have ty72 := tas72 (.string q); unfold Ta at ty72
  have fx := PForm.arr p pn pc
  have fy := PForm.str q
  have FX := hid fx; have FY := hid fy; clear fx fy
  go_enter Try.func44, Try.ntmps44
  go_wp2_with (first
    | (go_at_call_of 46 (Value.iface 52 (.slice p pn pc)); refine (asInt_any _ FX.out _).mono ?_; rintro e w2 ⟨rfl, hw⟩; rw [hw]; clear hw w2; unfold asIntOf)
    | (go_at_call_of 46 (Value.iface 9 (.string q)); refine (asInt_any _ FY.out _).mono ?_; rintro e w2 ⟨rfl, hw⟩; rw [hw]; clear hw w2; unfold asIntOf)
    | (at_builtin; refine wpList_append_own_at _ rfl (.tmp 204) (.tmp 206) 51 rfl w.heap.size 53 i0 (.slice none 0 0) 1 24 Try.underlying51 hi hz0 hz1 hz2 rfl (by decide) (.slice none 0 0) 0 [] rfl (ownsRow_nil53 _ _) ⟨w.heap.size + 1, 0, none⟩ 1 1 [.slice (some ⟨w.heap.size, 0, none⟩) 1 1] rfl rfl (by have := cell_one_new (w.alloc (.cells #[.nilIface] 20)) (.slice (some ⟨w.heap.size, 0, none⟩) 1 1) 53; simpa using this) (one_slice _) len1 (by omega) (by simp; omega) ?_; intro v' w1 hown hgrow hnil hat; have OW := hid hown; have GR := hid hgrow; clear hown hgrow hnil hat))
  go_ret
  first | exact oneOr_none w | exact oneOr_one OW.out GR.out

set_option maxRecDepth 100000 in
set_option maxHeartbeats 1000000 in
theorem diff_arr_obj (p : Option Addr) (pn pc : Nat) (q : Option Nat) (w : World) : Calls Try.prog 44 #[.iface 52 (.slice p pn pc), .iface 72 (.map q), .bool false, .slice none 0 0] w (OneOr true w) := by
  obtain ⟨i0, hi, hz0, hz1, hz2⟩ := info_parts info53
  have tx4 := taa4 (.slice p pn pc); unfold Ta at tx4
  have tx3 := taa3 (.slice p pn pc); unfold Ta at tx3
  have tx74 := taa74 (.slice p pn pc); unfold Ta at tx74
  have tx75 := taa75 (.slice p pn pc); unfold Ta at tx75
  have tx21 := taa21 (.slice p pn pc); unfold Ta at tx21
  have tx2 := taa2 (.slice p pn pc); unfold Ta at tx2
  have tx76 := taa76 (.slice p pn pc); unfold Ta at tx76
  have tx5 := taa5 (.slice p pn pc); unfold Ta at tx5
  have tx77 := taa77 (.slice p pn pc); unfold Ta at tx77
  have tx78 := taa78 (.slice p pn pc); unfold Ta at tx78
  have tx79 := taa79 (.slice p pn pc); unfold Ta at tx79
  have tx82 := taa82 (.slice p pn pc); unfold Ta at tx82
  have tx22 := taa22 (.slice p pn pc); unfold Ta at tx22
  have tx9 := taa9 (.slice p pn pc); unfold Ta at tx9
  have tx52 := taa52 (.slice p pn pc); unfold Ta at tx52
  have tx72 := taa72 (.slice p pn pc); unfold Ta at tx72
  have ty52 := tao52 (.map q); unfold Ta at ty52
  have ty72 := tao72 (.map q); unfold Ta at ty72
  have fx := PForm.arr p pn pc
  have fy := PForm.obj q
  have FX := hid fx; have FY := hid fy; clear fx fy
  go_enter Try.func44, Try.ntmps44
  go_wp2_with (first
    | (go_at_call_of 46 (Value.iface 52 (.slice p pn pc)); refine (asInt_any _ FX.out _).mono ?_; rintro e w2 ⟨rfl, hw⟩; rw [hw]; clear hw w2; unfold asIntOf)
    | (go_at_call_of 46 (Value.iface 72 (.map q)); refine (asInt_any _ FY.out _).mono ?_; rintro e w2 ⟨rfl, hw⟩; rw [hw]; clear hw w2; unfold asIntOf)
    | (at_builtin; refine wpList_append_own_at _ rfl (.tmp 204) (.tmp 206) 51 rfl w.heap.size 53 i0 (.slice none 0 0) 1 24 Try.underlying51 hi hz0 hz1 hz2 rfl (by decide) (.slice none 0 0) 0 [] rfl (ownsRow_nil53 _ _) ⟨w.heap.size + 1, 0, none⟩ 1 1 [.slice (some ⟨w.heap.size, 0, none⟩) 1 1] rfl rfl (by have := cell_one_new (w.alloc (.cells #[.nilIface] 20)) (.slice (some ⟨w.heap.size, 0, none⟩) 1 1) 53; simpa using this) (one_slice _) len1 (by omega) (by simp; omega) ?_; intro v' w1 hown hgrow hnil hat; have OW := hid hown; have GR := hid hgrow; clear hown hgrow hnil hat))
  go_ret
  first | exact oneOr_none w | exact oneOr_one OW.out GR.out

set_option maxRecDepth 100000 in
set_option maxHeartbeats 1000000 in
theorem diff_obj_null (p : Option Nat) (w : World) : Calls Try.prog 44 #[.iface 72 (.map p), .nilIface, .bool false, .slice none 0 0] w (OneOr true w) := by
  obtain ⟨i0, hi, hz0, hz1, hz2⟩ := info_parts info53
  have tx4 := tao4 (.map p); unfold Ta at tx4
  have tx3 := tao3 (.map p); unfold Ta at tx3
  have tx74 := tao74 (.map p); unfold Ta at tx74
  have tx75 := tao75 (.map p); unfold Ta at tx75
  have tx21 := tao21 (.map p); unfold Ta at tx21
  have tx2 := tao2 (.map p); unfold Ta at tx2
  have tx76 := tao76 (.map p); unfold Ta at tx76
  have tx5 := tao5 (.map p); unfold Ta at tx5
  have tx77 := tao77 (.map p); unfold Ta at tx77
  have tx78 := tao78 (.map p); unfold Ta at tx78
  have tx79 := tao79 (.map p); unfold Ta at tx79
  have tx82 := tao82 (.map p); unfold Ta at tx82
  have tx22 := tao22 (.map p); unfold Ta at tx22
  have tx9 := tao9 (.map p); unfold Ta at tx9
  have tx52 := tao52 (.map p); unfold Ta at tx52
  have tx72 := tao72 (.map p); unfold Ta at tx72
  have ty52 := tan52; unfold Ta at ty52
  have ty72 := tan72; unfold Ta at ty72
  have fx := PForm.obj p
  have fy := PForm.null
  have FX := hid fx; have FY := hid fy; clear fx fy
  go_enter Try.func44, Try.ntmps44
  go_wp2_with (first
    | (go_at_call_of 46 (Value.iface 72 (.map p)); refine (asInt_any _ FX.out _).mono ?_; rintro e w2 ⟨rfl, hw⟩; rw [hw]; clear hw w2; unfold asIntOf)
    | (go_at_call_of 46 (Value.nilIface); refine (asInt_any _ FY.out _).mono ?_; rintro e w2 ⟨rfl, hw⟩; rw [hw]; clear hw w2; unfold asIntOf)
    | (at_builtin; refine wpList_append_own_at _ rfl (.tmp 338) (.tmp 340) 51 rfl w.heap.size 53 i0 (.slice none 0 0) 1 24 Try.underlying51 hi hz0 hz1 hz2 rfl (by decide) (.slice none 0 0) 0 [] rfl (ownsRow_nil53 _ _) ⟨w.heap.size + 1, 0, none⟩ 1 1 [.slice (some ⟨w.heap.size, 0, none⟩) 1 1] rfl rfl (by have := cell_one_new (w.alloc (.cells #[.nilIface] 20)) (.slice (some ⟨w.heap.size, 0, none⟩) 1 1) 53; simpa using this) (one_slice _) len1 (by omega) (by simp; omega) ?_; intro v' w1 hown hgrow hnil hat; have OW := hid hown; have GR := hid hgrow; clear hown hgrow hnil hat))
  go_ret
  first | exact oneOr_none w | exact oneOr_one OW.out GR.out

set_option maxRecDepth 100000 in
set_option maxHeartbeats 1000000 in
theorem diff_obj_bool (p : Option Nat) (q : Bool) (w : World) : Calls Try.prog 44 #[.iface 72 (.map p), .iface 4 (.bool q), .bool false, .slice none 0 0] w (OneOr true w) := by
  obtain ⟨i0, hi, hz0, hz1, hz2⟩ := info_parts info53
  have tx4 := tao4 (.map p); unfold Ta at tx4
  have tx3 := tao3 (.map p); unfold Ta at tx3
  have tx74 := tao74 (.map p); unfold Ta at tx74
  have tx75 := tao75 (.map p); unfold Ta at tx75
  have tx21 := tao21 (.map p); unfold Ta at tx21
  have tx2 := tao2 (.map p); unfold Ta at tx2
  have tx76 := tao76 (.map p); unfold Ta at tx76
  have tx5 := tao5 (.map p); unfold Ta at tx5
  have tx77 := tao77 (.map p); unfold Ta at tx77
  have tx78 := tao78 (.map p); unfold Ta at tx78
  have tx79 := tao79 (.map p); unfold Ta at tx79
  have tx82 := tao82 (.map p); unfold Ta at tx82
  have tx22 := tao22 (.map p); unfold Ta at tx22
  have tx9 := tao9 (.map p); unfold Ta at tx9
  have tx52 := tao52 (.map p); unfold Ta at tx52
  have tx72 := tao72 (.map p); unfold Ta at tx72
  have ty52 := tab52 (.bool q); unfold Ta at ty52
  have ty72 := tab72 (.bool q); unfold Ta at ty72
  have fx := PForm.obj p
  have fy := PForm.bool q
  have FX := hid fx; have FY := hid fy; clear fx fy
  go_enter Try.func44, Try.ntmps44
  go_wp2_with (first
    | (go_at_call_of 46 (Value.iface 72 (.map p)); refine (asInt_any _ FX.out _).mono ?_; rintro e w2 ⟨rfl, hw⟩; rw [hw]; clear hw w2; unfold asIntOf)
    | (go_at_call_of 46 (Value.iface 4 (.bool q)); refine (asInt_any _ FY.out _).mono ?_; rintro e w2 ⟨rfl, hw⟩; rw [hw]; clear hw w2; unfold asIntOf)
    | (at_builtin; refine wpList_append_own_at _ rfl (.tmp 338) (.tmp 340) 51 rfl w.heap.size 53 i0 (.slice none 0 0) 1 24 Try.underlying51 hi hz0 hz1 hz2 rfl (by decide) (.slice none 0 0) 0 [] rfl (ownsRow_nil53 _ _) ⟨w.heap.size + 1, 0, none⟩ 1 1 [.slice (some ⟨w.heap.size, 0, none⟩) 1 1] rfl rfl (by have := cell_one_new (w.alloc (.cells #[.nilIface] 20)) (.slice (some ⟨w.heap.size, 0, none⟩) 1 1) 53; simpa using this) (one_slice _) len1 (by omega) (by simp; omega) ?_; intro v' w1 hown hgrow hnil hat; have OW := hid hown; have GR := hid hgrow; clear hown hgrow hnil hat))
  go_ret
  first | exact oneOr_none w | exact oneOr_one OW.out GR.out

set_option maxRecDepth 100000 in
set_option maxHeartbeats 1000000 in
theorem diff_obj_int (p : Option Nat) (q : Int) (w : World) : Calls Try.prog 44 #[.iface 72 (.map p), .iface 2 (.int .i64 q), .bool false, .slice none 0 0] w (OneOr true w) := by
  obtain ⟨i0, hi, hz0, hz1, hz2⟩ := info_parts info53
  have tx4 := tao4 (.map p); unfold Ta at tx4
  have tx3 := tao3 (.map p); unfold Ta at tx3
  have tx74 := tao74 (.map p); unfold Ta at tx74
  have tx75 := tao75 (.map p); unfold Ta at tx75
  have tx21 := tao21 (.map p); unfold Ta at tx21
  have tx2 := tao2 (.map p); unfold Ta at tx2
  have tx76 := tao76 (.map p); unfold Ta at tx76
  have tx5 := tao5 (.map p); unfold Ta at tx5
  have tx77 := tao77 (.map p); unfold Ta at tx77
  have tx78 := tao78 (.map p); unfold Ta at tx78
  have tx79 := tao79 (.map p); unfold Ta at tx79
  have tx82 := tao82 (.map p); unfold Ta at tx82
  have tx22 := tao22 (.map p); unfold Ta at tx22
  have tx9 := tao9 (.map p); unfold Ta at tx9
  have tx52 := tao52 (.map p); unfold Ta at tx52
  have tx72 := tao72 (.map p); unfold Ta at tx72
  have ty52 := tai52 (.int .i64 q); unfold Ta at ty52
  have ty72 := tai72 (.int .i64 q); unfold Ta at ty72
  have fx := PForm.obj p
  have fy := PForm.int q
  have FX := hid fx; have FY := hid fy; clear fx fy
  go_enter Try.func44, Try.ntmps44
  go_wp2_with (first
    | (go_at_call_of 46 (Value.iface 72 (.map p)); refine (asInt_any _ FX.out _).mono ?_; rintro e w2 ⟨rfl, hw⟩; rw [hw]; clear hw w2; unfold asIntOf)
    | (go_at_call_of 46 (Value.iface 2 (.int .i64 q)); refine (asInt_any _ FY.out _).mono ?_; rintro e w2 ⟨rfl, hw⟩; rw [hw]; clear hw w2; unfold asIntOf)
    | (at_builtin; refine wpList_append_own_at _ rfl (.tmp 338) (.tmp 340) 51 rfl w.heap.size 53 i0 (.slice none 0 0) 1 24 Try.underlying51 hi hz0 hz1 hz2 rfl (by decide) (.slice none 0 0) 0 [] rfl (ownsRow_nil53 _ _) ⟨w.heap.size + 1, 0, none⟩ 1 1 [.slice (some ⟨w.heap.size, 0, none⟩) 1 1] rfl rfl (by have := cell_one_new (w.alloc (.cells #[.nilIface] 20)) (.slice (some ⟨w.heap.size, 0, none⟩) 1 1) 53; simpa using this) (one_slice _) len1 (by omega) (by simp; omega) ?_; intro v' w1 hown hgrow hnil hat; have OW := hid hown; have GR := hid hgrow; clear hown hgrow hnil hat))
  go_ret
  first | exact oneOr_none w | exact oneOr_one OW.out GR.out

set_option maxRecDepth 100000 in
set_option maxHeartbeats 1000000 in
theorem diff_obj_str (p : Option Nat) (q : ByteArray) (w : World) : Calls Try.prog 44 #[.iface 72 (.map p), .iface 9 (.string q), .bool false, .slice none 0 0] w (OneOr true w) := by
  obtain ⟨i0, hi, hz0, hz1, hz2⟩ := info_parts info53
  have tx4 := tao4 (.map p); unfold Ta at tx4
  have tx3 := tao3 (.map p); unfold Ta at tx3
  have tx74 := tao74 (.map p); unfold Ta at tx74
  have tx75 := tao75 (.map p); unfold Ta at tx75
  have tx21 := tao21 (.map p); unfold Ta at tx21
  have tx2 := tao2 (.map p); unfold Ta at tx2
  have tx76 := tao76 (.map p); unfold Ta at tx76
  have tx5 := tao5 (.map p); unfold Ta at tx5
  have tx77 := tao77 (.map p); unfold Ta at tx77
  have tx78 := tao78 (.map p); unfold Ta at tx78
  have tx79 := tao79 (.map p); unfold Ta at tx79
  have tx82 := tao82 (.map p); unfold Ta at tx82
  have tx22 := tao22 (.map p); unfold Ta at tx22
  have tx9 := tao9 (.map p); unfold Ta at tx9
  have tx52 := tao52 (.map p); unfold Ta at tx52
  have tx72 := tao72 (.map p); unfold Ta at tx72
  have ty52 := tas52 (.string q); unfold Ta at ty52
  have ty72 := tas72 (.string q); unfold Ta at ty72
  have fx := PForm.obj p
  have fy := PForm.str q
  have FX := hid fx; have FY := hid fy; clear fx fy
  go_enter Try.func44, Try.ntmps44
  go_wp2_with (first
    | (go_at_call_of 46 (Value.iface 72 (.map p)); refine (asInt_any _ FX.out _).mono ?_; rintro e w2 ⟨rfl, hw⟩; rw [hw]; clear hw w2; unfold asIntOf)
    | (go_at_call_of 46 (Value.iface 9 (.string q)); refine (asInt_any _ FY.out _).mono ?_; rintro e w2 ⟨rfl, hw⟩; rw [hw]; clear hw w2; unfold asIntOf)
    | (at_builtin; refine wpList_append_own_at _ rfl (.tmp 338) (.tmp 340) 51 rfl w.heap.size 53 i0 (.slice none 0 0) 1 24 Try.underlying51 hi hz0 hz1 hz2 rfl (by decide) (.slice none 0 0) 0 [] rfl (ownsRow_nil53 _ _) ⟨w.heap.size + 1, 0, none⟩ 1 1 [.slice (some ⟨w.heap.size, 0, none⟩) 1 1] rfl rfl (by have := cell_one_new (w.alloc (.cells #[.nilIface] 20)) (.slice (some ⟨w.heap.size, 0, none⟩) 1 1) 53; simpa using this) (one_slice _) len1 (by omega) (by simp; omega) ?_; intro v' w1 hown hgrow hnil hat; have OW := hid hown; have GR := hid hgrow; clear hown hgrow hnil hat))
  go_ret
  first | exact oneOr_none w | exact oneOr_one OW.out GR.out

set_option maxRecDepth 100000 in
set_option maxHeartbeats 1000000 in
theorem diff_obj_arr (p : Option Nat) (q : Option Addr) (qn qc : Nat) (w : World) : Calls Try.prog 44 #[.iface 72 (.map p), .iface 52 (.slice q qn qc), .bool false, .slice none 0 0] w (OneOr true w) := by
  obtain ⟨i0, hi, hz0, hz1, hz2⟩ := info_parts info53
  have tx4 := tao4 (.map p); unfold Ta at tx4
  have tx3 := tao3 (.map p); unfold Ta at tx3
  have tx74 := tao74 (.map p); unfold Ta at tx74
  have tx75 := tao75 (.map p); unfold Ta at tx75
  have tx21 := tao21 (.map p); unfold Ta at tx21
  have tx2 := tao2 (.map p); unfold Ta at tx2
  have tx76 := tao76 (.map p); unfold Ta at tx76
  have tx5 := tao5 (.map p); unfold Ta at tx5
  have tx77 := tao77 (.map p); unfold Ta at tx77
  have tx78 := tao78 (.map p); unfold Ta at tx78
  have tx79 := tao79 (.map p); unfold Ta at tx79
  have tx82 := tao82 (.map p); unfold Ta at tx82
  have tx22 := tao22 (.map p); unfold Ta at tx22
  have tx9 := tao9 (.map p); unfold Ta at tx9
  have tx52 := tao52 (.map p); unfold Ta at tx52
  have tx72 := tao72 (.map p); unfold Ta at tx72
  have ty52 := taa52 (.slice q qn qc); unfold Ta at ty52
  have ty72 := taa72 (.slice q qn qc); unfold Ta at ty72
  have fx := PForm.obj p
  have fy := PForm.arr q qn qc
  have FX := hid fx; have FY := hid fy; clear fx fy
  go_enter Try.func44, Try.ntmps44
  go_wp2_with (first
    | (go_at_call_of 46 (Value.iface 72 (.map p)); refine (asInt_any _ FX.out _).mono ?_; rintro e w2 ⟨rfl, hw⟩; rw [hw]; clear hw w2; unfold asIntOf)
    | (go_at_call_of 46 (Value.iface 52 (.slice q qn qc)); refine (asInt_any _ FY.out _).mono ?_; rintro e w2 ⟨rfl, hw⟩; rw [hw]; clear hw w2; unfold asIntOf)
    | (at_builtin; refine wpList_append_own_at _ rfl (.tmp 338) (.tmp 340) 51 rfl w.heap.size 53 i0 (.slice none 0 0) 1 24 Try.underlying51 hi hz0 hz1 hz2 rfl (by decide) (.slice none 0 0) 0 [] rfl (ownsRow_nil53 _ _) ⟨w.heap.size + 1, 0, none⟩ 1 1 [.slice (some ⟨w.heap.size, 0, none⟩) 1 1] rfl rfl (by have := cell_one_new (w.alloc (.cells #[.nilIface] 20)) (.slice (some ⟨w.heap.size, 0, none⟩) 1 1) 53; simpa using this) (one_slice _) len1 (by omega) (by simp; omega) ?_; intro v' w1 hown hgrow hnil hat; have OW := hid hown; have GR := hid hgrow; clear hown hgrow hnil hat))
  go_ret
  first | exact oneOr_none w | exact oneOr_one OW.out GR.out

end Go.Proofs.Ytclnpjelgdoloaa
