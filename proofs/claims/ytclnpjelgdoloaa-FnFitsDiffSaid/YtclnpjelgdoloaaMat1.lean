/- alt.Match at two values that are not both arrays and not both objects (printed by wip/mat.py). -/
import Derived.Test.YtclnpjelgdoloaaDiffSc
namespace Go.Proofs.Ytclnpjelgdoloaa
open Go.RowKit Go.Maps
set_option linter.unusedVariables false

def IsBool (b : Bool) (w : World) (e : Ending) (w' : World) : Prop := e = .returned (.bool b) ∧ w' = w

set_option maxRecDepth 100000 in
set_option maxHeartbeats 1000000 in
theorem match_null_null (w : World) : Calls Try.prog 32 #[.nilIface, .nilIface] w (IsBool true w) := by
  have tx4 := tan4; unfold Ta at tx4
  have tx3 := tan3; unfold Ta at tx3
  have tx74 := tan74; unfold Ta at tx74
  have tx75 := tan75; unfold Ta at tx75
  have tx21 := tan21; unfold Ta at tx21
  have tx2 := tan2; unfold Ta at tx2
  have tx76 := tan76; unfold Ta at tx76
  have tx5 := tan5; unfold Ta at tx5
  have tx77 := tan77; unfold Ta at tx77
  have tx78 := tan78; unfold Ta at tx78
  have tx79 := tan79; unfold Ta at tx79
  have tx82 := tan82; unfold Ta at tx82
  have tx22 := tan22; unfold Ta at tx22
  have tx9 := tan9; unfold Ta at tx9
  have tx52 := tan52; unfold Ta at tx52
  have tx72 := tan72; unfold Ta at tx72
  have ty4 := tan4; unfold Ta at ty4
  have ty9 := tan9; unfold Ta at ty9
  have ty52 := tan52; unfold Ta at ty52
  have ty72 := tan72; unfold Ta at ty72
  have fx := PForm.null
  have fy := PForm.null
  have FX := hid fx; have FY := hid fy; clear fx fy
  go_enter Try.func32, Try.ntmps32
  go_wp2_with (first
    | (go_at_call_of 46 (Value.nilIface); refine (asInt_any _ FX.out _).mono ?_; rintro e w2 ⟨rfl, hw⟩; rw [hw]; clear hw w2; unfold asIntOf)
    | (go_at_call_of 46 (Value.nilIface); refine (asInt_any _ FY.out _).mono ?_; rintro e w2 ⟨rfl, hw⟩; rw [hw]; clear hw w2; unfold asIntOf))
  go_ret
  exact ⟨rfl, rfl⟩

set_option maxRecDepth 100000 in
set_option maxHeartbeats 1000000 in
theorem match_null_bool (q : Bool) (w : World) : Calls Try.prog 32 #[.nilIface, .iface 4 (.bool q)] w (IsBool false w) := by
  have tx4 := tan4; unfold Ta at tx4
  have tx3 := tan3; unfold Ta at tx3
  have tx74 := tan74; unfold Ta at tx74
  have tx75 := tan75; unfold Ta at tx75
  have tx21 := tan21; unfold Ta at tx21
  have tx2 := tan2; unfold Ta at tx2
  have tx76 := tan76; unfold Ta at tx76
  have tx5 := tan5; unfold Ta at tx5
  have tx77 := tan77; unfold Ta at tx77
  have tx78 := tan78; unfold Ta at tx78
  have tx79 := tan79; unfold Ta at tx79
  have tx82 := tan82; unfold Ta at tx82
  have tx22 := tan22; unfold Ta at tx22
  have tx9 := tan9; unfold Ta at tx9
  have tx52 := tan52; unfold Ta at tx52
  have tx72 := tan72; unfold Ta at tx72
  have ty4 := tab4 (.bool q); unfold Ta at ty4
  have ty9 := tab9 (.bool q); unfold Ta at ty9
  have ty52 := tab52 (.bool q); unfold Ta at ty52
  have ty72 := tab72 (.bool q); unfold Ta at ty72
  have fx := PForm.null
  have fy := PForm.bool q
  have FX := hid fx; have FY := hid fy; clear fx fy
  go_enter Try.func32, Try.ntmps32
  go_wp2_with (first
    | (go_at_call_of 46 (Value.nilIface); refine (asInt_any _ FX.out _).mono ?_; rintro e w2 ⟨rfl, hw⟩; rw [hw]; clear hw w2; unfold asIntOf)
    | (go_at_call_of 46 (Value.iface 4 (.bool q)); refine (asInt_any _ FY.out _).mono ?_; rintro e w2 ⟨rfl, hw⟩; rw [hw]; clear hw w2; unfold asIntOf))
  go_ret
  exact ⟨rfl, rfl⟩

set_option maxRecDepth 100000 in
set_option maxHeartbeats 1000000 in
theorem match_null_int (q : Int) (w : World) : Calls Try.prog 32 #[.nilIface, .iface 2 (.int .i64 q)] w (IsBool false w) := by
  have tx4 := tan4; unfold Ta at tx4
  have tx3 := tan3; unfold Ta at tx3
  have tx74 := tan74; unfold Ta at tx74
  have tx75 := tan75; unfold Ta at tx75
  have tx21 := tan21; unfold Ta at tx21
  have tx2 := tan2; unfold Ta at tx2
  have tx76 := tan76; unfold Ta at tx76
  have tx5 := tan5; unfold Ta at tx5
  have tx77 := tan77; unfold Ta at tx77
  have tx78 := tan78; unfold Ta at tx78
  have tx79 := tan79; unfold Ta at tx79
  have tx82 := tan82; unfold Ta at tx82
  have tx22 := tan22; unfold Ta at tx22
  have tx9 := tan9; unfold Ta at tx9
  have tx52 := tan52; unfold Ta at tx52
  have tx72 := tan72; unfold Ta at tx72
  have ty4 := tai4 (.int .i64 q); unfold Ta at ty4
  have ty9 := tai9 (.int .i64 q); unfold Ta at ty9
  have ty52 := tai52 (.int .i64 q); unfold Ta at ty52
  have ty72 := tai72 (.int .i64 q); unfold Ta at ty72
  have fx := PForm.null
  have fy := PForm.int q
  have FX := hid fx; have FY := hid fy; clear fx fy
  go_enter Try.func32, Try.ntmps32
  go_wp2_with (first
    | (go_at_call_of 46 (Value.nilIface); refine (asInt_any _ FX.out _).mono ?_; rintro e w2 ⟨rfl, hw⟩; rw [hw]; clear hw w2; unfold asIntOf)
    | (go_at_call_of 46 (Value.iface 2 (.int .i64 q)); refine (asInt_any _ FY.out _).mono ?_; rintro e w2 ⟨rfl, hw⟩; rw [hw]; clear hw w2; unfold asIntOf))
  go_ret
  exact ⟨rfl, rfl⟩

set_option maxRecDepth 100000 in
set_option maxHeartbeats 1000000 in
theorem match_null_str (q : ByteArray) (w : World) : Calls Try.prog 32 #[.nilIface, .iface 9 (.string q)] w (IsBool false w) := by
  have tx4 := tan4; unfold Ta at tx4
  have tx3 := tan3; unfold Ta at tx3
  have tx74 := tan74; unfold Ta at tx74
  have tx75 := tan75; unfold Ta at tx75
  have tx21 := tan21; unfold Ta at tx21
  have tx2 := tan2; unfold Ta at tx2
  have tx76 := tan76; unfold Ta at tx76
  have tx5 := tan5; unfold Ta at tx5
  have tx77 := tan77; unfold Ta at tx77
  have tx78 := tan78; unfold Ta at tx78
  have tx79 := tan79; unfold Ta at tx79
  have tx82 := tan82; unfold Ta at tx82
  have tx22 := tan22; unfold Ta at tx22
  have tx9 := tan9; unfold Ta at tx9
  have tx52 := tan52; unfold Ta at tx52
  have tx72 := tan72; unfold Ta at tx72
  have ty4 := tas4 (.string q); unfold Ta at ty4
  have ty9 := tas9 (.string q); unfold Ta at ty9
  have ty52 := tas52 (.string q); unfold Ta at ty52
  have ty72 := tas72 (.string q); unfold Ta at ty72
  have fx := PForm.null
  have fy := PForm.str q
  have FX := hid fx; have FY := hid fy; clear fx fy
  go_enter Try.func32, Try.ntmps32
  go_wp2_with (first
    | (go_at_call_of 46 (Value.nilIface); refine (asInt_any _ FX.out _).mono ?_; rintro e w2 ⟨rfl, hw⟩; rw [hw]; clear hw w2; unfold asIntOf)
    | (go_at_call_of 46 (Value.iface 9 (.string q)); refine (asInt_any _ FY.out _).mono ?_; rintro e w2 ⟨rfl, hw⟩; rw [hw]; clear hw w2; unfold asIntOf))
  go_ret
  exact ⟨rfl, rfl⟩

set_option maxRecDepth 100000 in
set_option maxHeartbeats 1000000 in
theorem match_null_arr (q : Option Addr) (qn qc : Nat) (w : World) : Calls Try.prog 32 #[.nilIface, .iface 52 (.slice q qn qc)] w (IsBool false w) := by
  have tx4 := tan4; unfold Ta at tx4
  have tx3 := tan3; unfold Ta at tx3
  have tx74 := tan74; unfold Ta at tx74
  have tx75 := tan75; unfold Ta at tx75
  have tx21 := tan21; unfold Ta at tx21
  have tx2 := tan2; unfold Ta at tx2
  have tx76 := tan76; unfold Ta at tx76
  have tx5 := tan5; unfold Ta at tx5
  have tx77 := tan77; unfold Ta at tx77
  have tx78 := tan78; unfold Ta at tx78
  have tx79 := tan79; unfold Ta at tx79
  have tx82 := tan82; unfold Ta at tx82
  have tx22 := tan22; unfold Ta at tx22
  have tx9 := tan9; unfold Ta at tx9
  have tx52 := tan52; unfold Ta at tx52
  have tx72 := tan72; unfold Ta at tx72
  have ty4 := taa4 (.slice q qn qc); unfold Ta at ty4
  have ty9 := taa9 (.slice q qn qc); unfold Ta at ty9
  have ty52 := taa52 (.slice q qn qc); unfold Ta at ty52
  have ty72 := taa72 (.slice q qn qc); unfold Ta at ty72
  have fx := PForm.null
  have fy := PForm.arr q qn qc
  have FX := hid fx; have FY := hid fy; clear fx fy
  go_enter Try.func32, Try.ntmps32
  go_wp2_with (first
    | (go_at_call_of 46 (Value.nilIface); refine (asInt_any _ FX.out _).mono ?_; rintro e w2 ⟨rfl, hw⟩; rw [hw]; clear hw w2; unfold asIntOf)
    | (go_at_call_of 46 (Value.iface 52 (.slice q qn qc)); refine (asInt_any _ FY.out _).mono ?_; rintro e w2 ⟨rfl, hw⟩; rw [hw]; clear hw w2; unfold asIntOf))
  go_ret
  exact ⟨rfl, rfl⟩

set_option maxRecDepth 100000 in
set_option maxHeartbeats 1000000 in
theorem match_null_obj (q : Option Nat) (w : World) : Calls Try.prog 32 #[.nilIface, .iface 72 (.map q)] w (IsBool false w) := by
  have tx4 := tan4; unfold Ta at tx4
  have tx3 := tan3; unfold Ta at tx3
  have tx74 := tan74; unfold Ta at tx74
  have tx75 := tan75; unfold Ta at tx75
  have tx21 := tan21; unfold Ta at tx21
  have tx2 := tan2; unfold Ta at tx2
  have tx76 := tan76; unfold Ta at tx76
  have tx5 := tan5; unfold Ta at tx5
  have tx77 := tan77; unfold Ta at tx77
  have tx78 := tan78; unfold Ta at tx78
  have tx79 := tan79; unfold Ta at tx79
  have tx82 := tan82; unfold Ta at tx82
  have tx22 := tan22; unfold Ta at tx22
  have tx9 := tan9; unfold Ta at tx9
  have tx52 := tan52; unfold Ta at tx52
  have tx72 := tan72; unfold Ta at tx72
  have ty4 := tao4 (.map q); unfold Ta at ty4
  have ty9 := tao9 (.map q); unfold Ta at ty9
  have ty52 := tao52 (.map q); unfold Ta at ty52
  have ty72 := tao72 (.map q); unfold Ta at ty72
  have fx := PForm.null
  have fy := PForm.obj q
  have FX := hid fx; have FY := hid fy; clear fx fy
  go_enter Try.func32, Try.ntmps32
  go_wp2_with (first
    | (go_at_call_of 46 (Value.nilIface); refine (asInt_any _ FX.out _).mono ?_; rintro e w2 ⟨rfl, hw⟩; rw [hw]; clear hw w2; unfold asIntOf)
    | (go_at_call_of 46 (Value.iface 72 (.map q)); refine (asInt_any _ FY.out _).mono ?_; rintro e w2 ⟨rfl, hw⟩; rw [hw]; clear hw w2; unfold asIntOf))
  go_ret
  exact ⟨rfl, rfl⟩

set_option maxRecDepth 100000 in
set_option maxHeartbeats 1000000 in
theorem match_bool_null (p : Bool) (w : World) : Calls Try.prog 32 #[.iface 4 (.bool p), .nilIface] w (IsBool false w) := by
  have tx4 := tab4 (.bool p); unfold Ta at tx4
  have tx3 := tab3 (.bool p); unfold Ta at tx3
  have tx74 := tab74 (.bool p); unfold Ta at tx74
  have tx75 := tab75 (.bool p); unfold Ta at tx75
  have tx21 := tab21 (.bool p); unfold Ta at tx21
  have tx2 := tab2 (.bool p); unfold Ta at tx2
  have tx76 := tab76 (.bool p); unfold Ta at tx76
  have tx5 := tab5 (.bool p); unfold Ta at tx5
  have tx77 := tab77 (.bool p); unfold Ta at tx77
  have tx78 := tab78 (.bool p); unfold Ta at tx78
  have tx79 := tab79 (.bool p); unfold Ta at tx79
  have tx82 := tab82 (.bool p); unfold Ta at tx82
  have tx22 := tab22 (.bool p); unfold Ta at tx22
  have tx9 := tab9 (.bool p); unfold Ta at tx9
  have tx52 := tab52 (.bool p); unfold Ta at tx52
  have tx72 := tab72 (.bool p); unfold Ta at tx72
  have ty4 := tan4; unfold Ta at ty4
  have ty9 := tan9; unfold Ta at ty9
  have ty52 := tan52; unfold Ta at ty52
  have ty72 := tan72; unfold Ta at ty72
  have fx := PForm.bool p
  have fy := PForm.null
  have FX := hid fx; have FY := hid fy; clear fx fy
  go_enter Try.func32, Try.ntmps32
  go_wp2_with (first
    | (go_at_call_of 46 (Value.iface 4 (.bool p)); refine (asInt_any _ FX.out _).mono ?_; rintro e w2 ⟨rfl, hw⟩; rw [hw]; clear hw w2; unfold asIntOf)
    | (go_at_call_of 46 (Value.nilIface); refine (asInt_any _ FY.out _).mono ?_; rintro e w2 ⟨rfl, hw⟩; rw [hw]; clear hw w2; unfold asIntOf))
  go_ret
  exact ⟨rfl, rfl⟩

set_option maxRecDepth 100000 in
set_option maxHeartbeats 1000000 in
theorem match_bool_bool (p : Bool) (q : Bool) (w : World) : Calls Try.prog 32 #[.iface 4 (.bool p), .iface 4 (.bool q)] w (IsBool (p == q) w) := by
  have tx4 := tab4 (.bool p); unfold Ta at tx4
  have tx3 := tab3 (.bool p); unfold Ta at tx3
  have tx74 := tab74 (.bool p); unfold Ta at tx74
  have tx75 := tab75 (.bool p); unfold Ta at tx75
  have tx21 := tab21 (.bool p); unfold Ta at tx21
  have tx2 := tab2 (.bool p); unfold Ta at tx2
  have tx76 := tab76 (.bool p); unfold Ta at tx76
  have tx5 := tab5 (.bool p); unfold Ta at tx5
  have tx77 := tab77 (.bool p); unfold Ta at tx77
  have tx78 := tab78 (.bool p); unfold Ta at tx78
  have tx79 := tab79 (.bool p); unfold Ta at tx79
  have tx82 := tab82 (.bool p); unfold Ta at tx82
  have tx22 := tab22 (.bool p); unfold Ta at tx22
  have tx9 := tab9 (.bool p); unfold Ta at tx9
  have tx52 := tab52 (.bool p); unfold Ta at tx52
  have tx72 := tab72 (.bool p); unfold Ta at tx72
  have ty4 := tab4 (.bool q); unfold Ta at ty4
  have ty9 := tab9 (.bool q); unfold Ta at ty9
  have ty52 := tab52 (.bool q); unfold Ta at ty52
  have ty72 := tab72 (.bool q); unfold Ta at ty72
  have fx := PForm.bool p
  have fy := PForm.bool q
  have FX := hid fx; have FY := hid fy; clear fx fy
  cases p <;> cases q
  all_goals
    go_enter Try.func32, Try.ntmps32
    go_wp2_with (first
      | (go_at_call_of 46 (Value.iface 4 (.bool _)); refine (asInt_any _ FX.out _).mono ?_; rintro e w2 ⟨rfl, hw⟩; rw [hw]; clear hw w2; unfold asIntOf)
      | (go_at_call_of 46 (Value.iface 4 (.bool _)); refine (asInt_any _ FY.out _).mono ?_; rintro e w2 ⟨rfl, hw⟩; rw [hw]; clear hw w2; unfold asIntOf))
    go_ret
    exact ⟨rfl, rfl⟩

set_option maxRecDepth 100000 in
set_option maxHeartbeats 1000000 in
theorem match_bool_int (p : Bool) (q : Int) (w : World) : Calls Try.prog 32 #[.iface 4 (.bool p), .iface 2 (.int .i64 q)] w (IsBool false w) := by
  have tx4 := tab4 (.bool p); unfold Ta at tx4
  have tx3 := tab3 (.bool p); unfold Ta at tx3
  have tx74 := tab74 (.bool p); unfold Ta at tx74
  have tx75 := tab75 (.bool p); unfold Ta at tx75
  have tx21 := tab21 (.bool p); unfold Ta at tx21
  have tx2 := tab2 (.bool p); unfold Ta at tx2
  have tx76 := tab76 (.bool p); unfold Ta at tx76
  have tx5 := tab5 (.bool p); unfold Ta at tx5
  have tx77 := tab77 (.bool p); unfold Ta at tx77
  have tx78 := tab78 (.bool p); unfold Ta at tx78
  have tx79 := tab79 (.bool p); unfold Ta at tx79
  have tx82 := tab82 (.bool p); unfold Ta at tx82
  have tx22 := tab22 (.bool p); unfold Ta at tx22
  have tx9 := tab9 (.bool p); unfold Ta at tx9
  have tx52 := tab52 (.bool p); unfold Ta at tx52
  have tx72 := tab72 (.bool p); unfold Ta at tx72
  have ty4 := tai4 (.int .i64 q); unfold Ta at ty4
  have ty9 := tai9 (.int .i64 q); unfold Ta at ty9
  have ty52 := tai52 (.int .i64 q); unfold Ta at ty52
  have ty72 := tai72 (.int .i64 q); unfold Ta at ty72
  have fx := PForm.bool p
  have fy := PForm.int q
  have FX := hid fx; have FY := hid fy; clear fx fy
  go_enter Try.func32, Try.ntmps32
  go_wp2_with (first
    | (go_at_call_of 46 (Value.iface 4 (.bool p)); refine (asInt_any _ FX.out _).mono ?_; rintro e w2 ⟨rfl, hw⟩; rw [hw]; clear hw w2; unfold asIntOf)
    | (go_at_call_of 46 (Value.iface 2 (.int .i64 q)); refine (asInt_any _ FY.out _).mono ?_; rintro e w2 ⟨rfl, hw⟩; rw [hw]; clear hw w2; unfold asIntOf))
  go_ret
  exact ⟨rfl, rfl⟩

set_option maxRecDepth 100000 in
set_option maxHeartbeats 1000000 in
theorem match_bool_str (p : Bool) (q : ByteArray) (w : World) : Calls Try.prog 32 #[.iface 4 (.bool p), .iface 9 (.string q)] w (IsBool false w) := by
  have tx4 := tab4 (.bool p); unfold Ta at tx4
  have tx3 := tab3 (.bool p); unfold Ta at tx3
  have tx74 := tab74 (.bool p); unfold Ta at tx74
  have tx75 := tab75 (.bool p); unfold Ta at tx75
  have tx21 := tab21 (.bool p); unfold Ta at tx21
  have tx2 := tab2 (.bool p); unfold Ta at tx2
  have tx76 := tab76 (.bool p); unfold Ta at tx76
  have tx5 := tab5 (.bool p); unfold Ta at tx5
  have tx77 := tab77 (.bool p); unfold Ta at tx77
  have tx78 := tab78 (.bool p); unfold Ta at tx78
  have tx79 := tab79 (.bool p); unfold Ta at tx79
  have tx82 := tab82 (.bool p); unfold Ta at tx82
  have tx22 := tab22 (.bool p); unfold Ta at tx22
  have tx9 := tab9 (.bool p); unfold Ta at tx9
  have tx52 := tab52 (.bool p); unfold Ta at tx52
  have tx72 := tab72 (.bool p); unfold Ta at tx72
  have ty4 := tas4 (.string q); unfold Ta at ty4
  have ty9 := tas9 (.string q); unfold Ta at ty9
  have ty52 := tas52 (.string q); unfold Ta at ty52
  have ty72 := tas72 (.string q); unfold Ta at ty72
  have fx := PForm.bool p
  have fy := PForm.str q
  have FX := hid fx; have FY := hid fy; clear fx fy
  go_enter Try.func32, Try.ntmps32
  go_wp2_with (first
    | (go_at_call_of 46 (Value.iface 4 (.bool p)); refine (asInt_any _ FX.out _).mono ?_; rintro e w2 ⟨rfl, hw⟩; rw [hw]; clear hw w2; unfold asIntOf)
    | (go_at_call_of 46 (Value.iface 9 (.string q)); refine (asInt_any _ FY.out _).mono ?_; rintro e w2 ⟨rfl, hw⟩; rw [hw]; clear hw w2; unfold asIntOf))
  go_ret
  exact ⟨rfl, rfl⟩

set_option maxRecDepth 100000 in
set_option maxHeartbeats 1000000 in
theorem match_bool_arr (p : Bool) (q : Option Addr) (qn qc : Nat) (w : World) : Calls Try.prog 32 #[.iface 4 (.bool p), .iface 52 (.slice q qn qc)] w (IsBool false w) := by
  have tx4 := tab4 (.bool p); unfold Ta at tx4
  have tx3 := tab3 (.bool p); unfold Ta at tx3
  have tx74 := tab74 (.bool p); unfold Ta at tx74
  have tx75 := tab75 (.bool p); unfold Ta at tx75
  have tx21 := tab21 (.bool p); unfold Ta at tx21
  have tx2 := tab2 (.bool p); unfold Ta at tx2
  have tx76 := tab76 (.bool p); unfold Ta at tx76
  have tx5 := tab5 (.bool p); unfold Ta at tx5
  have tx77 := tab77 (.bool p); unfold Ta at tx77
  have tx78 := tab78 (.bool p); unfold Ta at tx78
  have tx79 := tab79 (.bool p); unfold Ta at tx79
  have tx82 := tab82 (.bool p); unfold Ta at tx82
  have tx22 := tab22 (.bool p); unfold Ta at tx22
  have tx9 := tab9 (.bool p); unfold Ta at tx9
  have tx52 := tab52 (.bool p); unfold Ta at tx52
  have tx72 := tab72 (.bool p); unfold Ta at tx72
  have ty4 := taa4 (.slice q qn qc); unfold Ta at ty4
  have ty9 := taa9 (.slice q qn qc); unfold Ta at ty9
  have ty52 := taa52 (.slice q qn qc); unfold Ta at ty52
  have ty72 := taa72 (.slice q qn qc); unfold Ta at ty72
  have fx := PForm.bool p
  have fy := PForm.arr q qn qc
  have FX := hid fx; have FY := hid fy; clear fx fy
  go_enter Try.func32, Try.ntmps32
  go_wp2_with (first
    | (go_at_call_of 46 (Value.iface 4 (.bool p)); refine (asInt_any _ FX.out _).mono ?_; rintro e w2 ⟨rfl, hw⟩; rw [hw]; clear hw w2; unfold asIntOf)
    | (go_at_call_of 46 (Value.iface 52 (.slice q qn qc)); refine (asInt_any _ FY.out _).mono ?_; rintro e w2 ⟨rfl, hw⟩; rw [hw]; clear hw w2; unfold asIntOf))
  go_ret
  exact ⟨rfl, rfl⟩

set_option maxRecDepth 100000 in
set_option maxHeartbeats 1000000 in
theorem match_bool_obj (p : Bool) (q : Option Nat) (w : World) : Calls Try.prog 32 #[.iface 4 (.bool p), .iface 72 (.map q)] w (IsBool false w) := by
  have tx4 := tab4 (.bool p); unfold Ta at tx4
  have tx3 := tab3 (.bool p); unfold Ta at tx3
  have tx74 := tab74 (.bool p); unfold Ta at tx74
  have tx75 := tab75 (.bool p); unfold Ta at tx75
  have tx21 := tab21 (.bool p); unfold Ta at tx21
  have tx2 := tab2 (.bool p); unfold Ta at tx2
  have tx76 := tab76 (.bool p); unfold Ta at tx76
  have tx5 := tab5 (.bool p); unfold Ta at tx5
  have tx77 := tab77 (.bool p); unfold Ta at tx77
  have tx78 := tab78 (.bool p); unfold Ta at tx78
  have tx79 := tab79 (.bool p); unfold Ta at tx79
  have tx82 := tab82 (.bool p); unfold Ta at tx82
  have tx22 := tab22 (.bool p); unfold Ta at tx22
  have tx9 := tab9 (.bool p); unfold Ta at tx9
  have tx52 := tab52 (.bool p); unfold Ta at tx52
  have tx72 := tab72 (.bool p); unfold Ta at tx72
  have ty4 := tao4 (.map q); unfold Ta at ty4
  have ty9 := tao9 (.map q); unfold Ta at ty9
  have ty52 := tao52 (.map q); unfold Ta at ty52
  have ty72 := tao72 (.map q); unfold Ta at ty72
  have fx := PForm.bool p
  have fy := PForm.obj q
  have FX := hid fx; have FY := hid fy; clear fx fy
  go_enter Try.func32, Try.ntmps32
  go_wp2_with (first
    | (go_at_call_of 46 (Value.iface 4 (.bool p)); refine (asInt_any _ FX.out _).mono ?_; rintro e w2 ⟨rfl, hw⟩; rw [hw]; clear hw w2; unfold asIntOf)
    | (go_at_call_of 46 (Value.iface 72 (.map q)); refine (asInt_any _ FY.out _).mono ?_; rintro e w2 ⟨rfl, hw⟩; rw [hw]; clear hw w2; unfold asIntOf))
  go_ret
  exact ⟨rfl, rfl⟩

set_option maxRecDepth 100000 in
set_option maxHeartbeats 1000000 in
theorem match_int_null (p : Int) (w : World) : Calls Try.prog 32 #[.iface 2 (.int .i64 p), .nilIface] w (IsBool false w) := by
  have tx4 := tai4 (.int .i64 p); unfold Ta at tx4
  have tx3 := tai3 (.int .i64 p); unfold Ta at tx3
  have tx74 := tai74 (.int .i64 p); unfold Ta at tx74
  have tx75 := tai75 (.int .i64 p); unfold Ta at tx75
  have tx21 := tai21 (.int .i64 p); unfold Ta at tx21
  have tx2 := tai2 (.int .i64 p); unfold Ta at tx2
  have tx76 := tai76 (.int .i64 p); unfold Ta at tx76
  have tx5 := tai5 (.int .i64 p); unfold Ta at tx5
  have tx77 := tai77 (.int .i64 p); unfold Ta at tx77
  have tx78 := tai78 (.int .i64 p); unfold Ta at tx78
  have tx79 := tai79 (.int .i64 p); unfold Ta at tx79
  have tx82 := tai82 (.int .i64 p); unfold Ta at tx82
  have tx22 := tai22 (.int .i64 p); unfold Ta at tx22
  have tx9 := tai9 (.int .i64 p); unfold Ta at tx9
  have tx52 := tai52 (.int .i64 p); unfold Ta at tx52
  have tx72 := tai72 (.int .i64 p); unfold Ta at tx72
  have ty4 := tan4; unfold Ta at ty4
  have ty9 := tan9; unfold Ta at ty9
  have ty52 := tan52; unfold Ta at ty52
  have ty72 := tan72; unfold Ta at ty72
  have fx := PForm.int p
  have fy := PForm.null
  have FX := hid fx; have FY := hid fy; clear fx fy
  go_enter Try.func32, Try.ntmps32
  go_wp2_with (first
    | (go_at_call_of 46 (Value.iface 2 (.int .i64 p)); refine (asInt_any _ FX.out _).mono ?_; rintro e w2 ⟨rfl, hw⟩; rw [hw]; clear hw w2; unfold asIntOf)
    | (go_at_call_of 46 (Value.nilIface); refine (asInt_any _ FY.out _).mono ?_; rintro e w2 ⟨rfl, hw⟩; rw [hw]; clear hw w2; unfold asIntOf))
  go_ret
  exact ⟨rfl, rfl⟩

set_option maxRecDepth 100000 in
set_option maxHeartbeats 1000000 in
theorem match_int_bool (p : Int) (q : Bool) (w : World) : Calls Try.prog 32 #[.iface 2 (.int .i64 p), .iface 4 (.bool q)] w (IsBool false w) := by
  have tx4 := tai4 (.int .i64 p); unfold Ta at tx4
  have tx3 := tai3 (.int .i64 p); unfold Ta at tx3
  have tx74 := tai74 (.int .i64 p); unfold Ta at tx74
  have tx75 := tai75 (.int .i64 p); unfold Ta at tx75
  have tx21 := tai21 (.int .i64 p); unfold Ta at tx21
  have tx2 := tai2 (.int .i64 p); unfold Ta at tx2
  have tx76 := tai76 (.int .i64 p); unfold Ta at tx76
  have tx5 := tai5 (.int .i64 p); unfold Ta at tx5
  have tx77 := tai77 (.int .i64 p); unfold Ta at tx77
  have tx78 := tai78 (.int .i64 p); unfold Ta at tx78
  have tx79 := tai79 (.int .i64 p); unfold Ta at tx79
  have tx82 := tai82 (.int .i64 p); unfold Ta at tx82
  have tx22 := tai22 (.int .i64 p); unfold Ta at tx22
  have tx9 := tai9 (.int .i64 p); unfold Ta at tx9
  have tx52 := tai52 (.int .i64 p); unfold Ta at tx52
  have tx72 := tai72 (.int .i64 p); unfold Ta at tx72
  have ty4 := tab4 (.bool q); unfold Ta at ty4
  have ty9 := tab9 (.bool q); unfold Ta at ty9
  have ty52 := tab52 (.bool q); unfold Ta at ty52
  have ty72 := tab72 (.bool q); unfold Ta at ty72
  have fx := PForm.int p
  have fy := PForm.bool q
  have FX := hid fx; have FY := hid fy; clear fx fy
  go_enter Try.func32, Try.ntmps32
  go_wp2_with (first
    | (go_at_call_of 46 (Value.iface 2 (.int .i64 p)); refine (asInt_any _ FX.out _).mono ?_; rintro e w2 ⟨rfl, hw⟩; rw [hw]; clear hw w2; unfold asIntOf)
    | (go_at_call_of 46 (Value.iface 4 (.bool q)); refine (asInt_any _ FY.out _).mono ?_; rintro e w2 ⟨rfl, hw⟩; rw [hw]; clear hw w2; unfold asIntOf))
  go_ret
  exact ⟨rfl, rfl⟩

set_option maxRecDepth 100000 in
set_option maxHeartbeats 1000000 in
theorem match_int_int_eq (p : Int) (q : Int) (h : (p == q) = true) (w : World) : Calls Try.prog 32 #[.iface 2 (.int .i64 p), .iface 2 (.int .i64 q)] w (IsBool true w) := by
  have tx4 := tai4 (.int .i64 p); unfold Ta at tx4
  have tx3 := tai3 (.int .i64 p); unfold Ta at tx3
  have tx74 := tai74 (.int .i64 p); unfold Ta at tx74
  have tx75 := tai75 (.int .i64 p); unfold Ta at tx75
  have tx21 := tai21 (.int .i64 p); unfold Ta at tx21
  have tx2 := tai2 (.int .i64 p); unfold Ta at tx2
  have tx76 := tai76 (.int .i64 p); unfold Ta at tx76
  have tx5 := tai5 (.int .i64 p); unfold Ta at tx5
  have tx77 := tai77 (.int .i64 p); unfold Ta at tx77
  have tx78 := tai78 (.int .i64 p); unfold Ta at tx78
  have tx79 := tai79 (.int .i64 p); unfold Ta at tx79
  have tx82 := tai82 (.int .i64 p); unfold Ta at tx82
  have tx22 := tai22 (.int .i64 p); unfold Ta at tx22
  have tx9 := tai9 (.int .i64 p); unfold Ta at tx9
  have tx52 := tai52 (.int .i64 p); unfold Ta at tx52
  have tx72 := tai72 (.int .i64 p); unfold Ta at tx72
  have ty4 := tai4 (.int .i64 q); unfold Ta at ty4
  have ty9 := tai9 (.int .i64 q); unfold Ta at ty9
  have ty52 := tai52 (.int .i64 q); unfold Ta at ty52
  have ty72 := tai72 (.int .i64 q); unfold Ta at ty72
  have fx := PForm.int p
  have fy := PForm.int q
  have FX := hid fx; have FY := hid fy; clear fx fy
  go_enter Try.func32, Try.ntmps32
  go_wp2_with (first
    | (go_at_call_of 46 (Value.iface 2 (.int .i64 p)); refine (asInt_any _ FX.out _).mono ?_; rintro e w2 ⟨rfl, hw⟩; rw [hw]; clear hw w2; unfold asIntOf)
    | (go_at_call_of 46 (Value.iface 2 (.int .i64 q)); refine (asInt_any _ FY.out _).mono ?_; rintro e w2 ⟨rfl, hw⟩; rw [hw]; clear hw w2; unfold asIntOf))
  go_ret
  exact ⟨rfl, rfl⟩

set_option maxRecDepth 100000 in
set_option maxHeartbeats 1000000 in
theorem match_int_int_ne (p : Int) (q : Int) (h : (p == q) = false) (w : World) : Calls Try.prog 32 #[.iface 2 (.int .i64 p), .iface 2 (.int .i64 q)] w (IsBool false w) := by
  have tx4 := tai4 (.int .i64 p); unfold Ta at tx4
  have tx3 := tai3 (.int .i64 p); unfold Ta at tx3
  have tx74 := tai74 (.int .i64 p); unfold Ta at tx74
  have tx75 := tai75 (.int .i64 p); unfold Ta at tx75
  have tx21 := tai21 (.int .i64 p); unfold Ta at tx21
  have tx2 := tai2 (.int .i64 p); unfold Ta at tx2
  have tx76 := tai76 (.int .i64 p); unfold Ta at tx76
  have tx5 := tai5 (.int .i64 p); unfold Ta at tx5
  have tx77 := tai77 (.int .i64 p); unfold Ta at tx77
  have tx78 := tai78 (.int .i64 p); unfold Ta at tx78
  have tx79 := tai79 (.int .i64 p); unfold Ta at tx79
  have tx82 := tai82 (.int .i64 p); unfold Ta at tx82
  have tx22 := tai22 (.int .i64 p); unfold Ta at tx22
  have tx9 := tai9 (.int .i64 p); unfold Ta at tx9
  have tx52 := tai52 (.int .i64 p); unfold Ta at tx52
  have tx72 := tai72 (.int .i64 p); unfold Ta at tx72
  have ty4 := tai4 (.int .i64 q); unfold Ta at ty4
  have ty9 := tai9 (.int .i64 q); unfold Ta at ty9
  have ty52 := tai52 (.int .i64 q); unfold Ta at ty52
  have ty72 := tai72 (.int .i64 q); unfold Ta at ty72
  have fx := PForm.int p
  have fy := PForm.int q
  have FX := hid fx; have FY := hid fy; clear fx fy
  go_enter Try.func32, Try.ntmps32
  go_wp2_with (first
    | (go_at_call_of 46 (Value.iface 2 (.int .i64 p)); refine (asInt_any _ FX.out _).mono ?_; rintro e w2 ⟨rfl, hw⟩; rw [hw]; clear hw w2; unfold asIntOf)
    | (go_at_call_of 46 (Value.iface 2 (.int .i64 q)); refine (asInt_any _ FY.out _).mono ?_; rintro e w2 ⟨rfl, hw⟩; rw [hw]; clear hw w2; unfold asIntOf))
  go_ret
  exact ⟨rfl, rfl⟩

set_option maxRecDepth 100000 in
set_option maxHeartbeats 1000000 in
theorem match_int_str (p : Int) (q : ByteArray) (w : World) : Calls Try.prog 32 #[.iface 2 (.int .i64 p), .iface 9 (.string q)] w (IsBool false w) := by
  have tx4 := tai4 (.int .i64 p); unfold Ta at tx4
  have tx3 := tai3 (.int .i64 p); unfold Ta at tx3
  have tx74 := tai74 (.int .i64 p); unfold Ta at tx74
  have tx75 := tai75 (.int .i64 p); unfold Ta at tx75
  have tx21 := tai21 (.int .i64 p); unfold Ta at tx21
  have tx2 := tai2 (.int .i64 p); unfold Ta at tx2
  have tx76 := tai76 (.int .i64 p); unfold Ta at tx76
  have tx5 := tai5 (.int .i64 p); unfold Ta at tx5
  have tx77 := tai77 (.int .i64 p); unfold Ta at tx77
  have tx78 := tai78 (.int .i64 p); unfold Ta at tx78
  have tx79 := tai79 (.int .i64 p); unfold Ta at tx79
  have tx82 := tai82 (.int .i64 p); unfold Ta at tx82
  have tx22 := tai22 (.int .i64 p); unfold Ta at tx22
  have tx9 := tai9 (.int .i64 p); unfold Ta at tx9
  have tx52 := tai52 (.int .i64 p); unfold Ta at tx52
  have tx72 := tai72 (.int .i64 p); unfold Ta at tx72
  have ty4 := tas4 (.string q); unfold Ta at ty4
  have ty9 := tas9 (.string q); unfold Ta at ty9
  have ty52 := tas52 (.string q); unfold Ta at ty52
  have ty72 := tas72 (.string q); unfold Ta at ty72
  have fx := PForm.int p
  have fy := PForm.str q
  have FX := hid fx; have FY := hid fy; clear fx fy
  go_enter Try.func32, Try.ntmps32
  go_wp2_with (first
    | (go_at_call_of 46 (Value.iface 2 (.int .i64 p)); refine (asInt_any _ FX.out _).mono ?_; rintro e w2 ⟨rfl, hw⟩; rw [hw]; clear hw w2; unfold asIntOf)
    | (go_at_call_of 46 (Value.iface 9 (.string q)); refine (asInt_any _ FY.out _).mono ?_; rintro e w2 ⟨rfl, hw⟩; rw [hw]; clear hw w2; unfold asIntOf))
  go_ret
  exact ⟨rfl, rfl⟩

set_option maxRecDepth 100000 in
set_option maxHeartbeats 1000000 in
theorem match_int_arr (p : Int) (q : Option Addr) (qn qc : Nat) (w : World) : Calls Try.prog 32 #[.iface 2 (.int .i64 p), .iface 52 (.slice q qn qc)] w (IsBool false w) := by
  have tx4 := tai4 (.int .i64 p); unfold Ta at tx4
  have tx3 := tai3 (.int .i64 p); unfold Ta at tx3
  have tx74 := tai74 (.int .i64 p); unfold Ta at tx74
  have tx75 := tai75 (.int .i64 p); unfold Ta at tx75
  have tx21 := tai21 (.int .i64 p); unfold Ta at tx21
  have tx2 := tai2 (.int .i64 p); unfold Ta at tx2
  have tx76 := tai76 (.int .i64 p); unfold Ta at tx76
  have tx5 := tai5 (.int .i64 p); unfold Ta at tx5
  have tx77 := tai77 (.int .i64 p); unfold Ta at tx77
  have tx78 := tai78 (.int .i64 p); unfold Ta at tx78
  have tx79 := tai79 (.int .i64 p); unfold Ta at tx79
  have tx82 := tai82 (.int .i64 p); unfold Ta at tx82
  have tx22 := tai22 (.int .i64 p); unfold Ta at tx22
  have tx9 := tai9 (.int .i64 p); unfold Ta at tx9
  have tx52 := tai52 (.int .i64 p); unfold Ta at tx52
  have tx72 := tai72 (.int .i64 p); unfold Ta at tx72
  have ty4 := taa4 (.slice q qn qc); unfold Ta at ty4
  have ty9 := taa9 (.slice q qn qc); unfold Ta at ty9
  have ty52 := taa52 (.slice q qn qc); unfold Ta at ty52
  have ty72 := taa72 (.slice q qn qc); unfold Ta at ty72
  have fx := PForm.int p
  have fy := PForm.arr q qn qc
  have FX := hid fx; have FY := hid fy; clear fx fy
  go_enter Try.func32, Try.ntmps32
  go_wp2_with (first
    | (go_at_call_of 46 (Value.iface 2 (.int .i64 p)); refine (asInt_any _ FX.out _).mono ?_; rintro e w2 ⟨rfl, hw⟩; rw [hw]; clear hw w2; unfold asIntOf)
    | (go_at_call_of 46 (Value.iface 52 (.slice q qn qc)); refine (asInt_any _ FY.out _).mono ?_; rintro e w2 ⟨rfl, hw⟩; rw [hw]; clear hw w2; unfold asIntOf))
  go_ret
  exact ⟨rfl, rfl⟩

set_option maxRecDepth 100000 in
set_option maxHeartbeats 1000000 in
theorem match_int_obj (p : Int) (q : Option Nat) (w : World) : Calls Try.prog 32 #[.iface 2 (.int .i64 p), .iface 72 (.map q)] w (IsBool false w) := by
  have tx4 := tai4 (.int .i64 p); unfold Ta at tx4
  have tx3 := tai3 (.int .i64 p); unfold Ta at tx3
  have tx74 := tai74 (.int .i64 p); unfold Ta at tx74
  have tx75 := tai75 (.int .i64 p); unfold Ta at tx75
  have tx21 := tai21 (.int .i64 p); unfold Ta at tx21
  have tx2 := tai2 (.int .i64 p); unfold Ta at tx2
  have tx76 := tai76 (.int .i64 p); unfold Ta at tx76
  have tx5 := tai5 (.int .i64 p); unfold Ta at tx5
  have tx77 := tai77 (.int .i64 p); unfold Ta at tx77
  have tx78 := tai78 (.int .i64 p); unfold Ta at tx78
  have tx79 := tai79 (.int .i64 p); unfold Ta at tx79
  have tx82 := tai82 (.int .i64 p); unfold Ta at tx82
  have tx22 := tai22 (.int .i64 p); unfold Ta at tx22
  have tx9 := tai9 (.int .i64 p); unfold Ta at tx9
  have tx52 := tai52 (.int .i64 p); unfold Ta at tx52
  have tx72 := tai72 (.int .i64 p); unfold Ta at tx72
  have ty4 := tao4 (.map q); unfold Ta at ty4
  have ty9 := tao9 (.map q); unfold Ta at ty9
  have ty52 := tao52 (.map q); unfold Ta at ty52
  have ty72 := tao72 (.map q); unfold Ta at ty72
  have fx := PForm.int p
  have fy := PForm.obj q
  have FX := hid fx; have FY := hid fy; clear fx fy
  go_enter Try.func32, Try.ntmps32
  go_wp2_with (first
    | (go_at_call_of 46 (Value.iface 2 (.int .i64 p)); refine (asInt_any _ FX.out _).mono ?_; rintro e w2 ⟨rfl, hw⟩; rw [hw]; clear hw w2; unfold asIntOf)
    | (go_at_call_of 46 (Value.iface 72 (.map q)); refine (asInt_any _ FY.out _).mono ?_; rintro e w2 ⟨rfl, hw⟩; rw [hw]; clear hw w2; unfold asIntOf))
  go_ret
  exact ⟨rfl, rfl⟩

set_option maxRecDepth 100000 in
set_option maxHeartbeats 1000000 in
theorem match_str_null (p : ByteArray) (w : World) : Calls Try.prog 32 #[.iface 9 (.string p), .nilIface] w (IsBool false w) := by
  have tx4 := tas4 (.string p); unfold Ta at tx4
  have tx3 := tas3 (.string p); unfold Ta at tx3
  have tx74 := tas74 (.string p); unfold Ta at tx74
  have tx75 := tas75 (.string p); unfold Ta at tx75
  have tx21 := tas21 (.string p); unfold Ta at tx21
  have tx2 := tas2 (.string p); unfold Ta at tx2
  have tx76 := tas76 (.string p); unfold Ta at tx76
  have tx5 := tas5 (.string p); unfold Ta at tx5
  have tx77 := tas77 (.string p); unfold Ta at tx77
  have tx78 := tas78 (.string p); unfold Ta at tx78
  have tx79 := tas79 (.string p); unfold Ta at tx79
  have tx82 := tas82 (.string p); unfold Ta at tx82
  have tx22 := tas22 (.string p); unfold Ta at tx22
  have tx9 := tas9 (.string p); unfold Ta at tx9
  have tx52 := tas52 (.string p); unfold Ta at tx52
  have tx72 := tas72 (.string p); unfold Ta at tx72
  have ty4 := tan4; unfold Ta at ty4
  have ty9 := tan9; unfold Ta at ty9
  have ty52 := tan52; unfold Ta at ty52
  have ty72 := tan72; unfold Ta at ty72
  have fx := PForm.str p
  have fy := PForm.null
  have FX := hid fx; have FY := hid fy; clear fx fy
  go_enter Try.func32, Try.ntmps32
  go_wp2_with (first
    | (go_at_call_of 46 (Value.iface 9 (.string p)); refine (asInt_any _ FX.out _).mono ?_; rintro e w2 ⟨rfl, hw⟩; rw [hw]; clear hw w2; unfold asIntOf)
    | (go_at_call_of 46 (Value.nilIface); refine (asInt_any _ FY.out _).mono ?_; rintro e w2 ⟨rfl, hw⟩; rw [hw]; clear hw w2; unfold asIntOf))
  go_ret
  exact ⟨rfl, rfl⟩

set_option maxRecDepth 100000 in
set_option maxHeartbeats 1000000 in
theorem match_str_bool (p : ByteArray) (q : Bool) (w : World) : Calls Try.prog 32 #[.iface 9 (.string p), .iface 4 (.bool q)] w (IsBool false w) := by
  have tx4 := tas4 (.string p); unfold Ta at tx4
  have tx3 := tas3 (.string p); unfold Ta at tx3
  have tx74 := tas74 (.string p); unfold Ta at tx74
  have tx75 := tas75 (.string p); unfold Ta at tx75
  have tx21 := tas21 (.string p); unfold Ta at tx21
  have tx2 := tas2 (.string p); unfold Ta at tx2
  have tx76 := tas76 (.string p); unfold Ta at tx76
  have tx5 := tas5 (.string p); unfold Ta at tx5
  have tx77 := tas77 (.string p); unfold Ta at tx77
  have tx78 := tas78 (.string p); unfold Ta at tx78
  have tx79 := tas79 (.string p); unfold Ta at tx79
  have tx82 := tas82 (.string p); unfold Ta at tx82
  have tx22 := tas22 (.string p); unfold Ta at tx22
  have tx9 := tas9 (.string p); unfold Ta at tx9
  have tx52 := tas52 (.string p); unfold Ta at tx52
  have tx72 := tas72 (.string p); unfold Ta at tx72
  have ty4 := tab4 (.bool q); unfold Ta at ty4
  have ty9 := tab9 (.bool q); unfold Ta at ty9
  have ty52 := tab52 (.bool q); unfold Ta at ty52
  have ty72 := tab72 (.bool q); unfold Ta at ty72
  have fx := PForm.str p
  have fy := PForm.bool q
  have FX := hid fx; have FY := hid fy; clear fx fy
  go_enter Try.func32, Try.ntmps32
  go_wp2_with (first
    | (go_at_call_of 46 (Value.iface 9 (.string p)); refine (asInt_any _ FX.out _).mono ?_; rintro e w2 ⟨rfl, hw⟩; rw [hw]; clear hw w2; unfold asIntOf)
    | (go_at_call_of 46 (Value.iface 4 (.bool q)); refine (asInt_any _ FY.out _).mono ?_; rintro e w2 ⟨rfl, hw⟩; rw [hw]; clear hw w2; unfold asIntOf))
  go_ret
  exact ⟨rfl, rfl⟩

set_option maxRecDepth 100000 in
set_option maxHeartbeats 1000000 in
theorem match_str_int (p : ByteArray) (q : Int) (w : World) : Calls Try.prog 32 #[.iface 9 (.string p), .iface 2 (.int .i64 q)] w (IsBool false w) := by
  have tx4 := tas4 (.string p); unfold Ta at tx4
  have tx3 := tas3 (.string p); unfold Ta at tx3
  have tx74 := tas74 (.string p); unfold Ta at tx74
  have tx75 := tas75 (.string p); unfold Ta at tx75
  have tx21 := tas21 (.string p); unfold Ta at tx21
  have tx2 := tas2 (.string p); unfold Ta at tx2
  have tx76 := tas76 (.string p); unfold Ta at tx76
  have tx5 := tas5 (.string p); unfold Ta at tx5
  have tx77 := tas77 (.string p); unfold Ta at tx77
  have tx78 := tas78 (.string p); unfold Ta at tx78
  have tx79 := tas79 (.string p); unfold Ta at tx79
  have tx82 := tas82 (.string p); unfold Ta at tx82
  have tx22 := tas22 (.string p); unfold Ta at tx22
  have tx9 := tas9 (.string p); unfold Ta at tx9
  have tx52 := tas52 (.string p); unfold Ta at tx52
  have tx72 := tas72 (.string p); unfold Ta at tx72
  have ty4 := tai4 (.int .i64 q); unfold Ta at ty4
  have ty9 := tai9 (.int .i64 q); unfold Ta at ty9
  have ty52 := tai52 (.int .i64 q); unfold Ta at ty52
  have ty72 := tai72 (.int .i64 q); unfold Ta at ty72
  have fx := PForm.str p
  have fy := PForm.int q
  have FX := hid fx; have FY := hid fy; clear fx fy
  go_enter Try.func32, Try.ntmps32
  go_wp2_with (first
    | (go_at_call_of 46 (Value.iface 9 (.string p)); refine (asInt_any _ FX.out _).mono ?_; rintro e w2 ⟨rfl, hw⟩; rw [hw]; clear hw w2; unfold asIntOf)
    | (go_at_call_of 46 (Value.iface 2 (.int .i64 q)); refine (asInt_any _ FY.out _).mono ?_; rintro e w2 ⟨rfl, hw⟩; rw [hw]; clear hw w2; unfold asIntOf))
  go_ret
  exact ⟨rfl, rfl⟩

set_option maxRecDepth 100000 in
set_option maxHeartbeats 1000000 in
theorem match_str_str_eq (p : ByteArray) (q : ByteArray) (h : (p.toList == q.toList) = true) (w : World) : Calls Try.prog 32 #[.iface 9 (.string p), .iface 9 (.string q)] w (IsBool true w) := by
  have tx4 := tas4 (.string p); unfold Ta at tx4
  have tx3 := tas3 (.string p); unfold Ta at tx3
  have tx74 := tas74 (.string p); unfold Ta at tx74
  have tx75 := tas75 (.string p); unfold Ta at tx75
  have tx21 := tas21 (.string p); unfold Ta at tx21
  have tx2 := tas2 (.string p); unfold Ta at tx2
  have tx76 := tas76 (.string p); unfold Ta at tx76
  have tx5 := tas5 (.string p); unfold Ta at tx5
  have tx77 := tas77 (.string p); unfold Ta at tx77
  have tx78 := tas78 (.string p); unfold Ta at tx78
  have tx79 := tas79 (.string p); unfold Ta at tx79
  have tx82 := tas82 (.string p); unfold Ta at tx82
  have tx22 := tas22 (.string p); unfold Ta at tx22
  have tx9 := tas9 (.string p); unfold Ta at tx9
  have tx52 := tas52 (.string p); unfold Ta at tx52
  have tx72 := tas72 (.string p); unfold Ta at tx72
  have ty4 := tas4 (.string q); unfold Ta at ty4
  have ty9 := tas9 (.string q); unfold Ta at ty9
  have ty52 := tas52 (.string q); unfold Ta at ty52
  have ty72 := tas72 (.string q); unfold Ta at ty72
  have fx := PForm.str p
  have fy := PForm.str q
  have FX := hid fx; have FY := hid fy; clear fx fy
  go_enter Try.func32, Try.ntmps32
  go_wp2_with (first
    | (go_at_call_of 46 (Value.iface 9 (.string p)); refine (asInt_any _ FX.out _).mono ?_; rintro e w2 ⟨rfl, hw⟩; rw [hw]; clear hw w2; unfold asIntOf)
    | (go_at_call_of 46 (Value.iface 9 (.string q)); refine (asInt_any _ FY.out _).mono ?_; rintro e w2 ⟨rfl, hw⟩; rw [hw]; clear hw w2; unfold asIntOf))
  go_ret
  exact ⟨rfl, rfl⟩

set_option maxRecDepth 100000 in
set_option maxHeartbeats 1000000 in
theorem match_str_str_ne (p : ByteArray) (q : ByteArray) (h : (p.toList == q.toList) = false) (w : World) : Calls Try.prog 32 #[.iface 9 (.string p), .iface 9 (.string q)] w (IsBool false w) := by
  have tx4 := tas4 (.string p); unfold Ta at tx4
  have tx3 := tas3 (.string p); unfold Ta at tx3
  have tx74 := tas74 (.string p); unfold Ta at tx74
  have tx75 := tas75 (.string p); unfold Ta at tx75
  have tx21 := tas21 (.string p); unfold Ta at tx21
  have tx2 := tas2 (.string p); unfold Ta at tx2
  have tx76 := tas76 (.string p); unfold Ta at tx76
  have tx5 := tas5 (.string p); unfold Ta at tx5
  have tx77 := tas77 (.string p); unfold Ta at tx77
  have tx78 := tas78 (.string p); unfold Ta at tx78
  have tx79 := tas79 (.string p); unfold Ta at tx79
  have tx82 := tas82 (.string p); unfold Ta at tx82
  have tx22 := tas22 (.string p); unfold Ta at tx22
  have tx9 := tas9 (.string p); unfold Ta at tx9
  have tx52 := tas52 (.string p); unfold Ta at tx52
  have tx72 := tas72 (.string p); unfold Ta at tx72
  have ty4 := tas4 (.string q); unfold Ta at ty4
  have ty9 := tas9 (.string q); unfold Ta at ty9
  have ty52 := tas52 (.string q); unfold Ta at ty52
  have ty72 := tas72 (.string q); unfold Ta at ty72
  have fx := PForm.str p
  have fy := PForm.str q
  have FX := hid fx; have FY := hid fy; clear fx fy
  go_enter Try.func32, Try.ntmps32
  go_wp2_with (first
    | (go_at_call_of 46 (Value.iface 9 (.string p)); refine (asInt_any _ FX.out _).mono ?_; rintro e w2 ⟨rfl, hw⟩; rw [hw]; clear hw w2; unfold asIntOf)
    | (go_at_call_of 46 (Value.iface 9 (.string q)); refine (asInt_any _ FY.out _).mono ?_; rintro e w2 ⟨rfl, hw⟩; rw [hw]; clear hw w2; unfold asIntOf))
  go_ret
  exact ⟨rfl, rfl⟩

set_option maxRecDepth 100000 in
set_option maxHeartbeats 1000000 in
theorem match_str_arr (p : ByteArray) (q : Option Addr) (qn qc : Nat) (w : World) : Calls Try.prog 32 #[.iface 9 (.string p), .iface 52 (.slice q qn qc)] w (IsBool false w) := by
  have tx4 := tas4 (.string p); unfold Ta at tx4
  have tx3 := tas3 (.string p); unfold Ta at tx3
  have tx74 := tas74 (.string p); unfold Ta at tx74
  have tx75 := tas75 (.string p); unfold Ta at tx75
  have tx21 := tas21 (.string p); unfold Ta at tx21
  have tx2 := tas2 (.string p); unfold Ta at tx2
  have tx76 := tas76 (.string p); unfold Ta at tx76
  have tx5 := tas5 (.string p); unfold Ta at tx5
  have tx77 := tas77 (.string p); unfold Ta at tx77
  have tx78 := tas78 (.string p); unfold Ta at tx78
  have tx79 := tas79 (.string p); unfold Ta at tx79
  have tx82 := tas82 (.string p); unfold Ta at tx82
  have tx22 := tas22 (.string p); unfold Ta at tx22
  have tx9 := tas9 (.string p); unfold Ta at tx9
  have tx52 := tas52 (.string p); unfold Ta at tx52
  have tx72 := tas72 (.string p); unfold Ta at tx72
  have ty4 := taa4 (.slice q qn qc); unfold Ta at ty4
  have ty9 := taa9 (.slice q qn qc); unfold Ta at ty9
  have ty52 := taa52 (.slice q qn qc); unfold Ta at ty52
  have ty72 := taa72 (.slice q qn qc); unfold Ta at ty72
  have fx := PForm.str p
  have fy := PForm.arr q qn qc
  have FX := hid fx; have FY := hid fy; clear fx fy
  go_enter Try.func32, Try.ntmps32
  go_wp2_with (first
    | (go_at_call_of 46 (Value.iface 9 (.string p)); refine (asInt_any _ FX.out _).mono ?_; rintro e w2 ⟨rfl, hw⟩; rw [hw]; clear hw w2; unfold asIntOf)
    | (go_at_call_of 46 (Value.iface 52 (.slice q qn qc)); refine (asInt_any _ FY.out _).mono ?_; rintro e w2 ⟨rfl, hw⟩; rw [hw]; clear hw w2; unfold asIntOf))
  go_ret
  exact ⟨rfl, rfl⟩

set_option maxRecDepth 100000 in
set_option maxHeartbeats 1000000 in
theorem match_str_obj (p : ByteArray) (q : Option Nat) (w : World) : Calls Try.prog 32 #[.iface 9 (.string p), .iface 72 (.map q)] w (IsBool false w) := by
  have tx4 := tas4 (.string p); unfold Ta at tx4
  have tx3 := tas3 (.string p); unfold Ta at tx3
  have tx74 := tas74 (.string p); unfold Ta at tx74
  have tx75 := tas75 (.string p); unfold Ta at tx75
  have tx21 := tas21 (.string p); unfold Ta at tx21
  have tx2 := tas2 (.string p); unfold Ta at tx2
  have tx76 := tas76 (.string p); unfold Ta at tx76
  have tx5 := tas5 (.string p); unfold Ta at tx5
  have tx77 := tas77 (.string p); unfold Ta at tx77
  have tx78 := tas78 (.string p); unfold Ta at tx78
  have tx79 := tas79 (.string p); unfold Ta at tx79
  have tx82 := tas82 (.string p); unfold Ta at tx82
  have tx22 := tas22 (.string p); unfold Ta at tx22
  have tx9 := tas9 (.string p); unfold Ta at tx9
  have tx52 := tas52 (.string p); unfold Ta at tx52
  have tx72 := tas72 (.string p); unfold Ta at tx72
  have ty4 := tao4 (.map q); unfold Ta at ty4
  have ty9 := tao9 (.map q); unfold Ta at ty9
  have ty52 := tao52 (.map q); unfold Ta at ty52
  have ty72 := tao72 (.map q); unfold Ta at ty72
  have fx := PForm.str p
  have fy := PForm.obj q
  have FX := hid fx; have FY := hid fy; clear fx fy
  go_enter Try.func32, Try.ntmps32
  go_wp2_with (first
    | (go_at_call_of 46 (Value.iface 9 (.string p)); refine (asInt_any _ FX.out _).mono ?_; rintro e w2 ⟨rfl, hw⟩; rw [hw]; clear hw w2; unfold asIntOf)
    | (go_at_call_of 46 (Value.iface 72 (.map q)); refine (asInt_any _ FY.out _).mono ?_; rintro e w2 ⟨rfl, hw⟩; rw [hw]; clear hw w2; unfold asIntOf))
  go_ret
  exact ⟨rfl, rfl⟩

set_option maxRecDepth 100000 in
set_option maxHeartbeats 1000000 in
theorem match_arr_null (p : Option Addr) (pn pc : Nat) (w : World) : Calls Try.prog 32 #[.iface 52 (.slice p pn pc), .nilIface] w (IsBool false w) := by
  have tx4 := taa4 (.slice p pn pc); unfold Ta at tx4
  have tx3 := taa3 (.slice p pn pc); unfold Ta at tx3
  have tx74 := taa74 (.slice p pn pc); unfold Ta at tx74
  have tx75 := taa75 (.slice p pn pc); unfold Ta at tx75
  have tx21 := taa21 (.slice p pn pc); unfold Ta at tx21
  have tx2 := taa2 (.slice p pn pc); unfold Ta at tx2
  have tx76 := taa76 (.slice p pn pc); unfold Ta at tx76
  have tx5 := taa5 (.slice p pn pc); unfold Ta at tx5
  have tx77 := taa77 (.slice p pn pc); unfold Ta at tx77
  have tx78 := taa78 (.slice p pn pc); unfold Ta at tx78
  have tx79 := taa79 (.slice p pn pc); unfold Ta at tx79
  have tx82 := taa82 (.slice p pn pc); unfold Ta at tx82
  have tx22 := taa22 (.slice p pn pc); unfold Ta at tx22
  have tx9 := taa9 (.slice p pn pc); unfold Ta at tx9
  have tx52 := taa52 (.slice p pn pc); unfold Ta at tx52
  have tx72 := taa72 (.slice p pn pc); unfold Ta at tx72
  have ty4 := tan4; unfold Ta at ty4
  have ty9 := tan9; unfold Ta at ty9
  have ty52 := tan52; unfold Ta at ty52
  have ty72 := tan72; unfold Ta at ty72
  have fx := PForm.arr p pn pc
  have fy := PForm.null
  have FX := hid fx; have FY := hid fy; clear fx fy
  go_enter Try.func32, Try.ntmps32
  go_wp2_with (first
    | (go_at_call_of 46 (Value.iface 52 (.slice p pn pc)); refine (asInt_any _ FX.out _).mono ?_; rintro e w2 ⟨rfl, hw⟩; rw [hw]; clear hw w2; unfold asIntOf)
    | (go_at_call_of 46 (Value.nilIface); refine (asInt_any _ FY.out _).mono ?_; rintro e w2 ⟨rfl, hw⟩; rw [hw]; clear hw w2; unfold asIntOf))
  go_ret
  exact ⟨rfl, rfl⟩

set_option maxRecDepth 100000 in
set_option maxHeartbeats 1000000 in
theorem match_arr_bool (p : Option Addr) (pn pc : Nat) (q : Bool) (w : World) : Calls Try.prog 32 #[.iface 52 (.slice p pn pc), .iface 4 (.bool q)] w (IsBool false w) := by
  have tx4 := taa4 (.slice p pn pc); unfold Ta at tx4
  have tx3 := taa3 (.slice p pn pc); unfold Ta at tx3
  have tx74 := taa74 (.slice p pn pc); unfold Ta at tx74
  have tx75 := taa75 (.slice p pn pc); unfold Ta at tx75
  have tx21 := taa21 (.slice p pn pc); unfold Ta at tx21
  have tx2 := taa2 (.slice p pn pc); unfold Ta at tx2
  have tx76 := taa76 (.slice p pn pc); unfold Ta at tx76
  have tx5 := taa5 (.slice p pn pc); unfold Ta at tx5
  have tx77 := taa77 (.slice p pn pc); unfold Ta at tx77
  have tx78 := taa78 (.slice p pn pc); unfold Ta at tx78
  have tx79 := taa79 (.slice p pn pc); unfold Ta at tx79
  have tx82 := taa82 (.slice p pn pc); unfold Ta at tx82
  have tx22 := taa22 (.slice p pn pc); unfold Ta at tx22
  have tx9 := taa9 (.slice p pn pc); unfold Ta at tx9
  have tx52 := taa52 (.slice p pn pc); unfold Ta at tx52
  have tx72 := taa72 (.slice p pn pc); unfold Ta at tx72
  have ty4 := tab4 (.bool q); unfold Ta at ty4
  have ty9 := tab9 (.bool q); unfold Ta at ty9
  have ty52 := tab52 (.bool q); unfold Ta at ty52
  have ty72 := tab72 (.bool q); unfold Ta at ty72
  have fx := PForm.arr p pn pc
  have fy := PForm.bool q
  have FX := hid fx; have FY := hid fy; clear fx fy
  go_enter Try.func32, Try.ntmps32
  go_wp2_with (first
    | (go_at_call_of 46 (Value.iface 52 (.slice p pn pc)); refine (asInt_any _ FX.out _).mono ?_; rintro e w2 ⟨rfl, hw⟩; rw [hw]; clear hw w2; unfold asIntOf)
    | (go_at_call_of 46 (Value.iface 4 (.bool q)); refine (asInt_any _ FY.out _).mono ?_; rintro e w2 ⟨rfl, hw⟩; rw [hw]; clear hw w2; unfold asIntOf))
  go_ret
  exact ⟨rfl, rfl⟩

set_option maxRecDepth 100000 in
set_option maxHeartbeats 1000000 in
theorem match_arr_int (p : Option Addr) (pn pc : Nat) (q : Int) (w : World) : Calls Try.prog 32 #[.iface 52 (.slice p pn pc), .iface 2 (.int .i64 q)] w (IsBool false w) := by
  have tx4 := taa4 (.slice p pn pc); unfold Ta at tx4
  have tx3 := taa3 (.slice p pn pc); unfold Ta at tx3
  have tx74 := taa74 (.slice p pn pc); unfold Ta at tx74
  have tx75 := taa75 (.slice p pn pc); unfold Ta at tx75
  have tx21 := taa21 (.slice p pn pc); unfold Ta at tx21
  have tx2 := taa2 (.slice p pn pc); unfold Ta at tx2
  have tx76 := taa76 (.slice p pn pc); unfold Ta at tx76
  have tx5 := taa5 (.slice p pn pc); unfold Ta at tx5
  have tx77 := taa77 (.slice p pn pc); unfold Ta at tx77
  have tx78 := taa78 (.slice p pn pc); unfold Ta at tx78
  have tx79 := taa79 (.slice p pn pc); unfold Ta at tx79
  have tx82 := taa82 (.slice p pn pc); unfold Ta at tx82
  have tx22 := taa22 (.slice p pn pc); unfold Ta at tx22
  have tx9 := taa9 (.slice p pn pc); unfold Ta at tx9
  have tx52 := taa52 (.slice p pn pc); unfold Ta at tx52
  have tx72 := taa72 (.slice p pn pc); unfold Ta at tx72
  have ty4 := tai4 (.int .i64 q); unfold Ta at ty4
  have ty9 := tai9 (.int .i64 q); unfold Ta at ty9
  have ty52 := tai52 (.int .i64 q); unfold Ta at ty52
  have ty72 := tai72 (.int .i64 q); unfold Ta at ty72
  have fx := PForm.arr p pn pc
  have fy := PForm.int q
  have FX := hid fx; have FY := hid fy; clear fx fy
  go_enter Try.func32, Try.ntmps32
  go_wp2_with (first
    | (go_at_call_of 46 (Value.iface 52 (.slice p pn pc)); refine (asInt_any _ FX.out _).mono ?_; rintro e w2 ⟨rfl, hw⟩; rw [hw]; clear hw w2; unfold asIntOf)
    | (go_at_call_of 46 (Value.iface 2 (.int .i64 q)); refine (asInt_any _ FY.out _).mono ?_; rintro e w2 ⟨rfl, hw⟩; rw [hw]; clear hw w2; unfold asIntOf))
  go_ret
  exact ⟨rfl, rfl⟩

set_option maxRecDepth 100000 in
set_option maxHeartbeats 1000000 in
theorem match_arr_str (p : Option Addr) (pn pc : Nat) (q : ByteArray) (w : World) : Calls Try.prog 32 #[.iface 52 (.slice p pn pc), .iface 9 (.string q)] w (IsBool false w) := by
  have tx4 := taa4 (.slice p pn pc); unfold Ta at tx4
  have tx3 := taa3 (.slice p pn pc); unfold Ta at tx3
  have tx74 := taa74 (.slice p pn pc); unfold Ta at tx74
  have tx75 := taa75 (.slice p pn pc); unfold Ta at tx75
  have tx21 := taa21 (.slice p pn pc); unfold Ta at tx21
  have tx2 := taa2 (.slice p pn pc); unfold Ta at tx2
  have tx76 := taa76 (.slice p pn pc); unfold Ta at tx76
  have tx5 := taa5 (.slice p pn pc); unfold Ta at tx5
  have tx77 := taa77 (.slice p pn pc); unfold Ta at tx77
  have tx78 := taa78 (.slice p pn pc); unfold Ta at tx78
  have tx79 := taa79 (.slice p pn pc); unfold Ta at tx79
  have tx82 := taa82 (.slice p pn pc); unfold Ta at tx82
  have tx22 := taa22 (.slice p pn pc); unfold Ta at tx22
  have tx9 := taa9 (.slice p pn pc); unfold Ta at tx9
  have tx52 := taa52 (.slice p pn pc); unfold Ta at tx52
  have tx72 := taa72 (.slice p pn pc); unfold Ta at tx72
  have ty4 := tas4 (.string q); unfold Ta at ty4
  have ty9 := tas9 (.string q); unfold Ta at ty9
  have ty52 := tas52 (.string q); unfold Ta at ty52
  have ty72 := tas72 (.string q); unfold Ta at ty72
  have fx := PForm.arr p pn pc
  have fy := PForm.str q
  have FX := hid fx; have FY := hid fy; clear fx fy
  go_enter Try.func32, Try.ntmps32
  go_wp2_with (first
    | (go_at_call_of 46 (Value.iface 52 (.slice p pn pc)); refine (asInt_any _ FX.out _).mono ?_; rintro e w2 ⟨rfl, hw⟩; rw [hw]; clear hw w2; unfold asIntOf)
    | (go_at_call_of 46 (Value.iface 9 (.string q)); refine (asInt_any _ FY.out _).mono ?_; rintro e w2 ⟨rfl, hw⟩; rw [hw]; clear hw w2; unfold asIntOf))
  go_ret
  exact ⟨rfl, rfl⟩

set_option maxRecDepth 100000 in
set_option maxHeartbeats 1000000 in
theorem match_arr_obj (p : Option Addr) (pn pc : Nat) (q : Option Nat) (w : World) : Calls Try.prog 32 #[.iface 52 (.slice p pn pc), .iface 72 (.map q)] w (IsBool false w) := by
  have tx4 := taa4 (.slice p pn pc); unfold Ta at tx4
  have tx3 := taa3 (.slice p pn pc); unfold Ta at tx3
  have tx74 := taa74 (.slice p pn pc); unfold Ta at tx74
  have tx75 := taa75 (.slice p pn pc); unfold Ta at tx75
  have tx21 := taa21 (.slice p pn pc); unfold Ta at tx21
  have tx2 := taa2 (.slice p pn pc); unfold Ta at tx2
  have tx76 := taa76 (.slice p pn pc); unfold Ta at tx76
  have tx5 := taa5 (.slice p pn pc); unfold Ta at tx5
  have tx77 := taa77 (.slice p pn pc); unfold Ta at tx77
  have tx78 := taa78 (.slice p pn pc); unfold Ta at tx78
  have tx79 := taa79 (.slice p pn pc); unfold Ta at tx79
  have tx82 := taa82 (.slice p pn pc); unfold Ta at tx82
  have tx22 := taa22 (.slice p pn pc); unfold Ta at tx22
  have tx9 := taa9 (.slice p pn pc); unfold Ta at tx9
  have tx52 := taa52 (.slice p pn pc); unfold Ta at tx52
  have tx72 := taa72 (.slice p pn pc); unfold Ta at tx72
  have ty4 := tao4 (.map q); unfold Ta at ty4
  have ty9 := tao9 (.map q); unfold Ta at ty9
  have ty52 := tao52 (.map q); unfold Ta at ty52
  have ty72 := tao72 (.map q); unfold Ta at ty72
  have fx := PForm.arr p pn pc
  have fy := PForm.obj q
  have FX := hid fx; have FY := hid fy; clear fx fy
  go_enter Try.func32, Try.ntmps32
  go_wp2_with (first
    | (go_at_call_of 46 (Value.iface 52 (.slice p pn pc)); refine (asInt_any _ FX.out _).mono ?_; rintro e w2 ⟨rfl, hw⟩; rw [hw]; clear hw w2; unfold asIntOf)
    | (go_at_call_of 46 (Value.iface 72 (.map q)); refine (asInt_any _ FY.out _).mono ?_; rintro e w2 ⟨rfl, hw⟩; rw [hw]; clear hw w2; unfold asIntOf))
  go_ret
  exact ⟨rfl, rfl⟩

set_option maxRecDepth 100000 in
set_option maxHeartbeats 1000000 in
theorem match_obj_null (p : Option Nat) (w : World) : Calls Try.prog 32 #[.iface 72 (.map p), .nilIface] w (IsBool false w) := by
  have tx4 := tao4 (.map p); unfold Ta at tx4
  have tx3 := tao3 (.map p); unfold Ta at tx3
  have tx74 := tao74 (.map p); unfold Ta at tx74
  have tx75 := tao75 (.map p); unfold Ta at tx75
  have tx21 := tao21 (.map p); unfold Ta at tx21
  have tx2 := tao2 (.map p); unfold Ta at tx2
  have tx76 := tao76 (.map p); unfold Ta at tx76
  have tx5 := tao5 (.map p); unfold Ta at tx5
  have tx77 := tao77 (.map p); unfold Ta at tx77
  have tx78 := tao78 (.map p); unfold Ta at tx78
  have tx79 := tao79 (.map p); unfold Ta at tx79
  have tx82 := tao82 (.map p); unfold Ta at tx82
  have tx22 := tao22 (.map p); unfold Ta at tx22
  have tx9 := tao9 (.map p); unfold Ta at tx9
  have tx52 := tao52 (.map p); unfold Ta at tx52
  have tx72 := tao72 (.map p); unfold Ta at tx72
  have ty4 := tan4; unfold Ta at ty4
  have ty9 := tan9; unfold Ta at ty9
  have ty52 := tan52; unfold Ta at ty52
  have ty72 := tan72; unfold Ta at ty72
  have fx := PForm.obj p
  have fy := PForm.null
  have FX := hid fx; have FY := hid fy; clear fx fy
  go_enter Try.func32, Try.ntmps32
  go_wp2_with (first
    | (go_at_call_of 46 (Value.iface 72 (.map p)); refine (asInt_any _ FX.out _).mono ?_; rintro e w2 ⟨rfl, hw⟩; rw [hw]; clear hw w2; unfold asIntOf)
    | (go_at_call_of 46 (Value.nilIface); refine (asInt_any _ FY.out _).mono ?_; rintro e w2 ⟨rfl, hw⟩; rw [hw]; clear hw w2; unfold asIntOf))
  go_ret
  exact ⟨rfl, rfl⟩

set_option maxRecDepth 100000 in
set_option maxHeartbeats 1000000 in
theorem match_obj_bool (p : Option Nat) (q : Bool) (w : World) : Calls Try.prog 32 #[.iface 72 (.map p), .iface 4 (.bool q)] w (IsBool false w) := by
  have tx4 := tao4 (.map p); unfold Ta at tx4
  have tx3 := tao3 (.map p); unfold Ta at tx3
  have tx74 := tao74 (.map p); unfold Ta at tx74
  have tx75 := tao75 (.map p); unfold Ta at tx75
  have tx21 := tao21 (.map p); unfold Ta at tx21
  have tx2 := tao2 (.map p); unfold Ta at tx2
  have tx76 := tao76 (.map p); unfold Ta at tx76
  have tx5 := tao5 (.map p); unfold Ta at tx5
  have tx77 := tao77 (.map p); unfold Ta at tx77
  have tx78 := tao78 (.map p); unfold Ta at tx78
  have tx79 := tao79 (.map p); unfold Ta at tx79
  have tx82 := tao82 (.map p); unfold Ta at tx82
  have tx22 := tao22 (.map p); unfold Ta at tx22
  have tx9 := tao9 (.map p); unfold Ta at tx9
  have tx52 := tao52 (.map p); unfold Ta at tx52
  have tx72 := tao72 (.map p); unfold Ta at tx72
  have ty4 := tab4 (.bool q); unfold Ta at ty4
  have ty9 := tab9 (.bool q); unfold Ta at ty9
  have ty52 := tab52 (.bool q); unfold Ta at ty52
  have ty72 := tab72 (.bool q); unfold Ta at ty72
  have fx := PForm.obj p
  have fy := PForm.bool q
  have FX := hid fx; have FY := hid fy; clear fx fy
  go_enter Try.func32, Try.ntmps32
  go_wp2_with (first
    | (go_at_call_of 46 (Value.iface 72 (.map p)); refine (asInt_any _ FX.out _).mono ?_; rintro e w2 ⟨rfl, hw⟩; rw [hw]; clear hw w2; unfold asIntOf)
    | (go_at_call_of 46 (Value.iface 4 (.bool q)); refine (asInt_any _ FY.out _).mono ?_; rintro e w2 ⟨rfl, hw⟩; rw [hw]; clear hw w2; unfold asIntOf))
  go_ret
  exact ⟨rfl, rfl⟩

set_option maxRecDepth 100000 in
set_option maxHeartbeats 1000000 in
theorem match_obj_int (p : Option Nat) (q : Int) (w : World) : Calls Try.prog 32 #[.iface 72 (.map p), .iface 2 (.int .i64 q)] w (IsBool false w) := by
  have tx4 := tao4 (.map p); unfold Ta at tx4
  have tx3 := tao3 (.map p); unfold Ta at tx3
  have tx74 := tao74 (.map p); unfold Ta at tx74
  have tx75 := tao75 (.map p); unfold Ta at tx75
  have tx21 := tao21 (.map p); unfold Ta at tx21
  have tx2 := tao2 (.map p); unfold Ta at tx2
  have tx76 := tao76 (.map p); unfold Ta at tx76
  have tx5 := tao5 (.map p); unfold Ta at tx5
  have tx77 := tao77 (.map p); unfold Ta at tx77
  have tx78 := tao78 (.map p); unfold Ta at tx78
  have tx79 := tao79 (.map p); unfold Ta at tx79
  have tx82 := tao82 (.map p); unfold Ta at tx82
  have tx22 := tao22 (.map p); unfold Ta at tx22
  have tx9 := tao9 (.map p); unfold Ta at tx9
  have tx52 := tao52 (.map p); unfold Ta at tx52
  have tx72 := tao72 (.map p); unfold Ta at tx72
  have ty4 := tai4 (.int .i64 q); unfold Ta at ty4
  have ty9 := tai9 (.int .i64 q); unfold Ta at ty9
  have ty52 := tai52 (.int .i64 q); unfold Ta at ty52
  have ty72 := tai72 (.int .i64 q); unfold Ta at ty72
  have fx := PForm.obj p
  have fy := PForm.int q
  have FX := hid fx; have FY := hid fy; clear fx fy
  go_enter Try.func32, Try.ntmps32
  go_wp2_with (first
    | (go_at_call_of 46 (Value.iface 72 (.map p)); refine (asInt_any _ FX.out _).mono ?_; rintro e w2 ⟨rfl, hw⟩; rw [hw]; clear hw w2; unfold asIntOf)
    | (go_at_call_of 46 (Value.iface 2 (.int .i64 q)); refine (asInt_any _ FY.out _).mono ?_; rintro e w2 ⟨rfl, hw⟩; rw [hw]; clear hw w2; unfold asIntOf))
  go_ret
  exact ⟨rfl, rfl⟩

set_option maxRecDepth 100000 in
set_option maxHeartbeats 1000000 in
theorem match_obj_str (p : Option Nat) (q : ByteArray) (w : World) : Calls Try.prog 32 #[.iface 72 (.map p), .iface 9 (.string q)] w (IsBool false w) := by
  have tx4 := tao4 (.map p); unfold Ta at tx4
  have tx3 := tao3 (.map p); unfold Ta at tx3
  have tx74 := tao74 (.map p); unfold Ta at tx74
  have tx75 := tao75 (.map p); unfold Ta at tx75
  have tx21 := tao21 (.map p); unfold Ta at tx21
  have tx2 := tao2 (.map p); unfold Ta at tx2
  have tx76 := tao76 (.map p); unfold Ta at tx76
  have tx5 := tao5 (.map p); unfold Ta at tx5
  have tx77 := tao77 (.map p); unfold Ta at tx77
  have tx78 := tao78 (.map p); unfold Ta at tx78
  have tx79 := tao79 (.map p); unfold Ta at tx79
  have tx82 := tao82 (.map p); unfold Ta at tx82
  have tx22 := tao22 (.map p); unfold Ta at tx22
  have tx9 := tao9 (.map p); unfold Ta at tx9
  have tx52 := tao52 (.map p); unfold Ta at tx52
  have tx72 := tao72 (.map p); unfold Ta at tx72
  have ty4 := tas4 (.string q); unfold Ta at ty4
  have ty9 := tas9 (.string q); unfold Ta at ty9
  have ty52 := tas52 (.string q); unfold Ta at ty52
  have ty72 := tas72 (.string q); unfold Ta at ty72
  have fx := PForm.obj p
  have fy := PForm.str q
  have FX := hid fx; have FY := hid fy; clear fx fy
  go_enter Try.func32, Try.ntmps32
  go_wp2_with (first
    | (go_at_call_of 46 (Value.iface 72 (.map p)); refine (asInt_any _ FX.out _).mono ?_; rintro e w2 ⟨rfl, hw⟩; rw [hw]; clear hw w2; unfold asIntOf)
    | (go_at_call_of 46 (Value.iface 9 (.string q)); refine (asInt_any _ FY.out _).mono ?_; rintro e w2 ⟨rfl, hw⟩; rw [hw]; clear hw w2; unfold asIntOf))
  go_ret
  exact ⟨rfl, rfl⟩

set_option maxRecDepth 100000 in
set_option maxHeartbeats 1000000 in
theorem match_obj_arr (p : Option Nat) (q : Option Addr) (qn qc : Nat) (w : World) : Calls Try.prog 32 #[.iface 72 (.map p), .iface 52 (.slice q qn qc)] w (IsBool false w) := by
  have tx4 := tao4 (.map p); unfold Ta at tx4
  have tx3 := tao3 (.map p); unfold Ta at tx3
  have tx74 := tao74 (.map p); unfold Ta at tx74
  have tx75 := tao75 (.map p); unfold Ta at tx75
  have tx21 := tao21 (.map p); unfold Ta at tx21
  have tx2 := tao2 (.map p); unfold Ta at tx2
  have tx76 := tao76 (.map p); unfold Ta at tx76
  have tx5 := tao5 (.map p); unfold Ta at tx5
  have tx77 := tao77 (.map p); unfold Ta at tx77
  have tx78 := tao78 (.map p); unfold Ta at tx78
  have tx79 := tao79 (.map p); unfold Ta at tx79
  have tx82 := tao82 (.map p); unfold Ta at tx82
  have tx22 := tao22 (.map p); unfold Ta at tx22
  have tx9 := tao9 (.map p); unfold Ta at tx9
  have tx52 := tao52 (.map p); unfold Ta at tx52
  have tx72 := tao72 (.map p); unfold Ta at tx72
  have ty4 := taa4 (.slice q qn qc); unfold Ta at ty4
  have ty9 := taa9 (.slice q qn qc); unfold Ta at ty9
  have ty52 := taa52 (.slice q qn qc); unfold Ta at ty52
  have ty72 := taa72 (.slice q qn qc); unfold Ta at ty72
  have fx := PForm.obj p
  have fy := PForm.arr q qn qc
  have FX := hid fx; have FY := hid fy; clear fx fy
  go_enter Try.func32, Try.ntmps32
  go_wp2_with (first
    | (go_at_call_of 46 (Value.iface 72 (.map p)); refine (asInt_any _ FX.out _).mono ?_; rintro e w2 ⟨rfl, hw⟩; rw [hw]; clear hw w2; unfold asIntOf)
    | (go_at_call_of 46 (Value.iface 52 (.slice q qn qc)); refine (asInt_any _ FY.out _).mono ?_; rintro e w2 ⟨rfl, hw⟩; rw [hw]; clear hw w2; unfold asIntOf))
  go_ret
  exact ⟨rfl, rfl⟩

end Go.Proofs.Ytclnpjelgdoloaa
