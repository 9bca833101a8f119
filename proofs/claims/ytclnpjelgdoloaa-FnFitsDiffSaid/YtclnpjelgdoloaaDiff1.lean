/- alt.diff at values that hold no others (printed by wip/dsc.py). -/
import Derived.Test.YtclnpjelgdoloaaDiffSc
import Derived.Maps.AppendAt
namespace Go.Proofs.Ytclnpjelgdoloaa
open Go.RowKit Go.Maps
set_option linter.unusedVariables false

theorem ownsRow_nil53 (w : World) (B : Nat) : w.ownsRow B 53 1 (.slice none 0 0) 0 [] := ⟨rfl, .inl ⟨rfl, rfl⟩⟩
theorem one_slice (g : Nat) : ∀ u ∈ [Value.slice (some ⟨g, 0, none⟩) 1 1], u.oneCell' = true := by
  intro u hu
  simp at hu
  subst hu
  rfl
theorem len1 : 0 + 1 ≤ maxLen := by unfold maxLen; omega

set_option maxRecDepth 100000 in
set_option maxHeartbeats 1000000 in
theorem diff_null_null (w : World) : Calls Try.prog 44 #[.nilIface, .nilIface, .bool false, .slice none 0 0] w (OneOr false w) := by
  obtain ⟨i0, hi, hz0, hz1, hz2⟩ := info_parts info53
  have tx4 := tan4; unfold Ta at tx4
  have tx3 := tan3; unfold Ta at tx3
  have tx74 := tan74; unfold Ta at tx74
  have tx75 := tan75; unfold Ta at tx75
  have tx21 := tan21; unfold Ta at tx21
  have tx2 := tan2; unfold Ta at tx2
  have tx76 := tan76; unfold Ta at tx76
  have tx5 := tan5; unfold Ta at tx5
  have tx77 := tan77; unfold Ta at tx77
  have tx78 := tan78; unfold Ta at tx78
  have tx79 := tan79; unfold Ta at tx79
  have tx82 := tan82; unfold Ta at tx82
  have tx22 := tan22; unfold Ta at tx22
  have tx9 := tan9; unfold Ta at tx9
  have tx52 := tan52; unfold Ta at tx52
  have tx72 := tan72; unfold Ta at tx72
  have ty4 := tan4; unfold Ta at ty4
  have ty9 := tan9; unfold Ta at ty9
  have fx := PForm.null
  have fy := PForm.null
  have FX := hid fx; have FY := hid fy; clear fx fy
  go_enter Try.func44, Try.ntmps44
  go_wp2_with (first
    | (go_at_call_of 46 (Value.nilIface); refine (asInt_any _ FX.out _).mono ?_; rintro e w2 ⟨rfl, hw⟩; rw [hw]; clear hw w2; unfold asIntOf)
    | (go_at_call_of 46 (Value.nilIface); refine (asInt_any _ FY.out _).mono ?_; rintro e w2 ⟨rfl, hw⟩; rw [hw]; clear hw w2; unfold asIntOf)
    | (at_builtin; refine wpList_append_own_at _ rfl (.tmp 64) (.tmp 66) 51 rfl w.heap.size 53 i0 (.slice none 0 0) 1 24 Try.underlying51 hi hz0 hz1 hz2 rfl (by decide) (.slice none 0 0) 0 [] rfl (ownsRow_nil53 _ _) ⟨w.heap.size + 1, 0, none⟩ 1 1 [.slice (some ⟨w.heap.size, 0, none⟩) 1 1] rfl rfl (by have := cell_one_new (w.alloc (.cells #[.nilIface] 20)) (.slice (some ⟨w.heap.size, 0, none⟩) 1 1) 53; simpa using this) (one_slice _) len1 (by omega) (by simp; omega) ?_; intro v' w1 hown hgrow hnil hat; have OW := hid hown; have GR := hid hgrow; clear hown hgrow hnil hat))
  go_ret
  first | exact oneOr_none w | exact oneOr_one OW.out GR.out

set_option maxRecDepth 100000 in
set_option maxHeartbeats 1000000 in
theorem diff_null_bool (q : Bool) (w : World) : Calls Try.prog 44 #[.nilIface, .iface 4 (.bool q), .bool false, .slice none 0 0] w (OneOr true w) := by
  obtain ⟨i0, hi, hz0, hz1, hz2⟩ := info_parts info53
  have tx4 := tan4; unfold Ta at tx4
  have tx3 := tan3; unfold Ta at tx3
  have tx74 := tan74; unfold Ta at tx74
  have tx75 := tan75; unfold Ta at tx75
  have tx21 := tan21; unfold Ta at tx21
  have tx2 := tan2; unfold Ta at tx2
  have tx76 := tan76; unfold Ta at tx76
  have tx5 := tan5; unfold Ta at tx5
  have tx77 := tan77; unfold Ta at tx77
  have tx78 := tan78; unfold Ta at tx78
  have tx79 := tan79; unfold Ta at tx79
  have tx82 := tan82; unfold Ta at tx82
  have tx22 := tan22; unfold Ta at tx22
  have tx9 := tan9; unfold Ta at tx9
  have tx52 := tan52; unfold Ta at tx52
  have tx72 := tan72; unfold Ta at tx72
  have ty4 := tab4 (.bool q); unfold Ta at ty4
  have ty9 := tab9 (.bool q); unfold Ta at ty9
  have fx := PForm.null
  have fy := PForm.bool q
  have FX := hid fx; have FY := hid fy; clear fx fy
  go_enter Try.func44, Try.ntmps44
  go_wp2_with (first
    | (go_at_call_of 46 (Value.nilIface); refine (asInt_any _ FX.out _).mono ?_; rintro e w2 ⟨rfl, hw⟩; rw [hw]; clear hw w2; unfold asIntOf)
    | (go_at_call_of 46 (Value.iface 4 (.bool q)); refine (asInt_any _ FY.out _).mono ?_; rintro e w2 ⟨rfl, hw⟩; rw [hw]; clear hw w2; unfold asIntOf)
    | (at_builtin; refine wpList_append_own_at _ rfl (.tmp 64) (.tmp 66) 51 rfl w.heap.size 53 i0 (.slice none 0 0) 1 24 Try.underlying51 hi hz0 hz1 hz2 rfl (by decide) (.slice none 0 0) 0 [] rfl (ownsRow_nil53 _ _) ⟨w.heap.size + 1, 0, none⟩ 1 1 [.slice (some ⟨w.heap.size, 0, none⟩) 1 1] rfl rfl (by have := cell_one_new (w.alloc (.cells #[.nilIface] 20)) (.slice (some ⟨w.heap.size, 0, none⟩) 1 1) 53; simpa using this) (one_slice _) len1 (by omega) (by simp; omega) ?_; intro v' w1 hown hgrow hnil hat; have OW := hid hown; have GR := hid hgrow; clear hown hgrow hnil hat))
  go_ret
  first | exact oneOr_none w | exact oneOr_one OW.out GR.out

set_option maxRecDepth 100000 in
set_option maxHeartbeats 1000000 in
theorem diff_null_int (q : Int) (w : World) : Calls Try.prog 44 #[.nilIface, .iface 2 (.int .i64 q), .bool false, .slice none 0 0] w (OneOr true w) := by
  obtain ⟨i0, hi, hz0, hz1, hz2⟩ := info_parts info53
  have tx4 := tan4; unfold Ta at tx4
  have tx3 := tan3; unfold Ta at tx3
  have tx74 := tan74; unfold Ta at tx74
  have tx75 := tan75; unfold Ta at tx75
  have tx21 := tan21; unfold Ta at tx21
  have tx2 := tan2; unfold Ta at tx2
  have tx76 := tan76; unfold Ta at tx76
  have tx5 := tan5; unfold Ta at tx5
  have tx77 := tan77; unfold Ta at tx77
  have tx78 := tan78; unfold Ta at tx78
  have tx79 := tan79; unfold Ta at tx79
  have tx82 := tan82; unfold Ta at tx82
  have tx22 := tan22; unfold Ta at tx22
  have tx9 := tan9; unfold Ta at tx9
  have tx52 := tan52; unfold Ta at tx52
  have tx72 := tan72; unfold Ta at tx72
  have ty4 := tai4 (.int .i64 q); unfold Ta at ty4
  have ty9 := tai9 (.int .i64 q); unfold Ta at ty9
  have fx := PForm.null
  have fy := PForm.int q
  have FX := hid fx; have FY := hid fy; clear fx fy
  go_enter Try.func44, Try.ntmps44
  go_wp2_with (first
    | (go_at_call_of 46 (Value.nilIface); refine (asInt_any _ FX.out _).mono ?_; rintro e w2 ⟨rfl, hw⟩; rw [hw]; clear hw w2; unfold asIntOf)
    | (go_at_call_of 46 (Value.iface 2 (.int .i64 q)); refine (asInt_any _ FY.out _).mono ?_; rintro e w2 ⟨rfl, hw⟩; rw [hw]; clear hw w2; unfold asIntOf)
    | (at_builtin; refine wpList_append_own_at _ rfl (.tmp 64) (.tmp 66) 51 rfl w.heap.size 53 i0 (.slice none 0 0) 1 24 Try.underlying51 hi hz0 hz1 hz2 rfl (by decide) (.slice none 0 0) 0 [] rfl (ownsRow_nil53 _ _) ⟨w.heap.size + 1, 0, none⟩ 1 1 [.slice (some ⟨w.heap.size, 0, none⟩) 1 1] rfl rfl (by have := cell_one_new (w.alloc (.cells #[.nilIface] 20)) (.slice (some ⟨w.heap.size, 0, none⟩) 1 1) 53; simpa using this) (one_slice _) len1 (by omega) (by simp; omega) ?_; intro v' w1 hown hgrow hnil hat; have OW := hid hown; have GR := hid hgrow; clear hown hgrow hnil hat))
  go_ret
  first | exact oneOr_none w | exact oneOr_one OW.out GR.out

set_option maxRecDepth 100000 in
set_option maxHeartbeats 1000000 in
theorem diff_null_str (q : ByteArray) (w : World) : Calls Try.prog 44 #[.nilIface, .iface 9 (.string q), .bool false, .slice none 0 0] w (OneOr true w) := by
  obtain ⟨i0, hi, hz0, hz1, hz2⟩ := info_parts info53
  have tx4 := tan4; unfold Ta at tx4
  have tx3 := tan3; unfold Ta at tx3
  have tx74 := tan74; unfold Ta at tx74
  have tx75 := tan75; unfold Ta at tx75
  have tx21 := tan21; unfold Ta at tx21
  have tx2 := tan2; unfold Ta at tx2
  have tx76 := tan76; unfold Ta at tx76
  have tx5 := tan5; unfold Ta at tx5
  have tx77 := tan77; unfold Ta at tx77
  have tx78 := tan78; unfold Ta at tx78
  have tx79 := tan79; unfold Ta at tx79
  have tx82 := tan82; unfold Ta at tx82
  have tx22 := tan22; unfold Ta at tx22
  have tx9 := tan9; unfold Ta at tx9
  have tx52 := tan52; unfold Ta at tx52
  have tx72 := tan72; unfold Ta at tx72
  have ty4 := tas4 (.string q); unfold Ta at ty4
  have ty9 := tas9 (.string q); unfold Ta at ty9
  have fx := PForm.null
  have fy := PForm.str q
  have FX := hid fx; have FY := hid fy; clear fx fy
  go_enter Try.func44, Try.ntmps44
  go_wp2_with (first
    | (go_at_call_of 46 (Value.nilIface); refine (asInt_any _ FX.out _).mono ?_; rintro e w2 ⟨rfl, hw⟩; rw [hw]; clear hw w2; unfold asIntOf)
    | (go_at_call_of 46 (Value.iface 9 (.string q)); refine (asInt_any _ FY.out _).mono ?_; rintro e w2 ⟨rfl, hw⟩; rw [hw]; clear hw w2; unfold asIntOf)
    | (at_builtin; refine wpList_append_own_at _ rfl (.tmp 64) (.tmp 66) 51 rfl w.heap.size 53 i0 (.slice none 0 0) 1 24 Try.underlying51 hi hz0 hz1 hz2 rfl (by decide) (.slice none 0 0) 0 [] rfl (ownsRow_nil53 _ _) ⟨w.heap.size + 1, 0, none⟩ 1 1 [.slice (some ⟨w.heap.size, 0, none⟩) 1 1] rfl rfl (by have := cell_one_new (w.alloc (.cells #[.nilIface] 20)) (.slice (some ⟨w.heap.size, 0, none⟩) 1 1) 53; simpa using this) (one_slice _) len1 (by omega) (by simp; omega) ?_; intro v' w1 hown hgrow hnil hat; have OW := hid hown; have GR := hid hgrow; clear hown hgrow hnil hat))
  go_ret
  first | exact oneOr_none w | exact oneOr_one OW.out GR.out

set_option maxRecDepth 100000 in
set_option maxHeartbeats 1000000 in
theorem diff_null_arr (q : Option Addr) (qn qc : Nat) (w : World) : Calls Try.prog 44 #[.nilIface, .iface 52 (.slice q qn qc), .bool false, .slice none 0 0] w (OneOr true w) := by
  obtain ⟨i0, hi, hz0, hz1, hz2⟩ := info_parts info53
  have tx4 := tan4; unfold Ta at tx4
  have tx3 := tan3; unfold Ta at tx3
  have tx74 := tan74; unfold Ta at tx74
  have tx75 := tan75; unfold Ta at tx75
  have tx21 := tan21; unfold Ta at tx21
  have tx2 := tan2; unfold Ta at tx2
  have tx76 := tan76; unfold Ta at tx76
  have tx5 := tan5; unfold Ta at tx5
  have tx77 := tan77; unfold Ta at tx77
  have tx78 := tan78; unfold Ta at tx78
  have tx79 := tan79; unfold Ta at tx79
  have tx82 := tan82; unfold Ta at tx82
  have tx22 := tan22; unfold Ta at tx22
  have tx9 := tan9; unfold Ta at tx9
  have tx52 := tan52; unfold Ta at tx52
  have tx72 := tan72; unfold Ta at tx72
  have ty4 := taa4 (.slice q qn qc); unfold Ta at ty4
  have ty9 := taa9 (.slice q qn qc); unfold Ta at ty9
  have fx := PForm.null
  have fy := PForm.arr q qn qc
  have FX := hid fx; have FY := hid fy; clear fx fy
  go_enter Try.func44, Try.ntmps44
  go_wp2_with (first
    | (go_at_call_of 46 (Value.nilIface); refine (asInt_any _ FX.out _).mono ?_; rintro e w2 ⟨rfl, hw⟩; rw [hw]; clear hw w2; unfold asIntOf)
    | (go_at_call_of 46 (Value.iface 52 (.slice q qn qc)); refine (asInt_any _ FY.out _).mono ?_; rintro e w2 ⟨rfl, hw⟩; rw [hw]; clear hw w2; unfold asIntOf)
    | (at_builtin; refine wpList_append_own_at _ rfl (.tmp 64) (.tmp 66) 51 rfl w.heap.size 53 i0 (.slice none 0 0) 1 24 Try.underlying51 hi hz0 hz1 hz2 rfl (by decide) (.slice none 0 0) 0 [] rfl (ownsRow_nil53 _ _) ⟨w.heap.size + 1, 0, none⟩ 1 1 [.slice (some ⟨w.heap.size, 0, none⟩) 1 1] rfl rfl (by have := cell_one_new (w.alloc (.cells #[.nilIface] 20)) (.slice (some ⟨w.heap.size, 0, none⟩) 1 1) 53; simpa using this) (one_slice _) len1 (by omega) (by simp; omega) ?_; intro v' w1 hown hgrow hnil hat; have OW := hid hown; have GR := hid hgrow; clear hown hgrow hnil hat))
  go_ret
  first | exact oneOr_none w | exact oneOr_one OW.out GR.out

set_option maxRecDepth 100000 in
set_option maxHeartbeats 1000000 in
theorem diff_null_obj (q : Option Nat) (w : World) : Calls Try.prog 44 #[.nilIface, .iface 72 (.map q), .bool false, .slice none 0 0] w (OneOr true w) := by
  obtain ⟨i0, hi, hz0, hz1, hz2⟩ := info_parts info53
  have tx4 := tan4; unfold Ta at tx4
  have tx3 := tan3; unfold Ta at tx3
  have tx74 := tan74; unfold Ta at tx74
  have tx75 := tan75; unfold Ta at tx75
  have tx21 := tan21; unfold Ta at tx21
  have tx2 := tan2; unfold Ta at tx2
  have tx76 := tan76; unfold Ta at tx76
  have tx5 := tan5; unfold Ta at tx5
  have tx77 := tan77; unfold Ta at tx77
  have tx78 := tan78; unfold Ta at tx78
  have tx79 := tan79; unfold Ta at tx79
  have tx82 := tan82; unfold Ta at tx82
  have tx22 := tan22; unfold Ta at tx22
  have tx9 := tan9; unfold Ta at tx9
  have tx52 := tan52; unfold Ta at tx52
  have tx72 := tan72; unfold Ta at tx72
  have ty4 := tao4 (.map q); unfold Ta at ty4
  have ty9 := tao9 (.map q); unfold Ta at ty9
  have fx := PForm.null
  have fy := PForm.obj q
  have FX := hid fx; have FY := hid fy; clear fx fy
  go_enter Try.func44, Try.ntmps44
  go_wp2_with (first
    | (go_at_call_of 46 (Value.nilIface); refine (asInt_any _ FX.out _).mono ?_; rintro e w2 ⟨rfl, hw⟩; rw [hw]; clear hw w2; unfold asIntOf)
    | (go_at_call_of 46 (Value.iface 72 (.map q)); refine (asInt_any _ FY.out _).mono ?_; rintro e w2 ⟨rfl, hw⟩; rw [hw]; clear hw w2; unfold asIntOf)
    | (at_builtin; refine wpList_append_own_at _ rfl (.tmp 64) (.tmp 66) 51 rfl w.heap.size 53 i0 (.slice none 0 0) 1 24 Try.underlying51 hi hz0 hz1 hz2 rfl (by decide) (.slice none 0 0) 0 [] rfl (ownsRow_nil53 _ _) ⟨w.heap.size + 1, 0, none⟩ 1 1 [.slice (some ⟨w.heap.size, 0, none⟩) 1 1] rfl rfl (by have := cell_one_new (w.alloc (.cells #[.nilIface] 20)) (.slice (some ⟨w.heap.size, 0, none⟩) 1 1) 53; simpa using this) (one_slice _) len1 (by omega) (by simp; omega) ?_; intro v' w1 hown hgrow hnil hat; have OW := hid hown; have GR := hid hgrow; clear hown hgrow hnil hat))
  go_ret
  first | exact oneOr_none w | exact oneOr_one OW.out GR.out

set_option maxRecDepth 100000 in
set_option maxHeartbeats 1000000 in
theorem diff_bool_null (p : Bool) (w : World) : Calls Try.prog 44 #[.iface 4 (.bool p), .nilIface, .bool false, .slice none 0 0] w (OneOr true w) := by
  obtain ⟨i0, hi, hz0, hz1, hz2⟩ := info_parts info53
  have tx4 := tab4 (.bool p); unfold Ta at tx4
  have tx3 := tab3 (.bool p); unfold Ta at tx3
  have tx74 := tab74 (.bool p); unfold Ta at tx74
  have tx75 := tab75 (.bool p); unfold Ta at tx75
  have tx21 := tab21 (.bool p); unfold Ta at tx21
  have tx2 := tab2 (.bool p); unfold Ta at tx2
  have tx76 := tab76 (.bool p); unfold Ta at tx76
  have tx5 := tab5 (.bool p); unfold Ta at tx5
  have tx77 := tab77 (.bool p); unfold Ta at tx77
  have tx78 := tab78 (.bool p); unfold Ta at tx78
  have tx79 := tab79 (.bool p); unfold Ta at tx79
  have tx82 := tab82 (.bool p); unfold Ta at tx82
  have tx22 := tab22 (.bool p); unfold Ta at tx22
  have tx9 := tab9 (.bool p); unfold Ta at tx9
  have tx52 := tab52 (.bool p); unfold Ta at tx52
  have tx72 := tab72 (.bool p); unfold Ta at tx72
  have ty4 := tan4; unfold Ta at ty4
  have ty9 := tan9; unfold Ta at ty9
  have fx := PForm.bool p
  have fy := PForm.null
  have FX := hid fx; have FY := hid fy; clear fx fy
  go_enter Try.func44, Try.ntmps44
  go_wp2_with (first
    | (go_at_call_of 46 (Value.iface 4 (.bool p)); refine (asInt_any _ FX.out _).mono ?_; rintro e w2 ⟨rfl, hw⟩; rw [hw]; clear hw w2; unfold asIntOf)
    | (go_at_call_of 46 (Value.nilIface); refine (asInt_any _ FY.out _).mono ?_; rintro e w2 ⟨rfl, hw⟩; rw [hw]; clear hw w2; unfold asIntOf)
    | (at_builtin; refine wpList_append_own_at _ rfl (.tmp 83) (.tmp 85) 51 rfl w.heap.size 53 i0 (.slice none 0 0) 1 24 Try.underlying51 hi hz0 hz1 hz2 rfl (by decide) (.slice none 0 0) 0 [] rfl (ownsRow_nil53 _ _) ⟨w.heap.size + 1, 0, none⟩ 1 1 [.slice (some ⟨w.heap.size, 0, none⟩) 1 1] rfl rfl (by have := cell_one_new (w.alloc (.cells #[.nilIface] 20)) (.slice (some ⟨w.heap.size, 0, none⟩) 1 1) 53; simpa using this) (one_slice _) len1 (by omega) (by simp; omega) ?_; intro v' w1 hown hgrow hnil hat; have OW := hid hown; have GR := hid hgrow; clear hown hgrow hnil hat))
  go_ret
  first | exact oneOr_none w | exact oneOr_one OW.out GR.out

set_option maxRecDepth 100000 in
set_option maxHeartbeats 1000000 in
theorem diff_bool_bool (p : Bool) (q : Bool) (w : World) : Calls Try.prog 44 #[.iface 4 (.bool p), .iface 4 (.bool q), .bool false, .slice none 0 0] w (OneOr (p != q) w) := by
  obtain ⟨i0, hi, hz0, hz1, hz2⟩ := info_parts info53
  have tx4 := tab4 (.bool p); unfold Ta at tx4
  have tx3 := tab3 (.bool p); unfold Ta at tx3
  have tx74 := tab74 (.bool p); unfold Ta at tx74
  have tx75 := tab75 (.bool p); unfold Ta at tx75
  have tx21 := tab21 (.bool p); unfold Ta at tx21
  have tx2 := tab2 (.bool p); unfold Ta at tx2
  have tx76 := tab76 (.bool p); unfold Ta at tx76
  have tx5 := tab5 (.bool p); unfold Ta at tx5
  have tx77 := tab77 (.bool p); unfold Ta at tx77
  have tx78 := tab78 (.bool p); unfold Ta at tx78
  have tx79 := tab79 (.bool p); unfold Ta at tx79
  have tx82 := tab82 (.bool p); unfold Ta at tx82
  have tx22 := tab22 (.bool p); unfold Ta at tx22
  have tx9 := tab9 (.bool p); unfold Ta at tx9
  have tx52 := tab52 (.bool p); unfold Ta at tx52
  have tx72 := tab72 (.bool p); unfold Ta at tx72
  have ty4 := tab4 (.bool q); unfold Ta at ty4
  have ty9 := tab9 (.bool q); unfold Ta at ty9
  have fx := PForm.bool p
  have fy := PForm.bool q
  have FX := hid fx; have FY := hid fy; clear fx fy
  cases p <;> cases q
  all_goals
    go_enter Try.func44, Try.ntmps44
    go_wp2_with (first
      | (go_at_call_of 46 (Value.iface 4 (.bool _)); refine (asInt_any _ FX.out _).mono ?_; rintro e w2 ⟨rfl, hw⟩; rw [hw]; clear hw w2; unfold asIntOf)
      | (go_at_call_of 46 (Value.iface 4 (.bool _)); refine (asInt_any _ FY.out _).mono ?_; rintro e w2 ⟨rfl, hw⟩; rw [hw]; clear hw w2; unfold asIntOf)
      | (at_builtin; refine wpList_append_own_at _ rfl (.tmp 83) (.tmp 85) 51 rfl w.heap.size 53 i0 (.slice none 0 0) 1 24 Try.underlying51 hi hz0 hz1 hz2 rfl (by decide) (.slice none 0 0) 0 [] rfl (ownsRow_nil53 _ _) ⟨w.heap.size + 1, 0, none⟩ 1 1 [.slice (some ⟨w.heap.size, 0, none⟩) 1 1] rfl rfl (by have := cell_one_new (w.alloc (.cells #[.nilIface] 20)) (.slice (some ⟨w.heap.size, 0, none⟩) 1 1) 53; simpa using this) (one_slice _) len1 (by omega) (by simp; omega) ?_; intro v' w1 hown hgrow hnil hat; have OW := hid hown; have GR := hid hgrow; clear hown hgrow hnil hat))
    go_ret
    first | exact oneOr_none w | exact oneOr_one OW.out GR.out

set_option maxRecDepth 100000 in
set_option maxHeartbeats 1000000 in
theorem diff_bool_int (p : Bool) (q : Int) (w : World) : Calls Try.prog 44 #[.iface 4 (.bool p), .iface 2 (.int .i64 q), .bool false, .slice none 0 0] w (OneOr true w) := by
  obtain ⟨i0, hi, hz0, hz1, hz2⟩ := info_parts info53
  have tx4 := tab4 (.bool p); unfold Ta at tx4
  have tx3 := tab3 (.bool p); unfold Ta at tx3
  have tx74 := tab74 (.bool p); unfold Ta at tx74
  have tx75 := tab75 (.bool p); unfold Ta at tx75
  have tx21 := tab21 (.bool p); unfold Ta at tx21
  have tx2 := tab2 (.bool p); unfold Ta at tx2
  have tx76 := tab76 (.bool p); unfold Ta at tx76
  have tx5 := tab5 (.bool p); unfold Ta at tx5
  have tx77 := tab77 (.bool p); unfold Ta at tx77
  have tx78 := tab78 (.bool p); unfold Ta at tx78
  have tx79 := tab79 (.bool p); unfold Ta at tx79
  have tx82 := tab82 (.bool p); unfold Ta at tx82
  have tx22 := tab22 (.bool p); unfold Ta at tx22
  have tx9 := tab9 (.bool p); unfold Ta at tx9
  have tx52 := tab52 (.bool p); unfold Ta at tx52
  have tx72 := tab72 (.bool p); unfold Ta at tx72
  have ty4 := tai4 (.int .i64 q); unfold Ta at ty4
  have ty9 := tai9 (.int .i64 q); unfold Ta at ty9
  have fx := PForm.bool p
  have fy := PForm.int q
  have FX := hid fx; have FY := hid fy; clear fx fy
  go_enter Try.func44, Try.ntmps44
  go_wp2_with (first
    | (go_at_call_of 46 (Value.iface 4 (.bool p)); refine (asInt_any _ FX.out _).mono ?_; rintro e w2 ⟨rfl, hw⟩; rw [hw]; clear hw w2; unfold asIntOf)
    | (go_at_call_of 46 (Value.iface 2 (.int .i64 q)); refine (asInt_any _ FY.out _).mono ?_; rintro e w2 ⟨rfl, hw⟩; rw [hw]; clear hw w2; unfold asIntOf)
    | (at_builtin; refine wpList_append_own_at _ rfl (.tmp 83) (.tmp 85) 51 rfl w.heap.size 53 i0 (.slice none 0 0) 1 24 Try.underlying51 hi hz0 hz1 hz2 rfl (by decide) (.slice none 0 0) 0 [] rfl (ownsRow_nil53 _ _) ⟨w.heap.size + 1, 0, none⟩ 1 1 [.slice (some ⟨w.heap.size, 0, none⟩) 1 1] rfl rfl (by have := cell_one_new (w.alloc (.cells #[.nilIface] 20)) (.slice (some ⟨w.heap.size, 0, none⟩) 1 1) 53; simpa using this) (one_slice _) len1 (by omega) (by simp; omega) ?_; intro v' w1 hown hgrow hnil hat; have OW := hid hown; have GR := hid hgrow; clear hown hgrow hnil hat))
  go_ret
  first | exact oneOr_none w | exact oneOr_one OW.out GR.out

set_option maxRecDepth 100000 in
set_option maxHeartbeats 1000000 in
theorem diff_bool_str (p : Bool) (q : ByteArray) (w : World) : Calls Try.prog 44 #[.iface 4 (.bool p), .iface 9 (.string q), .bool false, .slice none 0 0] w (OneOr true w) := by
  obtain ⟨i0, hi, hz0, hz1, hz2⟩ := info_parts info53
  have tx4 := tab4 (.bool p); unfold Ta at tx4
  have tx3 := tab3 (.bool p); unfold Ta at tx3
  have tx74 := tab74 (.bool p); unfold Ta at tx74
  have tx75 := tab75 (.bool p); unfold Ta at tx75
  have tx21 := tab21 (.bool p); unfold Ta at tx21
  have tx2 := tab2 (.bool p); unfold Ta at tx2
  have tx76 := tab76 (.bool p); unfold Ta at tx76
  have tx5 := tab5 (.bool p); unfold Ta at tx5
  have tx77 := tab77 (.bool p); unfold Ta at tx77
  have tx78 := tab78 (.bool p); unfold Ta at tx78
  have tx79 := tab79 (.bool p); unfold Ta at tx79
  have tx82 := tab82 (.bool p); unfold Ta at tx82
  have tx22 := tab22 (.bool p); unfold Ta at tx22
  have tx9 := tab9 (.bool p); unfold Ta at tx9
  have tx52 := tab52 (.bool p); unfold Ta at tx52
  have tx72 := tab72 (.bool p); unfold Ta at tx72
  have ty4 := tas4 (.string q); unfold Ta at ty4
  have ty9 := tas9 (.string q); unfold Ta at ty9
  have fx := PForm.bool p
  have fy := PForm.str q
  have FX := hid fx; have FY := hid fy; clear fx fy
  go_enter Try.func44, Try.ntmps44
  go_wp2_with (first
    | (go_at_call_of 46 (Value.iface 4 (.bool p)); refine (asInt_any _ FX.out _).mono ?_; rintro e w2 ⟨rfl, hw⟩; rw [hw]; clear hw w2; unfold asIntOf)
    | (go_at_call_of 46 (Value.iface 9 (.string q)); refine (asInt_any _ FY.out _).mono ?_; rintro e w2 ⟨rfl, hw⟩; rw [hw]; clear hw w2; unfold asIntOf)
    | (at_builtin; refine wpList_append_own_at _ rfl (.tmp 83) (.tmp 85) 51 rfl w.heap.size 53 i0 (.slice none 0 0) 1 24 Try.underlying51 hi hz0 hz1 hz2 rfl (by decide) (.slice none 0 0) 0 [] rfl (ownsRow_nil53 _ _) ⟨w.heap.size + 1, 0, none⟩ 1 1 [.slice (some ⟨w.heap.size, 0, none⟩) 1 1] rfl rfl (by have := cell_one_new (w.alloc (.cells #[.nilIface] 20)) (.slice (some ⟨w.heap.size, 0, none⟩) 1 1) 53; simpa using this) (one_slice _) len1 (by omega) (by simp; omega) ?_; intro v' w1 hown hgrow hnil hat; have OW := hid hown; have GR := hid hgrow; clear hown hgrow hnil hat))
  go_ret
  first | exact oneOr_none w | exact oneOr_one OW.out GR.out

set_option maxRecDepth 100000 in
set_option maxHeartbeats 1000000 in
theorem diff_bool_arr (p : Bool) (q : Option Addr) (qn qc : Nat) (w : World) : Calls Try.prog 44 #[.iface 4 (.bool p), .iface 52 (.slice q qn qc), .bool false, .slice none 0 0] w (OneOr true w) := by
  obtain ⟨i0, hi, hz0, hz1, hz2⟩ := info_parts info53
  have tx4 := tab4 (.bool p); unfold Ta at tx4
  have tx3 := tab3 (.bool p); unfold Ta at tx3
  have tx74 := tab74 (.bool p); unfold Ta at tx74
  have tx75 := tab75 (.bool p); unfold Ta at tx75
  have tx21 := tab21 (.bool p); unfold Ta at tx21
  have tx2 := tab2 (.bool p); unfold Ta at tx2
  have tx76 := tab76 (.bool p); unfold Ta at tx76
  have tx5 := tab5 (.bool p); unfold Ta at tx5
  have tx77 := tab77 (.bool p); unfold Ta at tx77
  have tx78 := tab78 (.bool p); unfold Ta at tx78
  have tx79 := tab79 (.bool p); unfold Ta at tx79
  have tx82 := tab82 (.bool p); unfold Ta at tx82
  have tx22 := tab22 (.bool p); unfold Ta at tx22
  have tx9 := tab9 (.bool p); unfold Ta at tx9
  have tx52 := tab52 (.bool p); unfold Ta at tx52
  have tx72 := tab72 (.bool p); unfold Ta at tx72
  have ty4 := taa4 (.slice q qn qc); unfold Ta at ty4
  have ty9 := taa9 (.slice q qn qc); unfold Ta at ty9
  have fx := PForm.bool p
  have fy := PForm.arr q qn qc
  have FX := hid fx; have FY := hid fy; clear fx fy
  go_enter Try.func44, Try.ntmps44
  go_wp2_with (first
    | (go_at_call_of 46 (Value.iface 4 (.bool p)); refine (asInt_any _ FX.out _).mono ?_; rintro e w2 ⟨rfl, hw⟩; rw [hw]; clear hw w2; unfold asIntOf)
    | (go_at_call_of 46 (Value.iface 52 (.slice q qn qc)); refine (asInt_any _ FY.out _).mono ?_; rintro e w2 ⟨rfl, hw⟩; rw [hw]; clear hw w2; unfold asIntOf)
    | (at_builtin; refine wpList_append_own_at _ rfl (.tmp 83) (.tmp 85) 51 rfl w.heap.size 53 i0 (.slice none 0 0) 1 24 Try.underlying51 hi hz0 hz1 hz2 rfl (by decide) (.slice none 0 0) 0 [] rfl (ownsRow_nil53 _ _) ⟨w.heap.size + 1, 0, none⟩ 1 1 [.slice (some ⟨w.heap.size, 0, none⟩) 1 1] rfl rfl (by have := cell_one_new (w.alloc (.cells #[.nilIface] 20)) (.slice (some ⟨w.heap.size, 0, none⟩) 1 1) 53; simpa using this) (one_slice _) len1 (by omega) (by simp; omega) ?_; intro v' w1 hown hgrow hnil hat; have OW := hid hown; have GR := hid hgrow; clear hown hgrow hnil hat))
  go_ret
  first | exact oneOr_none w | exact oneOr_one OW.out GR.out

set_option maxRecDepth 100000 in
set_option maxHeartbeats 1000000 in
theorem diff_bool_obj (p : Bool) (q : Option Nat) (w : World) : Calls Try.prog 44 #[.iface 4 (.bool p), .iface 72 (.map q), .bool false, .slice none 0 0] w (OneOr true w) := by
  obtain ⟨i0, hi, hz0, hz1, hz2⟩ := info_parts info53
  have tx4 := tab4 (.bool p); unfold Ta at tx4
  have tx3 := tab3 (.bool p); unfold Ta at tx3
  have tx74 := tab74 (.bool p); unfold Ta at tx74
  have tx75 := tab75 (.bool p); unfold Ta at tx75
  have tx21 := tab21 (.bool p); unfold Ta at tx21
  have tx2 := tab2 (.bool p); unfold Ta at tx2
  have tx76 := tab76 (.bool p); unfold Ta at tx76
  have tx5 := tab5 (.bool p); unfold Ta at tx5
  have tx77 := tab77 (.bool p); unfold Ta at tx77
  have tx78 := tab78 (.bool p); unfold Ta at tx78
  have tx79 := tab79 (.bool p); unfold Ta at tx79
  have tx82 := tab82 (.bool p); unfold Ta at tx82
  have tx22 := tab22 (.bool p); unfold Ta at tx22
  have tx9 := tab9 (.bool p); unfold Ta at tx9
  have tx52 := tab52 (.bool p); unfold Ta at tx52
  have tx72 := tab72 (.bool p); unfold Ta at tx72
  have ty4 := tao4 (.map q); unfold Ta at ty4
  have ty9 := tao9 (.map q); unfold Ta at ty9
  have fx := PForm.bool p
  have fy := PForm.obj q
  have FX := hid fx; have FY := hid fy; clear fx fy
  go_enter Try.func44, Try.ntmps44
  go_wp2_with (first
    | (go_at_call_of 46 (Value.iface 4 (.bool p)); refine (asInt_any _ FX.out _).mono ?_; rintro e w2 ⟨rfl, hw⟩; rw [hw]; clear hw w2; unfold asIntOf)
    | (go_at_call_of 46 (Value.iface 72 (.map q)); refine (asInt_any _ FY.out _).mono ?_; rintro e w2 ⟨rfl, hw⟩; rw [hw]; clear hw w2; unfold asIntOf)
    | (at_builtin; refine wpList_append_own_at _ rfl (.tmp 83) (.tmp 85) 51 rfl w.heap.size 53 i0 (.slice none 0 0) 1 24 Try.underlying51 hi hz0 hz1 hz2 rfl (by decide) (.slice none 0 0) 0 [] rfl (ownsRow_nil53 _ _) ⟨w.heap.size + 1, 0, none⟩ 1 1 [.slice (some ⟨w.heap.size, 0, none⟩) 1 1] rfl rfl (by have := cell_one_new (w.alloc (.cells #[.nilIface] 20)) (.slice (some ⟨w.heap.size, 0, none⟩) 1 1) 53; simpa using this) (one_slice _) len1 (by omega) (by simp; omega) ?_; intro v' w1 hown hgrow hnil hat; have OW := hid hown; have GR := hid hgrow; clear hown hgrow hnil hat))
  go_ret
  first | exact oneOr_none w | exact oneOr_one OW.out GR.out

set_option maxRecDepth 100000 in
set_option maxHeartbeats 1000000 in
theorem diff_int_null (p : Int) (w : World) : Calls Try.prog 44 #[.iface 2 (.int .i64 p), .nilIface, .bool false, .slice none 0 0] w (OneOr true w) := by
  obtain ⟨i0, hi, hz0, hz1, hz2⟩ := info_parts info53
  have tx4 := tai4 (.int .i64 p); unfold Ta at tx4
  have tx3 := tai3 (.int .i64 p); unfold Ta at tx3
  have tx74 := tai74 (.int .i64 p); unfold Ta at tx74
  have tx75 := tai75 (.int .i64 p); unfold Ta at tx75
  have tx21 := tai21 (.int .i64 p); unfold Ta at tx21
  have tx2 := tai2 (.int .i64 p); unfold Ta at tx2
  have tx76 := tai76 (.int .i64 p); unfold Ta at tx76
  have tx5 := tai5 (.int .i64 p); unfold Ta at tx5
  have tx77 := tai77 (.int .i64 p); unfold Ta at tx77
  have tx78 := tai78 (.int .i64 p); unfold Ta at tx78
  have tx79 := tai79 (.int .i64 p); unfold Ta at tx79
  have tx82 := tai82 (.int .i64 p); unfold Ta at tx82
  have tx22 := tai22 (.int .i64 p); unfold Ta at tx22
  have tx9 := tai9 (.int .i64 p); unfold Ta at tx9
  have tx52 := tai52 (.int .i64 p); unfold Ta at tx52
  have tx72 := tai72 (.int .i64 p); unfold Ta at tx72
  have ty4 := tan4; unfold Ta at ty4
  have ty9 := tan9; unfold Ta at ty9
  have fx := PForm.int p
  have fy := PForm.null
  have FX := hid fx; have FY := hid fy; clear fx fy
  go_enter Try.func44, Try.ntmps44
  go_wp2_with (first
    | (go_at_call_of 46 (Value.iface 2 (.int .i64 p)); refine (asInt_any _ FX.out _).mono ?_; rintro e w2 ⟨rfl, hw⟩; rw [hw]; clear hw w2; unfold asIntOf)
    | (go_at_call_of 46 (Value.nilIface); refine (asInt_any _ FY.out _).mono ?_; rintro e w2 ⟨rfl, hw⟩; rw [hw]; clear hw w2; unfold asIntOf)
    | (at_builtin; refine wpList_append_own_at _ rfl (.tmp 143) (.tmp 145) 51 rfl w.heap.size 53 i0 (.slice none 0 0) 1 24 Try.underlying51 hi hz0 hz1 hz2 rfl (by decide) (.slice none 0 0) 0 [] rfl (ownsRow_nil53 _ _) ⟨w.heap.size + 1, 0, none⟩ 1 1 [.slice (some ⟨w.heap.size, 0, none⟩) 1 1] rfl rfl (by have := cell_one_new (w.alloc (.cells #[.nilIface] 20)) (.slice (some ⟨w.heap.size, 0, none⟩) 1 1) 53; simpa using this) (one_slice _) len1 (by omega) (by simp; omega) ?_; intro v' w1 hown hgrow hnil hat; have OW := hid hown; have GR := hid hgrow; clear hown hgrow hnil hat))
  go_ret
  first | exact oneOr_none w | exact oneOr_one OW.out GR.out

set_option maxRecDepth 100000 in
set_option maxHeartbeats 1000000 in
theorem diff_int_bool (p : Int) (q : Bool) (w : World) : Calls Try.prog 44 #[.iface 2 (.int .i64 p), .iface 4 (.bool q), .bool false, .slice none 0 0] w (OneOr true w) := by
  obtain ⟨i0, hi, hz0, hz1, hz2⟩ := info_parts info53
  have tx4 := tai4 (.int .i64 p); unfold Ta at tx4
  have tx3 := tai3 (.int .i64 p); unfold Ta at tx3
  have tx74 := tai74 (.int .i64 p); unfold Ta at tx74
  have tx75 := tai75 (.int .i64 p); unfold Ta at tx75
  have tx21 := tai21 (.int .i64 p); unfold Ta at tx21
  have tx2 := tai2 (.int .i64 p); unfold Ta at tx2
  have tx76 := tai76 (.int .i64 p); unfold Ta at tx76
  have tx5 := tai5 (.int .i64 p); unfold Ta at tx5
  have tx77 := tai77 (.int .i64 p); unfold Ta at tx77
  have tx78 := tai78 (.int .i64 p); unfold Ta at tx78
  have tx79 := tai79 (.int .i64 p); unfold Ta at tx79
  have tx82 := tai82 (.int .i64 p); unfold Ta at tx82
  have tx22 := tai22 (.int .i64 p); unfold Ta at tx22
  have tx9 := tai9 (.int .i64 p); unfold Ta at tx9
  have tx52 := tai52 (.int .i64 p); unfold Ta at tx52
  have tx72 := tai72 (.int .i64 p); unfold Ta at tx72
  have ty4 := tab4 (.bool q); unfold Ta at ty4
  have ty9 := tab9 (.bool q); unfold Ta at ty9
  have fx := PForm.int p
  have fy := PForm.bool q
  have FX := hid fx; have FY := hid fy; clear fx fy
  go_enter Try.func44, Try.ntmps44
  go_wp2_with (first
    | (go_at_call_of 46 (Value.iface 2 (.int .i64 p)); refine (asInt_any _ FX.out _).mono ?_; rintro e w2 ⟨rfl, hw⟩; rw [hw]; clear hw w2; unfold asIntOf)
    | (go_at_call_of 46 (Value.iface 4 (.bool q)); refine (asInt_any _ FY.out _).mono ?_; rintro e w2 ⟨rfl, hw⟩; rw [hw]; clear hw w2; unfold asIntOf)
    | (at_builtin; refine wpList_append_own_at _ rfl (.tmp 143) (.tmp 145) 51 rfl w.heap.size 53 i0 (.slice none 0 0) 1 24 Try.underlying51 hi hz0 hz1 hz2 rfl (by decide) (.slice none 0 0) 0 [] rfl (ownsRow_nil53 _ _) ⟨w.heap.size + 1, 0, none⟩ 1 1 [.slice (some ⟨w.heap.size, 0, none⟩) 1 1] rfl rfl (by have := cell_one_new (w.alloc (.cells #[.nilIface] 20)) (.slice (some ⟨w.heap.size, 0, none⟩) 1 1) 53; simpa using this) (one_slice _) len1 (by omega) (by simp; omega) ?_; intro v' w1 hown hgrow hnil hat; have OW := hid hown; have GR := hid hgrow; clear hown hgrow hnil hat))
  go_ret
  first | exact oneOr_none w | exact oneOr_one OW.out GR.out

set_option maxRecDepth 100000 in
set_option maxHeartbeats 1000000 in
theorem diff_int_int_eq (p : Int) (q : Int) (h : (p == q) = true) (w : World) : Calls Try.prog 44 #[.iface 2 (.int .i64 p), .iface 2 (.int .i64 q), .bool false, .slice none 0 0] w (OneOr false w) := by
  obtain ⟨i0, hi, hz0, hz1, hz2⟩ := info_parts info53
  have tx4 := tai4 (.int .i64 p); unfold Ta at tx4
  have tx3 := tai3 (.int .i64 p); unfold Ta at tx3
  have tx74 := tai74 (.int .i64 p); unfold Ta at tx74
  have tx75 := tai75 (.int .i64 p); unfold Ta at tx75
  have tx21 := tai21 (.int .i64 p); unfold Ta at tx21
  have tx2 := tai2 (.int .i64 p); unfold Ta at tx2
  have tx76 := tai76 (.int .i64 p); unfold Ta at tx76
  have tx5 := tai5 (.int .i64 p); unfold Ta at tx5
  have tx77 := tai77 (.int .i64 p); unfold Ta at tx77
  have tx78 := tai78 (.int .i64 p); unfold Ta at tx78
  have tx79 := tai79 (.int .i64 p); unfold Ta at tx79
  have tx82 := tai82 (.int .i64 p); unfold Ta at tx82
  have tx22 := tai22 (.int .i64 p); unfold Ta at tx22
  have tx9 := tai9 (.int .i64 p); unfold Ta at tx9
  have tx52 := tai52 (.int .i64 p); unfold Ta at tx52
  have tx72 := tai72 (.int .i64 p); unfold Ta at tx72
  have ty4 := tai4 (.int .i64 q); unfold Ta at ty4
  have ty9 := tai9 (.int .i64 q); unfold Ta at ty9
  have fx := PForm.int p
  have fy := PForm.int q
  have FX := hid fx; have FY := hid fy; clear fx fy
  go_enter Try.func44, Try.ntmps44
  go_wp2_with (first
    | (go_at_call_of 46 (Value.iface 2 (.int .i64 p)); refine (asInt_any _ FX.out _).mono ?_; rintro e w2 ⟨rfl, hw⟩; rw [hw]; clear hw w2; unfold asIntOf)
    | (go_at_call_of 46 (Value.iface 2 (.int .i64 q)); refine (asInt_any _ FY.out _).mono ?_; rintro e w2 ⟨rfl, hw⟩; rw [hw]; clear hw w2; unfold asIntOf)
    | (at_builtin; refine wpList_append_own_at _ rfl (.tmp 143) (.tmp 145) 51 rfl w.heap.size 53 i0 (.slice none 0 0) 1 24 Try.underlying51 hi hz0 hz1 hz2 rfl (by decide) (.slice none 0 0) 0 [] rfl (ownsRow_nil53 _ _) ⟨w.heap.size + 1, 0, none⟩ 1 1 [.slice (some ⟨w.heap.size, 0, none⟩) 1 1] rfl rfl (by have := cell_one_new (w.alloc (.cells #[.nilIface] 20)) (.slice (some ⟨w.heap.size, 0, none⟩) 1 1) 53; simpa using this) (one_slice _) len1 (by omega) (by simp; omega) ?_; intro v' w1 hown hgrow hnil hat; have OW := hid hown; have GR := hid hgrow; clear hown hgrow hnil hat))
  go_ret
  first | exact oneOr_none w | exact oneOr_one OW.out GR.out

set_option maxRecDepth 100000 in
set_option maxHeartbeats 1000000 in
theorem diff_int_int_ne (p : Int) (q : Int) (h : (p == q) = false) (w : World) : Calls Try.prog 44 #[.iface 2 (.int .i64 p), .iface 2 (.int .i64 q), .bool false, .slice none 0 0] w (OneOr true w) := by
  obtain ⟨i0, hi, hz0, hz1, hz2⟩ := info_parts info53
  have tx4 := tai4 (.int .i64 p); unfold Ta at tx4
  have tx3 := tai3 (.int .i64 p); unfold Ta at tx3
  have tx74 := tai74 (.int .i64 p); unfold Ta at tx74
  have tx75 := tai75 (.int .i64 p); unfold Ta at tx75
  have tx21 := tai21 (.int .i64 p); unfold Ta at tx21
  have tx2 := tai2 (.int .i64 p); unfold Ta at tx2
  have tx76 := tai76 (.int .i64 p); unfold Ta at tx76
  have tx5 := tai5 (.int .i64 p); unfold Ta at tx5
  have tx77 := tai77 (.int .i64 p); unfold Ta at tx77
  have tx78 := tai78 (.int .i64 p); unfold Ta at tx78
  have tx79 := tai79 (.int .i64 p); unfold Ta at tx79
  have tx82 := tai82 (.int .i64 p); unfold Ta at tx82
  have tx22 := tai22 (.int .i64 p); unfold Ta at tx22
  have tx9 := tai9 (.int .i64 p); unfold Ta at tx9
  have tx52 := tai52 (.int .i64 p); unfold Ta at tx52
  have tx72 := tai72 (.int .i64 p); unfold Ta at tx72
  have ty4 := tai4 (.int .i64 q); unfold Ta at ty4
  have ty9 := tai9 (.int .i64 q); unfold Ta at ty9
  have fx := PForm.int p
  have fy := PForm.int q
  have FX := hid fx; have FY := hid fy; clear fx fy
  go_enter Try.func44, Try.ntmps44
  go_wp2_with (first
    | (go_at_call_of 46 (Value.iface 2 (.int .i64 p)); refine (asInt_any _ FX.out _).mono ?_; rintro e w2 ⟨rfl, hw⟩; rw [hw]; clear hw w2; unfold asIntOf)
    | (go_at_call_of 46 (Value.iface 2 (.int .i64 q)); refine (asInt_any _ FY.out _).mono ?_; rintro e w2 ⟨rfl, hw⟩; rw [hw]; clear hw w2; unfold asIntOf)
    | (at_builtin; refine wpList_append_own_at _ rfl (.tmp 143) (.tmp 145) 51 rfl w.heap.size 53 i0 (.slice none 0 0) 1 24 Try.underlying51 hi hz0 hz1 hz2 rfl (by decide) (.slice none 0 0) 0 [] rfl (ownsRow_nil53 _ _) ⟨w.heap.size + 1, 0, none⟩ 1 1 [.slice (some ⟨w.heap.size, 0, none⟩) 1 1] rfl rfl (by have := cell_one_new (w.alloc (.cells #[.nilIface] 20)) (.slice (some ⟨w.heap.size, 0, none⟩) 1 1) 53; simpa using this) (one_slice _) len1 (by omega) (by simp; omega) ?_; intro v' w1 hown hgrow hnil hat; have OW := hid hown; have GR := hid hgrow; clear hown hgrow hnil hat))
  go_ret
  first | exact oneOr_none w | exact oneOr_one OW.out GR.out

set_option maxRecDepth 100000 in
set_option maxHeartbeats 1000000 in
theorem diff_int_str (p : Int) (q : ByteArray) (w : World) : Calls Try.prog 44 #[.iface 2 (.int .i64 p), .iface 9 (.string q), .bool false, .slice none 0 0] w (OneOr true w) := by
  obtain ⟨i0, hi, hz0, hz1, hz2⟩ := info_parts info53
  have tx4 := tai4 (.int .i64 p); unfold Ta at tx4
  have tx3 := tai3 (.int .i64 p); unfold Ta at tx3
  have tx74 := tai74 (.int .i64 p); unfold Ta at tx74
  have tx75 := tai75 (.int .i64 p); unfold Ta at tx75
  have tx21 := tai21 (.int .i64 p); unfold Ta at tx21
  have tx2 := tai2 (.int .i64 p); unfold Ta at tx2
  have tx76 := tai76 (.int .i64 p); unfold Ta at tx76
  have tx5 := tai5 (.int .i64 p); unfold Ta at tx5
  have tx77 := tai77 (.int .i64 p); unfold Ta at tx77
  have tx78 := tai78 (.int .i64 p); unfold Ta at tx78
  have tx79 := tai79 (.int .i64 p); unfold Ta at tx79
  have tx82 := tai82 (.int .i64 p); unfold Ta at tx82
  have tx22 := tai22 (.int .i64 p); unfold Ta at tx22
  have tx9 := tai9 (.int .i64 p); unfold Ta at tx9
  have tx52 := tai52 (.int .i64 p); unfold Ta at tx52
  have tx72 := tai72 (.int .i64 p); unfold Ta at tx72
  have ty4 := tas4 (.string q); unfold Ta at ty4
  have ty9 := tas9 (.string q); unfold Ta at ty9
  have fx := PForm.int p
  have fy := PForm.str q
  have FX := hid fx; have FY := hid fy; clear fx fy
  go_enter Try.func44, Try.ntmps44
  go_wp2_with (first
    | (go_at_call_of 46 (Value.iface 2 (.int .i64 p)); refine (asInt_any _ FX.out _).mono ?_; rintro e w2 ⟨rfl, hw⟩; rw [hw]; clear hw w2; unfold asIntOf)
    | (go_at_call_of 46 (Value.iface 9 (.string q)); refine (asInt_any _ FY.out _).mono ?_; rintro e w2 ⟨rfl, hw⟩; rw [hw]; clear hw w2; unfold asIntOf)
    | (at_builtin; refine wpList_append_own_at _ rfl (.tmp 143) (.tmp 145) 51 rfl w.heap.size 53 i0 (.slice none 0 0) 1 24 Try.underlying51 hi hz0 hz1 hz2 rfl (by decide) (.slice none 0 0) 0 [] rfl (ownsRow_nil53 _ _) ⟨w.heap.size + 1, 0, none⟩ 1 1 [.slice (some ⟨w.heap.size, 0, none⟩) 1 1] rfl rfl (by have := cell_one_new (w.alloc (.cells #[.nilIface] 20)) (.slice (some ⟨w.heap.size, 0, none⟩) 1 1) 53; simpa using this) (one_slice _) len1 (by omega) (by simp; omega) ?_; intro v' w1 hown hgrow hnil hat; have OW := hid hown; have GR := hid hgrow; clear hown hgrow hnil hat))
  go_ret
  first | exact oneOr_none w | exact oneOr_one OW.out GR.out

set_option maxRecDepth 100000 in
set_option maxHeartbeats 1000000 in
theorem diff_int_arr (p : Int) (q : Option Addr) (qn qc : Nat) (w : World) : Calls Try.prog 44 #[.iface 2 (.int .i64 p), .iface 52 (.slice q qn qc), .bool false, .slice none 0 0] w (OneOr true w) := by
  obtain ⟨i0, hi, hz0, hz1, hz2⟩ := info_parts info53
  have tx4 := tai4 (.int .i64 p); unfold Ta at tx4
  have tx3 := tai3 (.int .i64 p); unfold Ta at tx3
  have tx74 := tai74 (.int .i64 p); unfold Ta at tx74
  have tx75 := tai75 (.int .i64 p); unfold Ta at tx75
  have tx21 := tai21 (.int .i64 p); unfold Ta at tx21
  have tx2 := tai2 (.int .i64 p); unfold Ta at tx2
  have tx76 := tai76 (.int .i64 p); unfold Ta at tx76
  have tx5 := tai5 (.int .i64 p); unfold Ta at tx5
  have tx77 := tai77 (.int .i64 p); unfold Ta at tx77
  have tx78 := tai78 (.int .i64 p); unfold Ta at tx78
  have tx79 := tai79 (.int .i64 p); unfold Ta at tx79
  have tx82 := tai82 (.int .i64 p); unfold Ta at tx82
  have tx22 := tai22 (.int .i64 p); unfold Ta at tx22
  have tx9 := tai9 (.int .i64 p); unfold Ta at tx9
  have tx52 := tai52 (.int .i64 p); unfold Ta at tx52
  have tx72 := tai72 (.int .i64 p); unfold Ta at tx72
  have ty4 := taa4 (.slice q qn qc); unfold Ta at ty4
  have ty9 := taa9 (.slice q qn qc); unfold Ta at ty9
  have fx := PForm.int p
  have fy := PForm.arr q qn qc
  have FX := hid fx; have FY := hid fy; clear fx fy
  go_enter Try.func44, Try.ntmps44
  go_wp2_with (first
    | (go_at_call_of 46 (Value.iface 2 (.int .i64 p)); refine (asInt_any _ FX.out _).mono ?_; rintro e w2 ⟨rfl, hw⟩; rw [hw]; clear hw w2; unfold asIntOf)
    | (go_at_call_of 46 (Value.iface 52 (.slice q qn qc)); refine (asInt_any _ FY.out _).mono ?_; rintro e w2 ⟨rfl, hw⟩; rw [hw]; clear hw w2; unfold asIntOf)
    | (at_builtin; refine wpList_append_own_at _ rfl (.tmp 143) (.tmp 145) 51 rfl w.heap.size 53 i0 (.slice none 0 0) 1 24 Try.underlying51 hi hz0 hz1 hz2 rfl (by decide) (.slice none 0 0) 0 [] rfl (ownsRow_nil53 _ _) ⟨w.heap.size + 1, 0, none⟩ 1 1 [.slice (some ⟨w.heap.size, 0, none⟩) 1 1] rfl rfl (by have := cell_one_new (w.alloc (.cells #[.nilIface] 20)) (.slice (some ⟨w.heap.size, 0, none⟩) 1 1) 53; simpa using this) (one_slice _) len1 (by omega) (by simp; omega) ?_; intro v' w1 hown hgrow hnil hat; have OW := hid hown; have GR := hid hgrow; clear hown hgrow hnil hat))
  go_ret
  first | exact oneOr_none w | exact oneOr_one OW.out GR.out

set_option maxRecDepth 100000 in
set_option maxHeartbeats 1000000 in
theorem diff_int_obj (p : Int) (q : Option Nat) (w : World) : Calls Try.prog 44 #[.iface 2 (.int .i64 p), .iface 72 (.map q), .bool false, .slice none 0 0] w (OneOr true w) := by
  obtain ⟨i0, hi, hz0, hz1, hz2⟩ := info_parts info53
  have tx4 := tai4 (.int .i64 p); unfold Ta at tx4
  have tx3 := tai3 (.int .i64 p); unfold Ta at tx3
  have tx74 := tai74 (.int .i64 p); unfold Ta at tx74
  have tx75 := tai75 (.int .i64 p); unfold Ta at tx75
  have tx21 := tai21 (.int .i64 p); unfold Ta at tx21
  have tx2 := tai2 (.int .i64 p); unfold Ta at tx2
  have tx76 := tai76 (.int .i64 p); unfold Ta at tx76
  have tx5 := tai5 (.int .i64 p); unfold Ta at tx5
  have tx77 := tai77 (.int .i64 p); unfold Ta at tx77
  have tx78 := tai78 (.int .i64 p); unfold Ta at tx78
  have tx79 := tai79 (.int .i64 p); unfold Ta at tx79
  have tx82 := tai82 (.int .i64 p); unfold Ta at tx82
  have tx22 := tai22 (.int .i64 p); unfold Ta at tx22
  have tx9 := tai9 (.int .i64 p); unfold Ta at tx9
  have tx52 := tai52 (.int .i64 p); unfold Ta at tx52
  have tx72 := tai72 (.int .i64 p); unfold Ta at tx72
  have ty4 := tao4 (.map q); unfold Ta at ty4
  have ty9 := tao9 (.map q); unfold Ta at ty9
  have fx := PForm.int p
  have fy := PForm.obj q
  have FX := hid fx; have FY := hid fy; clear fx fy
  go_enter Try.func44, Try.ntmps44
  go_wp2_with (first
    | (go_at_call_of 46 (Value.iface 2 (.int .i64 p)); refine (asInt_any _ FX.out _).mono ?_; rintro e w2 ⟨rfl, hw⟩; rw [hw]; clear hw w2; unfold asIntOf)
    | (go_at_call_of 46 (Value.iface 72 (.map q)); refine (asInt_any _ FY.out _).mono ?_; rintro e w2 ⟨rfl, hw⟩; rw [hw]; clear hw w2; unfold asIntOf)
    | (at_builtin; refine wpList_append_own_at _ rfl (.tmp 143) (.tmp 145) 51 rfl w.heap.size 53 i0 (.slice none 0 0) 1 24 Try.underlying51 hi hz0 hz1 hz2 rfl (by decide) (.slice none 0 0) 0 [] rfl (ownsRow_nil53 _ _) ⟨w.heap.size + 1, 0, none⟩ 1 1 [.slice (some ⟨w.heap.size, 0, none⟩) 1 1] rfl rfl (by have := cell_one_new (w.alloc (.cells #[.nilIface] 20)) (.slice (some ⟨w.heap.size, 0, none⟩) 1 1) 53; simpa using this) (one_slice _) len1 (by omega) (by simp; omega) ?_; intro v' w1 hown hgrow hnil hat; have OW := hid hown; have GR := hid hgrow; clear hown hgrow hnil hat))
  go_ret
  first | exact oneOr_none w | exact oneOr_one OW.out GR.out

set_option maxRecDepth 100000 in
set_option maxHeartbeats 1000000 in
theorem diff_str_null (p : ByteArray) (w : World) : Calls Try.prog 44 #[.iface 9 (.string p), .nilIface, .bool false, .slice none 0 0] w (OneOr true w) := by
  obtain ⟨i0, hi, hz0, hz1, hz2⟩ := info_parts info53
  have tx4 := tas4 (.string p); unfold Ta at tx4
  have tx3 := tas3 (.string p); unfold Ta at tx3
  have tx74 := tas74 (.string p); unfold Ta at tx74
  have tx75 := tas75 (.string p); unfold Ta at tx75
  have tx21 := tas21 (.string p); unfold Ta at tx21
  have tx2 := tas2 (.string p); unfold Ta at tx2
  have tx76 := tas76 (.string p); unfold Ta at tx76
  have tx5 := tas5 (.string p); unfold Ta at tx5
  have tx77 := tas77 (.string p); unfold Ta at tx77
  have tx78 := tas78 (.string p); unfold Ta at tx78
  have tx79 := tas79 (.string p); unfold Ta at tx79
  have tx82 := tas82 (.string p); unfold Ta at tx82
  have tx22 := tas22 (.string p); unfold Ta at tx22
  have tx9 := tas9 (.string p); unfold Ta at tx9
  have tx52 := tas52 (.string p); unfold Ta at tx52
  have tx72 := tas72 (.string p); unfold Ta at tx72
  have ty4 := tan4; unfold Ta at ty4
  have ty9 := tan9; unfold Ta at ty9
  have fx := PForm.str p
  have fy := PForm.null
  have FX := hid fx; have FY := hid fy; clear fx fy
  go_enter Try.func44, Try.ntmps44
  go_wp2_with (first
    | (go_at_call_of 46 (Value.iface 9 (.string p)); refine (asInt_any _ FX.out _).mono ?_; rintro e w2 ⟨rfl, hw⟩; rw [hw]; clear hw w2; unfold asIntOf)
    | (go_at_call_of 46 (Value.nilIface); refine (asInt_any _ FY.out _).mono ?_; rintro e w2 ⟨rfl, hw⟩; rw [hw]; clear hw w2; unfold asIntOf)
    | (at_builtin; refine wpList_append_own_at _ rfl (.tmp 190) (.tmp 192) 51 rfl w.heap.size 53 i0 (.slice none 0 0) 1 24 Try.underlying51 hi hz0 hz1 hz2 rfl (by decide) (.slice none 0 0) 0 [] rfl (ownsRow_nil53 _ _) ⟨w.heap.size + 1, 0, none⟩ 1 1 [.slice (some ⟨w.heap.size, 0, none⟩) 1 1] rfl rfl (by have := cell_one_new (w.alloc (.cells #[.nilIface] 20)) (.slice (some ⟨w.heap.size, 0, none⟩) 1 1) 53; simpa using this) (one_slice _) len1 (by omega) (by simp; omega) ?_; intro v' w1 hown hgrow hnil hat; have OW := hid hown; have GR := hid hgrow; clear hown hgrow hnil hat))
  go_ret
  first | exact oneOr_none w | exact oneOr_one OW.out GR.out

set_option maxRecDepth 100000 in
set_option maxHeartbeats 1000000 in
theorem diff_str_bool (p : ByteArray) (q : Bool) (w : World) : Calls Try.prog 44 #[.iface 9 (.string p), .iface 4 (.bool q), .bool false, .slice none 0 0] w (OneOr true w) := by
  obtain ⟨i0, hi, hz0, hz1, hz2⟩ := info_parts info53
  have tx4 := tas4 (.string p); unfold Ta at tx4
  have tx3 := tas3 (.string p); unfold Ta at tx3
  have tx74 := tas74 (.string p); unfold Ta at tx74
  have tx75 := tas75 (.string p); unfold Ta at tx75
  have tx21 := tas21 (.string p); unfold Ta at tx21
  have tx2 := tas2 (.string p); unfold Ta at tx2
  have tx76 := tas76 (.string p); unfold Ta at tx76
  have tx5 := tas5 (.string p); unfold Ta at tx5
  have tx77 := tas77 (.string p); unfold Ta at tx77
  have tx78 := tas78 (.string p); unfold Ta at tx78
  have tx79 := tas79 (.string p); unfold Ta at tx79
  have tx82 := tas82 (.string p); unfold Ta at tx82
  have tx22 := tas22 (.string p); unfold Ta at tx22
  have tx9 := tas9 (.string p); unfold Ta at tx9
  have tx52 := tas52 (.string p); unfold Ta at tx52
  have tx72 := tas72 (.string p); unfold Ta at tx72
  have ty4 := tab4 (.bool q); unfold Ta at ty4
  have ty9 := tab9 (.bool q); unfold Ta at ty9
  have fx := PForm.str p
  have fy := PForm.bool q
  have FX := hid fx; have FY := hid fy; clear fx fy
  go_enter Try.func44, Try.ntmps44
  go_wp2_with (first
    | (go_at_call_of 46 (Value.iface 9 (.string p)); refine (asInt_any _ FX.out _).mono ?_; rintro e w2 ⟨rfl, hw⟩; rw [hw]; clear hw w2; unfold asIntOf)
    | (go_at_call_of 46 (Value.iface 4 (.bool q)); refine (asInt_any _ FY.out _).mono ?_; rintro e w2 ⟨rfl, hw⟩; rw [hw]; clear hw w2; unfold asIntOf)
    | (at_builtin; refine wpList_append_own_at _ rfl (.tmp 190) (.tmp 192) 51 rfl w.heap.size 53 i0 (.slice none 0 0) 1 24 Try.underlying51 hi hz0 hz1 hz2 rfl (by decide) (.slice none 0 0) 0 [] rfl (ownsRow_nil53 _ _) ⟨w.heap.size + 1, 0, none⟩ 1 1 [.slice (some ⟨w.heap.size, 0, none⟩) 1 1] rfl rfl (by have := cell_one_new (w.alloc (.cells #[.nilIface] 20)) (.slice (some ⟨w.heap.size, 0, none⟩) 1 1) 53; simpa using this) (one_slice _) len1 (by omega) (by simp; omega) ?_; intro v' w1 hown hgrow hnil hat; have OW := hid hown; have GR := hid hgrow; clear hown hgrow hnil hat))
  go_ret
  first | exact oneOr_none w | exact oneOr_one OW.out GR.out

set_option maxRecDepth 100000 in
set_option maxHeartbeats 1000000 in
theorem diff_str_int (p : ByteArray) (q : Int) (w : World) : Calls Try.prog 44 #[.iface 9 (.string p), .iface 2 (.int .i64 q), .bool false, .slice none 0 0] w (OneOr true w) := by
  obtain ⟨i0, hi, hz0, hz1, hz2⟩ := info_parts info53
  have tx4 := tas4 (.string p); unfold Ta at tx4
  have tx3 := tas3 (.string p); unfold Ta at tx3
  have tx74 := tas74 (.string p); unfold Ta at tx74
  have tx75 := tas75 (.string p); unfold Ta at tx75
  have tx21 := tas21 (.string p); unfold Ta at tx21
  have tx2 := tas2 (.string p); unfold Ta at tx2
  have tx76 := tas76 (.string p); unfold Ta at tx76
  have tx5 := tas5 (.string p); unfold Ta at tx5
  have tx77 := tas77 (.string p); unfold Ta at tx77
  have tx78 := tas78 (.string p); unfold Ta at tx78
  have tx79 := tas79 (.string p); unfold Ta at tx79
  have tx82 := tas82 (.string p); unfold Ta at tx82
  have tx22 := tas22 (.string p); unfold Ta at tx22
  have tx9 := tas9 (.string p); unfold Ta at tx9
  have tx52 := tas52 (.string p); unfold Ta at tx52
  have tx72 := tas72 (.string p); unfold Ta at tx72
  have ty4 := tai4 (.int .i64 q); unfold Ta at ty4
  have ty9 := tai9 (.int .i64 q); unfold Ta at ty9
  have fx := PForm.str p
  have fy := PForm.int q
  have FX := hid fx; have FY := hid fy; clear fx fy
  go_enter Try.func44, Try.ntmps44
  go_wp2_with (first
    | (go_at_call_of 46 (Value.iface 9 (.string p)); refine (asInt_any _ FX.out _).mono ?_; rintro e w2 ⟨rfl, hw⟩; rw [hw]; clear hw w2; unfold asIntOf)
    | (go_at_call_of 46 (Value.iface 2 (.int .i64 q)); refine (asInt_any _ FY.out _).mono ?_; rintro e w2 ⟨rfl, hw⟩; rw [hw]; clear hw w2; unfold asIntOf)
    | (at_builtin; refine wpList_append_own_at _ rfl (.tmp 190) (.tmp 192) 51 rfl w.heap.size 53 i0 (.slice none 0 0) 1 24 Try.underlying51 hi hz0 hz1 hz2 rfl (by decide) (.slice none 0 0) 0 [] rfl (ownsRow_nil53 _ _) ⟨w.heap.size + 1, 0, none⟩ 1 1 [.slice (some ⟨w.heap.size, 0, none⟩) 1 1] rfl rfl (by have := cell_one_new (w.alloc (.cells #[.nilIface] 20)) (.slice (some ⟨w.heap.size, 0, none⟩) 1 1) 53; simpa using this) (one_slice _) len1 (by omega) (by simp; omega) ?_; intro v' w1 hown hgrow hnil hat; have OW := hid hown; have GR := hid hgrow; clear hown hgrow hnil hat))
  go_ret
  first | exact oneOr_none w | exact oneOr_one OW.out GR.out

set_option maxRecDepth 100000 in
set_option maxHeartbeats 1000000 in
theorem diff_str_str_eq (p : ByteArray) (q : ByteArray) (h : (p.toList == q.toList) = true) (w : World) : Calls Try.prog 44 #[.iface 9 (.string p), .iface 9 (.string q), .bool false, .slice none 0 0] w (OneOr false w) := by
  obtain ⟨i0, hi, hz0, hz1, hz2⟩ := info_parts info53
  have tx4 := tas4 (.string p); unfold Ta at tx4
  have tx3 := tas3 (.string p); unfold Ta at tx3
  have tx74 := tas74 (.string p); unfold Ta at tx74
  have tx75 := tas75 (.string p); unfold Ta at tx75
  have tx21 := tas21 (.string p); unfold Ta at tx21
  have tx2 := tas2 (.string p); unfold Ta at tx2
  have tx76 := tas76 (.string p); unfold Ta at tx76
  have tx5 := tas5 (.string p); unfold Ta at tx5
  have tx77 := tas77 (.string p); unfold Ta at tx77
  have tx78 := tas78 (.string p); unfold Ta at tx78
  have tx79 := tas79 (.string p); unfold Ta at tx79
  have tx82 := tas82 (.string p); unfold Ta at tx82
  have tx22 := tas22 (.string p); unfold Ta at tx22
  have tx9 := tas9 (.string p); unfold Ta at tx9
  have tx52 := tas52 (.string p); unfold Ta at tx52
  have tx72 := tas72 (.string p); unfold Ta at tx72
  have ty4 := tas4 (.string q); unfold Ta at ty4
  have ty9 := tas9 (.string q); unfold Ta at ty9
  have fx := PForm.str p
  have fy := PForm.str q
  have FX := hid fx; have FY := hid fy; clear fx fy
  go_enter Try.func44, Try.ntmps44
  go_wp2_with (first
    | (go_at_call_of 46 (Value.iface 9 (.string p)); refine (asInt_any _ FX.out _).mono ?_; rintro e w2 ⟨rfl, hw⟩; rw [hw]; clear hw w2; unfold asIntOf)
    | (go_at_call_of 46 (Value.iface 9 (.string q)); refine (asInt_any _ FY.out _).mono ?_; rintro e w2 ⟨rfl, hw⟩; rw [hw]; clear hw w2; unfold asIntOf)
    | (at_builtin; refine wpList_append_own_at _ rfl (.tmp 190) (.tmp 192) 51 rfl w.heap.size 53 i0 (.slice none 0 0) 1 24 Try.underlying51 hi hz0 hz1 hz2 rfl (by decide) (.slice none 0 0) 0 [] rfl (ownsRow_nil53 _ _) ⟨w.heap.size + 1, 0, none⟩ 1 1 [.slice (some ⟨w.heap.size, 0, none⟩) 1 1] rfl rfl (by have := cell_one_new (w.alloc (.cells #[.nilIface] 20)) (.slice (some ⟨w.heap.size, 0, none⟩) 1 1) 53; simpa using this) (one_slice _) len1 (by omega) (by simp; omega) ?_; intro v' w1 hown hgrow hnil hat; have OW := hid hown; have GR := hid hgrow; clear hown hgrow hnil hat))
  go_ret
  first | exact oneOr_none w | exact oneOr_one OW.out GR.out

set_option maxRecDepth 100000 in
set_option maxHeartbeats 1000000 in
theorem diff_str_str_ne (p : ByteArray) (q : ByteArray) (h : (p.toList == q.toList) = false) (w : World) : Calls Try.prog 44 #[.iface 9 (.string p), .iface 9 (.string q), .bool false, .slice none 0 0] w (OneOr true w) := by
  obtain ⟨i0, hi, hz0, hz1, hz2⟩ := info_parts info53
  have tx4 := tas4 (.string p); unfold Ta at tx4
  have tx3 := tas3 (.string p); unfold Ta at tx3
  have tx74 := tas74 (.string p); unfold Ta at tx74
  have tx75 := tas75 (.string p); unfold Ta at tx75
  have tx21 := tas21 (.string p); unfold Ta at tx21
  have tx2 := tas2 (.string p); unfold Ta at tx2
  have tx76 := tas76 (.string p); unfold Ta at tx76
  have tx5 := tas5 (.string p); unfold Ta at tx5
  have tx77 := tas77 (.string p); unfold Ta at tx77
  have tx78 := tas78 (.string p); unfold Ta at tx78
  have tx79 := tas79 (.string p); unfold Ta at tx79
  have tx82 := tas82 (.string p); unfold Ta at tx82
  have tx22 := tas22 (.string p); unfold Ta at tx22
  have tx9 := tas9 (.string p); unfold Ta at tx9
  have tx52 := tas52 (.string p); unfold Ta at tx52
  have tx72 := tas72 (.string p); unfold Ta at tx72
  have ty4 := tas4 (.string q); unfold Ta at ty4
  have ty9 := tas9 (.string q); unfold Ta at ty9
  have fx := PForm.str p
  have fy := PForm.str q
  have FX := hid fx; have FY := hid fy; clear fx fy
  go_enter Try.func44, Try.ntmps44
  go_wp2_with (first
    | (go_at_call_of 46 (Value.iface 9 (.string p)); refine (asInt_any _ FX.out _).mono ?_; rintro e w2 ⟨rfl, hw⟩; rw [hw]; clear hw w2; unfold asIntOf)
    | (go_at_call_of 46 (Value.iface 9 (.string q)); refine (asInt_any _ FY.out _).mono ?_; rintro e w2 ⟨rfl, hw⟩; rw [hw]; clear hw w2; unfold asIntOf)
    | (at_builtin; refine wpList_append_own_at _ rfl (.tmp 190) (.tmp 192) 51 rfl w.heap.size 53 i0 (.slice none 0 0) 1 24 Try.underlying51 hi hz0 hz1 hz2 rfl (by decide) (.slice none 0 0) 0 [] rfl (ownsRow_nil53 _ _) ⟨w.heap.size + 1, 0, none⟩ 1 1 [.slice (some ⟨w.heap.size, 0, none⟩) 1 1] rfl rfl (by have := cell_one_new (w.alloc (.cells #[.nilIface] 20)) (.slice (some ⟨w.heap.size, 0, none⟩) 1 1) 53; simpa using this) (one_slice _) len1 (by omega) (by simp; omega) ?_; intro v' w1 hown hgrow hnil hat; have OW := hid hown; have GR := hid hgrow; clear hown hgrow hnil hat))
  go_ret
  first | exact oneOr_none w | exact oneOr_one OW.out GR.out

set_option maxRecDepth 100000 in
set_option maxHeartbeats 1000000 in
theorem diff_str_arr (p : ByteArray) (q : Option Addr) (qn qc : Nat) (w : World) : Calls Try.prog 44 #[.iface 9 (.string p), .iface 52 (.slice q qn qc), .bool false, .slice none 0 0] w (OneOr true w) := by
  obtain ⟨i0, hi, hz0, hz1, hz2⟩ := info_parts info53
  have tx4 := tas4 (.string p); unfold Ta at tx4
  have tx3 := tas3 (.string p); unfold Ta at tx3
  have tx74 := tas74 (.string p); unfold Ta at tx74
  have tx75 := tas75 (.string p); unfold Ta at tx75
  have tx21 := tas21 (.string p); unfold Ta at tx21
  have tx2 := tas2 (.string p); unfold Ta at tx2
  have tx76 := tas76 (.string p); unfold Ta at tx76
  have tx5 := tas5 (.string p); unfold Ta at tx5
  have tx77 := tas77 (.string p); unfold Ta at tx77
  have tx78 := tas78 (.string p); unfold Ta at tx78
  have tx79 := tas79 (.string p); unfold Ta at tx79
  have tx82 := tas82 (.string p); unfold Ta at tx82
  have tx22 := tas22 (.string p); unfold Ta at tx22
  have tx9 := tas9 (.string p); unfold Ta at tx9
  have tx52 := tas52 (.string p); unfold Ta at tx52
  have tx72 := tas72 (.string p); unfold Ta at tx72
  have ty4 := taa4 (.slice q qn qc); unfold Ta at ty4
  have ty9 := taa9 (.slice q qn qc); unfold Ta at ty9
  have fx := PForm.str p
  have fy := PForm.arr q qn qc
  have FX := hid fx; have FY := hid fy; clear fx fy
  go_enter Try.func44, Try.ntmps44
  go_wp2_with (first
    | (go_at_call_of 46 (Value.iface 9 (.string p)); refine (asInt_any _ FX.out _).mono ?_; rintro e w2 ⟨rfl, hw⟩; rw [hw]; clear hw w2; unfold asIntOf)
    | (go_at_call_of 46 (Value.iface 52 (.slice q qn qc)); refine (asInt_any _ FY.out _).mono ?_; rintro e w2 ⟨rfl, hw⟩; rw [hw]; clear hw w2; unfold asIntOf)
    | (at_builtin; refine wpList_append_own_at _ rfl (.tmp 190) (.tmp 192) 51 rfl w.heap.size 53 i0 (.slice none 0 0) 1 24 Try.underlying51 hi hz0 hz1 hz2 rfl (by decide) (.slice none 0 0) 0 [] rfl (ownsRow_nil53 _ _) ⟨w.heap.size + 1, 0, none⟩ 1 1 [.slice (some ⟨w.heap.size, 0, none⟩) 1 1] rfl rfl (by have := cell_one_new (w.alloc (.cells #[.nilIface] 20)) (.slice (some ⟨w.heap.size, 0, none⟩) 1 1) 53; simpa using this) (one_slice _) len1 (by omega) (by simp; omega) ?_; intro v' w1 hown hgrow hnil hat; have OW := hid hown; have GR := hid hgrow; clear hown hgrow hnil hat))
  go_ret
  first | exact oneOr_none w | exact oneOr_one OW.out GR.out

set_option maxRecDepth 100000 in
set_option maxHeartbeats 1000000 in
theorem diff_str_obj (p : ByteArray) (q : Option Nat) (w : World) : Calls Try.prog 44 #[.iface 9 (.string p), .iface 72 (.map q), .bool false, .slice none 0 0] w (OneOr true w) := by
  obtain ⟨i0, hi, hz0, hz1, hz2⟩ := info_parts info53
  have tx4 := tas4 (.string p); unfold Ta at tx4
  have tx3 := tas3 (.string p); unfold Ta at tx3
  have tx74 := tas74 (.string p); unfold Ta at tx74
  have tx75 := tas75 (.string p); unfold Ta at tx75
  have tx21 := tas21 (.string p); unfold Ta at tx21
  have tx2 := tas2 (.string p); unfold Ta at tx2
  have tx76 := tas76 (.string p); unfold Ta at tx76
  have tx5 := tas5 (.string p); unfold Ta at tx5
  have tx77 := tas77 (.string p); unfold Ta at tx77
  have tx78 := tas78 (.string p); unfold Ta at tx78
  have tx79 := tas79 (.string p); unfold Ta at tx79
  have tx82 := tas82 (.string p); unfold Ta at tx82
  have tx22 := tas22 (.string p); unfold Ta at tx22
  have tx9 := tas9 (.string p); unfold Ta at tx9
  have tx52 := tas52 (.string p); unfold Ta at tx52
  have tx72 := tas72 (.string p); unfold Ta at tx72
  have ty4 := tao4 (.map q); unfold Ta at ty4
  have ty9 := tao9 (.map q); unfold Ta at ty9
  have fx := PForm.str p
  have fy := PForm.obj q
  have FX := hid fx; have FY := hid fy; clear fx fy
  go_enter Try.func44, Try.ntmps44
  go_wp2_with (first
    | (go_at_call_of 46 (Value.iface 9 (.string p)); refine (asInt_any _ FX.out _).mono ?_; rintro e w2 ⟨rfl, hw⟩; rw [hw]; clear hw w2; unfold asIntOf)
    | (go_at_call_of 46 (Value.iface 72 (.map q)); refine (asInt_any _ FY.out _).mono ?_; rintro e w2 ⟨rfl, hw⟩; rw [hw]; clear hw w2; unfold asIntOf)
    | (at_builtin; refine wpList_append_own_at _ rfl (.tmp 190) (.tmp 192) 51 rfl w.heap.size 53 i0 (.slice none 0 0) 1 24 Try.underlying51 hi hz0 hz1 hz2 rfl (by decide) (.slice none 0 0) 0 [] rfl (ownsRow_nil53 _ _) ⟨w.heap.size + 1, 0, none⟩ 1 1 [.slice (some ⟨w.heap.size, 0, none⟩) 1 1] rfl rfl (by have := cell_one_new (w.alloc (.cells #[.nilIface] 20)) (.slice (some ⟨w.heap.size, 0, none⟩) 1 1) 53; simpa using this) (one_slice _) len1 (by omega) (by simp; omega) ?_; intro v' w1 hown hgrow hnil hat; have OW := hid hown; have GR := hid hgrow; clear hown hgrow hnil hat))
  go_ret
  first | exact oneOr_none w | exact oneOr_one OW.out GR.out

end Go.Proofs.Ytclnpjelgdoloaa
