/- internal/strconv.atofHex returns. -/
import Derived.Test.YtonnmongipaheaaGreatDoorScale
import Derived.LaidEqlPtr
namespace Go.Proofs.YtonnmongipaheaaGreatDoor
open Go.RowKit
set_option linter.unusedVariables false
set_option linter.unusedSimpArgs false

def half (m : Nat) : Nat := m / 2 ||| m % 2
theorem or_one_le (x : Nat) : x ||| 1 ≤ x + 1 := by
  have h := Nat.or_div_two (a := x) (b := 1)
  have h2 : x / 2 ||| 1 / 2 = x / 2 := by simp
  rw [h2] at h
  omega
theorem half_lt {m : Nat} (h : 2 ≤ m) : half m < m := by
  unfold half
  rcases Nat.mod_two_eq_zero_or_one m with e | e
  · rw [e, Nat.or_zero]; omega
  · rw [e]
    have := or_one_le (m / 2)
    omega
theorem half_bits {m : Nat} (h : m ≤ 18446744073709551615) : bits .or .u64 ((m : Int) / 2) (bits .and .u64 (m : Int) 1) = ((half m : Nat) : Int) := by
  have h1 := bits_and_u64_nat m 1 (by omega) (by omega)
  rw [Nat.and_one_is_mod] at h1
  have e1 : ((1 : Nat) : Int) = 1 := rfl
  rw [e1] at h1
  rw [h1]
  have e2 : (m : Int) / 2 = ((m / 2 : Nat) : Int) := by omega
  rw [e2, bits_or_u64_nat _ _ (by omega) (by omega)]
  rfl
theorem or1_bits {m : Nat} (h : m ≤ 18446744073709551615) : ∃ m1 : Nat, bits .or .u64 (m : Int) 1 = (m1 : Int) ∧ m1 ≤ 18446744073709551615 := by
  refine ⟨m ||| 1, bits_or_u64_nat m 1 (by omega) (by omega), ?_⟩
  have : m ||| 1 < 2 ^ 64 := Nat.or_lt_two_pow (by omega) (by omega)
  omega

set_option maxRecDepth 1000000 in
theorem act_out192 {a : Act} (hd : a.defers = []) (hs : a.tmps.size = 192) : ∃ g : Nat → Value, (∀ k, g k = a.tmps.getD k undef) ∧ a = ⟨#[g 0, g 1, g 2, g 3, g 4, g 5, g 6, g 7, g 8, g 9, g 10, g 11, g 12, g 13, g 14, g 15, g 16, g 17, g 18, g 19, g 20, g 21, g 22, g 23, g 24, g 25, g 26, g 27, g 28, g 29, g 30, g 31, g 32, g 33, g 34, g 35, g 36, g 37, g 38, g 39, g 40, g 41, g 42, g 43, g 44, g 45, g 46, g 47, g 48, g 49, g 50, g 51, g 52, g 53, g 54, g 55, g 56, g 57, g 58, g 59, g 60, g 61, g 62, g 63, g 64, g 65, g 66, g 67, g 68, g 69, g 70, g 71, g 72, g 73, g 74, g 75, g 76, g 77, g 78, g 79, g 80, g 81, g 82, g 83, g 84, g 85, g 86, g 87, g 88, g 89, g 90, g 91, g 92, g 93, g 94, g 95, g 96, g 97, g 98, g 99, g 100, g 101, g 102, g 103, g 104, g 105, g 106, g 107, g 108, g 109, g 110, g 111, g 112, g 113, g 114, g 115, g 116, g 117, g 118, g 119, g 120, g 121, g 122, g 123, g 124, g 125, g 126, g 127, g 128, g 129, g 130, g 131, g 132, g 133, g 134, g 135, g 136, g 137, g 138, g 139, g 140, g 141, g 142, g 143, g 144, g 145, g 146, g 147, g 148, g 149, g 150, g 151, g 152, g 153, g 154, g 155, g 156, g 157, g 158, g 159, g 160, g 161, g 162, g 163, g 164, g 165, g 166, g 167, g 168, g 169, g 170, g 171, g 172, g 173, g 174, g 175, g 176, g 177, g 178, g 179, g 180, g 181, g 182, g 183, g 184, g 185, g 186, g 187, g 188, g 189, g 190, g 191], []⟩ := by
  obtain ⟨g, hg⟩ : ∃ g : Nat → Value, ∀ k, g k = a.tmps.getD k undef := ⟨_, fun _ => rfl⟩
  refine ⟨g, hg, ?_⟩
  have h := range_getD undef a.tmps.toList
  cases a with
  | mk t d =>
    subst hd
    simp only at hs h ⊢
    congr 1
    apply Array.toList_inj.1
    rw [h, Array.length_toList, hs]
    have e : (List.range 192).map (fun i => t.toList.getD i undef) = (List.range 192).map g := by
      apply List.map_congr_left
      intro i _
      rw [hg]
      simp [List.getD_eq_getElem?_getD, Array.getD_eq_getD_getElem?]
    rw [e]
    show @Eq (List Value) _ _
    kernel_rfl

/-- The frame behind the loops of atofHex. -/
def HexAt (w0 : World) (a : Act) (w : World) : Prop :=
  a.defers = [] ∧ a.tmps.size = 192 ∧ (∃ q, w = w0.drewN q) ∧ ∃ (m e : Int) (ng : Bool), a.tmps.getD 1 undef = .pointer (some ⟨5, 0, none⟩) ∧ a.tmps.getD 2 undef = .int .u64 m ∧ a.tmps.getD 3 undef = .int .i64 e ∧ a.tmps.getD 4 undef = .bool ng ∧ a.tmps.getD 14 undef = .int .i64 1023

noncomputable def hexRest : Code := (Tryz.f80.body.bind (restFrom 15)).getD .skip

set_option maxRecDepth 1000000 in
set_option maxHeartbeats 8000000 in
theorem hex_rest (B : Nat) (w0 : World) (hT : Tab B w0) (a : Act) (w : World) (h : HexAt w0 a w) : hexRest.wp Tryz.prog (bodyPost Tryz.prog Tryz.f80 (fun x w' => FloatErr x ∧ ∃ q, w' = w0.drewN q)) a w := by
  obtain ⟨hde, hsi, ⟨q, rfl⟩, m, e, ng, h1, h2, h3, h4, h14⟩ := h
  obtain ⟨g, hg, ha⟩ := act_out192 hde hsi
  have e1 := (hg 1).trans h1
  have e2 := (hg 2).trans h2
  have e3 := (hg 3).trans h3
  have e4 := (hg 4).trans h4
  have e14 := (hg 14).trans h14
  rw [ha, e1, e2, e3, e4, e14]
  have hfb := frombits64
  have s0 := hT.inf0
  have s1 := hT.inf1
  have s2 := hT.inf2
  obtain ⟨c5, t5, b5⟩ := hT.blk 5 (.inr rfl)
  obtain ⟨c3, t3, b3⟩ := hT.blk 3 (.inl rfl)
  obtain ⟨j, hj, hjs⟩ := Option.map_eq_some_iff.1 (show (Tryz.prog.info? 119).map (·.size) = some 3 by kernel_rfl)
  have hpe : ∀ n : Nat, (binOp .eql 117 (.pointer (some ⟨5, 0, none⟩)) (.pointer (some ⟨3, 0, none⟩))).run Tryz.prog (w0.drewN n) = .ok (.bool false) (w0.drewN n) := fun n =>
    run_eql_ptr_other (P := Tryz.prog) (w0.drewN n) Tryz.underlying117 hj (by rw [hjs]; decide) (by simp) b5 b3
  clear hg h1 h2 h3 h4 h14 e1 e2 e3 e4 e14 ha hde hsi hT b5 b3 hj hjs
  conv => arg 2; whnf
  cases ng
  · go_wp2_with (fail)
    all_goals go_quiet (fail)
    all_goals go_wp2_with (fail)
    all_goals go_ret2
    all_goals first
      | exact ⟨⟨_, _, rfl, .inl rfl⟩, _, rfl⟩
      | exact ⟨⟨_, _, rfl, .inr (.inl rfl)⟩, _, rfl⟩
  · go_wp2_with (fail)
    all_goals go_quiet (fail)
    all_goals go_wp2_with (fail)
    all_goals go_quiet (fail)
    all_goals go_wp2_with (fail)
    all_goals go_ret2
    all_goals first
      | exact ⟨⟨_, _, rfl, .inl rfl⟩, _, rfl⟩
      | exact ⟨⟨_, _, rfl, .inr (.inl rfl)⟩, _, rfl⟩

set_option maxRecDepth 100000 in
set_option maxHeartbeats 4000000 in
theorem hex_any (B : Nat) (w : World) (s : ByteArray) (m : Nat) (e : Int) (ng tr : Bool) (hT : Tab B w) (hm : m ≤ 18446744073709551615) :
    Calls Tryz.prog 80 #[.string s, .pointer (some ⟨5, 0, none⟩), .int .u64 m, .int .i64 e, .bool ng, .bool tr] w (fun x w' => FloatErr x ∧ ∃ q, w' = w.drewN q) := by
  have hfb := frombits64
  have s0 := hT.inf0
  have s1 := hT.inf1
  have s2 := hT.inf2
  have HT := hide hT
  clear hT
  go_enter Tryz.func80, Tryz.ntmps80
  go_wp2_with (fail)
  go_quiet (fail)
  go_wp2_with (fail)
  go_loopg [2, 3] 18014398509481984 (fun g mm ee wr => ∃ (m : Nat) (e : Int) (q : Nat), mm = .int .u64 (m : Int) ∧ ee = .int .i64 e ∧ m ≤ 18446744073709551615 ∧ 18014398509481984 ≤ m + g ∧ w.drewN q = wr)
  case atStart => exact ⟨m, _, _, rfl, rfl, hm, by omega, rfl⟩
  case round =>
    clear hm
    obtain ⟨m, e, q, rfl, rfl, hm, hg, rfl⟩ := hrel
    by_cases hc : m ≠ 0 ∧ m < 18014398509481984
    · obtain ⟨hc0, hc1⟩ := hc
      have k0 : (((m : Nat) : Int) != 0) = true := by rw [bne_iff_ne]; omega
      have k1 : (((m : Nat) : Int) / 18014398509481984 == 0) = true := by rw [beq_iff_eq]; omega
      go_wp2_with (fail)
      go_roundg (gk - m)
      case measure => omega
      case rel => exact ⟨m * 2, _, _, by go_num, rfl, by omega, by omega, rfl⟩
    · have kk : ((((m : Nat) : Int) != 0) = false) ∨ ((((m : Nat) : Int) != 0) = true ∧ (((m : Nat) : Int) / 18014398509481984 == 0) = false) := by
        by_cases h0 : m = 0
        · left; subst h0; rfl
        · right; exact ⟨by rw [bne_iff_ne]; omega, by rw [beq_eq_false_iff_ne]; omega⟩
      obtain ⟨m1, o1, o2⟩ := or1_bits hm
      clear hc hg
      rcases kk with k0 | ⟨k0, k1⟩
      all_goals cases tr
      all_goals
        go_wp2_with (fail)
        go_loopg [2, 3] 18446744073709551616 (fun g mm ee wr => ∃ (m : Nat) (e : Int) (q : Nat), mm = .int .u64 (m : Int) ∧ ee = .int .i64 e ∧ m ≤ 18446744073709551615 ∧ m < g ∧ w.drewN q = wr)
        case atStart => first | exact ⟨m, _, _, rfl, rfl, hm, by omega, rfl⟩ | exact ⟨m1, _, _, rfl, rfl, o2, by omega, rfl⟩
        case round =>
          clear o1 o2 hm
          obtain ⟨m, e, q, rfl, rfl, hm, hg, rfl⟩ := hrel
          have hb := half_bits hm
          obtain ⟨h, hh⟩ : ∃ h, h = half m := ⟨_, rfl⟩
          rw [← hh] at hb
          by_cases hc : 36028797018963968 ≤ m
          · have k0 : (((m : Nat) : Int) / 36028797018963968 != 0) = true := by rw [bne_iff_ne]; omega
            have HL : Hid (h < m) := hide (by rw [hh]; exact half_lt (by omega))
            clear hh
            go_wp2_with (fail)
            go_roundg m
            case measure => omega
            case rel => exact ⟨h, _, _, rfl, rfl, by have := HL.out; omega, HL.out, rfl⟩
          · have k0 : (((m : Nat) : Int) / 36028797018963968 != 0) = false := by simp only [bne_eq_false_iff_eq]; omega
            clear hh hb
            go_wp2_with (fail)
            rename_i K hK
            have HK : ∀ a' w', HexAt w a' w' → K a' w' := fun a' w' h => hK a' w' (hex_rest B w HT.out a' w' h)
            clear hK
            go_loopg [2, 3] 18446744073709551616 (fun g mm ee wr => ∃ (m : Nat) (e : Int) (q : Nat), mm = .int .u64 (m : Int) ∧ ee = .int .i64 e ∧ m ≤ 18446744073709551615 ∧ m < g ∧ w.drewN q = wr)
            case atStart => exact ⟨m, _, _, rfl, rfl, hm, by omega, rfl⟩
            case round =>
              clear hm hg hc k0
              obtain ⟨m, e, q, rfl, rfl, hm, hg, rfl⟩ := hrel
              have hb := half_bits hm
              obtain ⟨h, hh⟩ : ∃ h, h = half m := ⟨_, rfl⟩
              rw [← hh] at hb
              by_cases hc : 1 < m ∧ e < -1024
              · obtain ⟨hc1, hc2⟩ := hc
                have k0 : decide (1 < m) = true := by simpa using hc1
                have k0' : decide ((1 : Int) < ((m : Nat) : Int)) = true := by simp; omega
                have k1 : decide (e < -1024) = true := by simpa using hc2
                have HL : Hid (h < m) := hide (by rw [hh]; exact half_lt (by omega))
                clear hh
                go_wp2_with (fail)
                go_roundg m
                case measure => omega
                case rel => exact ⟨h, _, _, rfl, rfl, by have := HL.out; omega, HL.out, rfl⟩
              · have kk : (decide ((1 : Int) < ((m : Nat) : Int)) = false) ∨ (decide ((1 : Int) < ((m : Nat) : Int)) = true ∧ decide (e < -1024) = false) := by
                  by_cases h1 : 1 < m
                  · right; exact ⟨by simp; omega, by simp; omega⟩
                  · left; simp; omega
                clear hh hb hc hg
                rcases kk with k0 | ⟨k0, k1⟩
                all_goals
                  go_wp2_with (fail)
                  exact ⟨rfl, rfl, ⟨_, rfl⟩, _, _, _, rfl, rfl, rfl, rfl, rfl⟩
end Go.Proofs.YtonnmongipaheaaGreatDoor
