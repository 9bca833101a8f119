/- internal/strconv.readFloat: the exponent. -/
import Derived.Test.YtonnmongipaheaaGreatDoorRfEnd
namespace Go.Proofs.YtonnmongipaheaaGreatDoor
open Go.RowKit
set_option linter.unusedVariables false
set_option linter.unusedSimpArgs false


/-- The frame where the exponent is looked for. -/
def RfExpAt (s : ByteArray) (w0 : World) (a : Act) (w : World) : Prop :=
  w0 = w ∧ a.defers = [] ∧ a.tmps.size = 253 ∧ ∃ (m dp nm bs ec : Int) (ng tr hx us : Bool) (i : Nat), a.tmps.getD 0 undef = .string s ∧ a.tmps.getD 2 undef = .int .u64 m ∧ a.tmps.getD 3 undef = .int .i64 0 ∧ a.tmps.getD 4 undef = .bool ng ∧ a.tmps.getD 5 undef = .bool tr ∧ a.tmps.getD 6 undef = .bool hx ∧ a.tmps.getD 7 undef = .int .i64 (i : Int) ∧ a.tmps.getD 8 undef = .bool false ∧ a.tmps.getD 9 undef = .bool us ∧ a.tmps.getD 10 undef = .int .u64 bs ∧ a.tmps.getD 12 undef = .int .u8 ec ∧ a.tmps.getD 16 undef = .int .i64 nm ∧ a.tmps.getD 17 undef = .int .i64 dp ∧ i ≤ s.size ∧ U64 m ∧ -1000000 ≤ dp ∧ dp ≤ 1000000 ∧ 0 ≤ nm ∧ nm ≤ 1000000

noncomputable def rfExp : Code := (Tryz.f79.body.bind (restFrom 57)).getD .skip

set_option maxRecDepth 1000000 in
set_option maxHeartbeats 8000000 in
theorem rf_exp (s : ByteArray) (hs : s.size ≤ 100000) (w0 : World) (a : Act) (w : World) (h : RfExpAt s w0 a w) : rfExp.wp Tryz.prog (bodyPost Tryz.prog Tryz.f79 (ReadPost s w0)) a w := by
  obtain ⟨rfl, hde, hsi, m, dp, nm, bs, ec, ng, tr, hx, us, i, h0, h2, h3, h4, h5, h6, h7, h8, h9, h10, h12, h16, h17, hi, hm, hd1, hd2, hn1, hn2⟩ := h
  obtain ⟨g, hg, ha⟩ := act_out253 hde hsi
  have e0 := (hg 0).trans h0
  have e2 := (hg 2).trans h2
  have e3 := (hg 3).trans h3
  have e4 := (hg 4).trans h4
  have e5 := (hg 5).trans h5
  have e6 := (hg 6).trans h6
  have e7 := (hg 7).trans h7
  have e8 := (hg 8).trans h8
  have e9 := (hg 9).trans h9
  have e10 := (hg 10).trans h10
  have e12 := (hg 12).trans h12
  have e16 := (hg 16).trans h16
  have e17 := (hg 17).trans h17
  rw [ha, e0, e2, e3, e4, e5, e6, e7, e8, e9, e10, e12, e16, e17]
  clear hg h0 h2 h3 h4 h5 h6 h7 h8 h9 h10 h12 h16 h17 e0 e2 e3 e4 e5 e6 e7 e8 e9 e10 e12 e16 e17 ha hde hsi
  have HM := hide2 hm
  clear hm
  conv => arg 2; whnf
  go_upto_region 57 with (fail)
  rename_i K1 hK1 K2 hK2
  have HK1 : ∀ a' w', RfEndAt s w0 a' w' → K1 a' w' := fun a' w' h => hK1 a' w' (rf_end s hs w0 a' w' h)
  clear hK1
  have hb : (bs == 16) = true ∨ (bs == 16) = false := by cases (bs == 16) <;> simp
  by_cases hlt : i < s.size
  · obtain ⟨x, hx⟩ : ∃ x : Nat, (s[i]'hlt).toNat = x := ⟨_, rfl⟩
    have hlt' : decide (i < s.size) = true := by simpa using hlt
    by_cases hl : (lowerB (x : Int) == ec) = true
    · obtain ⟨i1, hi1⟩ : ∃ i1, i1 = i + 1 := ⟨_, rfl⟩
      have e1 : ((i : Nat) : Int) + 1 = ((i1 : Nat) : Int) := by omega
      by_cases h1 : i1 < s.size
      · have h1' : decide (s.size ≤ i1) = false := by simpa using h1
        obtain ⟨y, hy⟩ : ∃ y : Nat, (s[i1]'h1).toNat = y := ⟨_, rfl⟩
        obtain ⟨i2, hi2⟩ : ∃ i2, i2 = i1 + 1 := ⟨_, rfl⟩
        have e2 : ((i1 : Nat) : Int) + 1 = ((i2 : Nat) : Int) := by omega
        have hi2b : i2 ≤ s.size := by omega
        have hsg : (((y : Nat) : Int) == 43) = true ∨ ((((y : Nat) : Int) == 43) = false ∧ (((y : Nat) : Int) == 45) = true) ∨ ((((y : Nat) : Int) == 43) = false ∧ (((y : Nat) : Int) == 45) = false) := by
          by_cases h1 : y = 43
          · left; rw [beq_iff_eq]; omega
          · by_cases h2 : y = 45
            · right; left; exact ⟨by rw [beq_eq_false_iff_ne]; omega, by rw [beq_iff_eq]; omega⟩
            · right; right; exact ⟨by rw [beq_eq_false_iff_ne]; omega, by rw [beq_eq_false_iff_ne]; omega⟩
        clear hi1 hi2
        rcases hsg with g1 | ⟨g1, g2⟩ | ⟨g1, g2⟩
        · by_cases h3 : i2 < s.size
          · have h3' : decide (s.size ≤ i2) = false := by simpa using h3
            obtain ⟨z, hz⟩ : ∃ z : Nat, (s[i2]'h3).toNat = z := ⟨_, rfl⟩
            have k2 : decide (((z : Nat) : Int) < 48) = true ∨ (decide (((z : Nat) : Int) < 48) = false ∧ decide ((57 : Int) < ((z : Nat) : Int)) = true) ∨ (decide (((z : Nat) : Int) < 48) = false ∧ decide ((57 : Int) < ((z : Nat) : Int)) = false) := by
              by_cases h1 : z < 48
              · left; simp; omega
              · by_cases h2 : 57 < z
                · right; left; exact ⟨by simp; omega, by simp; omega⟩
                · right; right; exact ⟨by simp; omega, by simp; omega⟩
            rcases k2 with k2 | ⟨k2, k3⟩ | ⟨k2, k3⟩
            · go_wp2_with (go_at_call 92; refine (lower_any _ _).mono ?_; rintro u w9 ⟨rfl, rfl⟩)
              (refine bodyPost_ret (results_tmp7 rfl _ _ _) rfl ?_)
              exact ⟨_, _, _, _, _, i2, _, rfl, HM.out, by omega, by omega, by omega, rfl⟩
            · go_wp2_with (go_at_call 92; refine (lower_any _ _).mono ?_; rintro u w9 ⟨rfl, rfl⟩)
              (refine bodyPost_ret (results_tmp7 rfl _ _ _) rfl ?_)
              exact ⟨_, _, _, _, _, i2, _, rfl, HM.out, by omega, by omega, by omega, rfl⟩
            · go_wp2_with (go_at_call 92; refine (lower_any _ _).mono ?_; rintro u w9 ⟨rfl, rfl⟩)
              clear hz k2 k3
              go_loopg [7, 9, 20] (s.size - i2) (fun gg r us2 e wr3 => ∃ (i : Nat) (y : Int) (us3 : Bool), i + gg = s.size ∧ i ≤ s.size ∧ r = .int .i64 (i : Int) ∧ us2 = .bool us3 ∧ e = .int .i64 y ∧ 0 ≤ y ∧ y ≤ 99999 ∧ w0 = wr3)
              case atStart => exact ⟨i2, 0, us, by omega, by omega, rfl, rfl, rfl, by omega, by omega, rfl⟩
              case round =>
                obtain ⟨i, y, us3, hg3, hi3, rfl, rfl, rfl, hy0, hy1, rfl⟩ := hrel
                by_cases hi : i < s.size
                · obtain ⟨z, hz⟩ : ∃ z : Nat, (s[i]'hi).toNat = z := ⟨_, rfl⟩
                  have hi' : decide (i < s.size) = true := by simpa using hi
                  by_cases hz95 : z = 95
                  · subst hz95
                    go_wp2_with (fail)
                    go_roundg (s.size - (i + 1))
                    case measure => omega
                    case rel => exact ⟨i + 1, y, true, by omega, by omega, by go_num, rfl, rfl, hy0, hy1, by first | rfl | trivial⟩
                  · have k1 : (((z : Nat) : Int) == 95) = false := by rw [beq_eq_false_iff_ne]; omega
                    by_cases hzd : 48 ≤ z ∧ z ≤ 57
                    · have k2 : decide ((48 : Int) ≤ ((z : Nat) : Int)) = true := by simp; omega
                      have k3 : decide (((z : Nat) : Int) ≤ 57) = true := by simp; omega
                      obtain ⟨hz1, hz2⟩ := hzd
                      by_cases hy4 : y < 10000
                      · go_wp2_with (fail)
                        go_roundg (s.size - (i + 1))
                        case measure => omega
                        case rel => exact ⟨i + 1, y * 10 + z - 48, us3, by omega, by omega, by go_num, rfl, by go_num, by omega, by omega, by first | rfl | trivial⟩
                      · go_wp2_with (fail)
                        go_roundg (s.size - (i + 1))
                        case measure => omega
                        case rel => exact ⟨i + 1, y, us3, by omega, by omega, by go_num, rfl, rfl, hy0, hy1, by first | rfl | trivial⟩
                    · have k2 : decide ((48 : Int) ≤ ((z : Nat) : Int)) = false ∨ (decide ((48 : Int) ≤ ((z : Nat) : Int)) = true ∧ decide (((z : Nat) : Int) ≤ 57) = false) := by
                        by_cases h1 : 48 ≤ z
                        · right; exact ⟨by simp; omega, by simp; omega⟩
                        · left; simp; omega
                      rcases k2 with k2 | ⟨k2, k3⟩
                      all_goals
                        go_wp2_with (fail)
                        exact ⟨rfl, rfl, rfl, _, _, _, _, _, _, _, _, rfl, rfl, rfl, rfl, rfl, rfl, rfl, rfl, rfl, rfl, rfl, by omega, HM.out, by omega, by omega, by omega, by omega⟩
                · have hi' : decide (i < s.size) = false := by simpa using hi
                  go_wp2_with (fail)
                  exact ⟨rfl, rfl, rfl, _, _, _, _, _, _, _, _, rfl, rfl, rfl, rfl, rfl, rfl, rfl, rfl, rfl, rfl, rfl, by omega, HM.out, by omega, by omega, by omega, by omega⟩
          · have h3' : decide (s.size ≤ i2) = true := by simp; omega
            go_wp2_with (go_at_call 92; refine (lower_any _ _).mono ?_; rintro u w9 ⟨rfl, rfl⟩)
            (refine bodyPost_ret (results_tmp7 rfl _ _ _) rfl ?_)
            exact ⟨_, _, _, _, _, i2, _, rfl, HM.out, by omega, by omega, by omega, rfl⟩
        · by_cases h3 : i2 < s.size
          · have h3' : decide (s.size ≤ i2) = false := by simpa using h3
            obtain ⟨z, hz⟩ : ∃ z : Nat, (s[i2]'h3).toNat = z := ⟨_, rfl⟩
            have k2 : decide (((z : Nat) : Int) < 48) = true ∨ (decide (((z : Nat) : Int) < 48) = false ∧ decide ((57 : Int) < ((z : Nat) : Int)) = true) ∨ (decide (((z : Nat) : Int) < 48) = false ∧ decide ((57 : Int) < ((z : Nat) : Int)) = false) := by
              by_cases h1 : z < 48
              · left; simp; omega
              · by_cases h2 : 57 < z
                · right; left; exact ⟨by simp; omega, by simp; omega⟩
                · right; right; exact ⟨by simp; omega, by simp; omega⟩
            rcases k2 with k2 | ⟨k2, k3⟩ | ⟨k2, k3⟩
            · go_wp2_with (go_at_call 92; refine (lower_any _ _).mono ?_; rintro u w9 ⟨rfl, rfl⟩)
              (refine bodyPost_ret (results_tmp7 rfl _ _ _) rfl ?_)
              exact ⟨_, _, _, _, _, i2, _, rfl, HM.out, by omega, by omega, by omega, rfl⟩
            · go_wp2_with (go_at_call 92; refine (lower_any _ _).mono ?_; rintro u w9 ⟨rfl, rfl⟩)
              (refine bodyPost_ret (results_tmp7 rfl _ _ _) rfl ?_)
              exact ⟨_, _, _, _, _, i2, _, rfl, HM.out, by omega, by omega, by omega, rfl⟩
            · go_wp2_with (go_at_call 92; refine (lower_any _ _).mono ?_; rintro u w9 ⟨rfl, rfl⟩)
              clear hz k2 k3
              go_loopg [7, 9, 20] (s.size - i2) (fun gg r us2 e wr3 => ∃ (i : Nat) (y : Int) (us3 : Bool), i + gg = s.size ∧ i ≤ s.size ∧ r = .int .i64 (i : Int) ∧ us2 = .bool us3 ∧ e = .int .i64 y ∧ 0 ≤ y ∧ y ≤ 99999 ∧ w0 = wr3)
              case atStart => exact ⟨i2, 0, us, by omega, by omega, rfl, rfl, rfl, by omega, by omega, rfl⟩
              case round =>
                obtain ⟨i, y, us3, hg3, hi3, rfl, rfl, rfl, hy0, hy1, rfl⟩ := hrel
                by_cases hi : i < s.size
                · obtain ⟨z, hz⟩ : ∃ z : Nat, (s[i]'hi).toNat = z := ⟨_, rfl⟩
                  have hi' : decide (i < s.size) = true := by simpa using hi
                  by_cases hz95 : z = 95
                  · subst hz95
                    go_wp2_with (fail)
                    go_roundg (s.size - (i + 1))
                    case measure => omega
                    case rel => exact ⟨i + 1, y, true, by omega, by omega, by go_num, rfl, rfl, hy0, hy1, by first | rfl | trivial⟩
                  · have k1 : (((z : Nat) : Int) == 95) = false := by rw [beq_eq_false_iff_ne]; omega
                    by_cases hzd : 48 ≤ z ∧ z ≤ 57
                    · have k2 : decide ((48 : Int) ≤ ((z : Nat) : Int)) = true := by simp; omega
                      have k3 : decide (((z : Nat) : Int) ≤ 57) = true := by simp; omega
                      obtain ⟨hz1, hz2⟩ := hzd
                      by_cases hy4 : y < 10000
                      · go_wp2_with (fail)
                        go_roundg (s.size - (i + 1))
                        case measure => omega
                        case rel => exact ⟨i + 1, y * 10 + z - 48, us3, by omega, by omega, by go_num, rfl, by go_num, by omega, by omega, by first | rfl | trivial⟩
                      · go_wp2_with (fail)
                        go_roundg (s.size - (i + 1))
                        case measure => omega
                        case rel => exact ⟨i + 1, y, us3, by omega, by omega, by go_num, rfl, rfl, hy0, hy1, by first | rfl | trivial⟩
                    · have k2 : decide ((48 : Int) ≤ ((z : Nat) : Int)) = false ∨ (decide ((48 : Int) ≤ ((z : Nat) : Int)) = true ∧ decide (((z : Nat) : Int) ≤ 57) = false) := by
                        by_cases h1 : 48 ≤ z
                        · right; exact ⟨by simp; omega, by simp; omega⟩
                        · left; simp; omega
                      rcases k2 with k2 | ⟨k2, k3⟩
                      all_goals
                        go_wp2_with (fail)
                        exact ⟨rfl, rfl, rfl, _, _, _, _, _, _, _, _, rfl, rfl, rfl, rfl, rfl, rfl, rfl, rfl, rfl, rfl, rfl, by omega, HM.out, by omega, by omega, by omega, by omega⟩
                · have hi' : decide (i < s.size) = false := by simpa using hi
                  go_wp2_with (fail)
                  exact ⟨rfl, rfl, rfl, _, _, _, _, _, _, _, _, rfl, rfl, rfl, rfl, rfl, rfl, rfl, rfl, rfl, rfl, rfl, by omega, HM.out, by omega, by omega, by omega, by omega⟩
          · have h3' : decide (s.size ≤ i2) = true := by simp; omega
            go_wp2_with (go_at_call 92; refine (lower_any _ _).mono ?_; rintro u w9 ⟨rfl, rfl⟩)
            (refine bodyPost_ret (results_tmp7 rfl _ _ _) rfl ?_)
            exact ⟨_, _, _, _, _, i2, _, rfl, HM.out, by omega, by omega, by omega, rfl⟩
        · by_cases h3 : i1 < s.size
          · have h3' : decide (s.size ≤ i1) = false := by simpa using h3
            have k2 : decide (((y : Nat) : Int) < 48) = true ∨ (decide (((y : Nat) : Int) < 48) = false ∧ decide ((57 : Int) < ((y : Nat) : Int)) = true) ∨ (decide (((y : Nat) : Int) < 48) = false ∧ decide ((57 : Int) < ((y : Nat) : Int)) = false) := by
              by_cases h1 : y < 48
              · left; simp; omega
              · by_cases h2 : 57 < y
                · right; left; exact ⟨by simp; omega, by simp; omega⟩
                · right; right; exact ⟨by simp; omega, by simp; omega⟩
            rcases k2 with k2 | ⟨k2, k3⟩ | ⟨k2, k3⟩
            · go_wp2_with (go_at_call 92; refine (lower_any _ _).mono ?_; rintro u w9 ⟨rfl, rfl⟩)
              (refine bodyPost_ret (results_tmp7 rfl _ _ _) rfl ?_)
              exact ⟨_, _, _, _, _, i1, _, rfl, HM.out, by omega, by omega, by omega, rfl⟩
            · go_wp2_with (go_at_call 92; refine (lower_any _ _).mono ?_; rintro u w9 ⟨rfl, rfl⟩)
              (refine bodyPost_ret (results_tmp7 rfl _ _ _) rfl ?_)
              exact ⟨_, _, _, _, _, i1, _, rfl, HM.out, by omega, by omega, by omega, rfl⟩
            · go_wp2_with (go_at_call 92; refine (lower_any _ _).mono ?_; rintro u w9 ⟨rfl, rfl⟩)
              clear k2 k3
              go_loopg [7, 9, 20] (s.size - i1) (fun gg r us2 e wr3 => ∃ (i : Nat) (y : Int) (us3 : Bool), i + gg = s.size ∧ i ≤ s.size ∧ r = .int .i64 (i : Int) ∧ us2 = .bool us3 ∧ e = .int .i64 y ∧ 0 ≤ y ∧ y ≤ 99999 ∧ w0 = wr3)
              case atStart => exact ⟨i1, 0, us, by omega, by omega, rfl, rfl, rfl, by omega, by omega, rfl⟩
              case round =>
                obtain ⟨i, y, us3, hg3, hi3, rfl, rfl, rfl, hy0, hy1, rfl⟩ := hrel
                by_cases hi : i < s.size
                · obtain ⟨z, hz⟩ : ∃ z : Nat, (s[i]'hi).toNat = z := ⟨_, rfl⟩
                  have hi' : decide (i < s.size) = true := by simpa using hi
                  by_cases hz95 : z = 95
                  · subst hz95
                    go_wp2_with (fail)
                    go_roundg (s.size - (i + 1))
                    case measure => omega
                    case rel => exact ⟨i + 1, y, true, by omega, by omega, by go_num, rfl, rfl, hy0, hy1, by first | rfl | trivial⟩
                  · have k1 : (((z : Nat) : Int) == 95) = false := by rw [beq_eq_false_iff_ne]; omega
                    by_cases hzd : 48 ≤ z ∧ z ≤ 57
                    · have k2 : decide ((48 : Int) ≤ ((z : Nat) : Int)) = true := by simp; omega
                      have k3 : decide (((z : Nat) : Int) ≤ 57) = true := by simp; omega
                      obtain ⟨hz1, hz2⟩ := hzd
                      by_cases hy4 : y < 10000
                      · go_wp2_with (fail)
                        go_roundg (s.size - (i + 1))
                        case measure => omega
                        case rel => exact ⟨i + 1, y * 10 + z - 48, us3, by omega, by omega, by go_num, rfl, by go_num, by omega, by omega, by first | rfl | trivial⟩
                      · go_wp2_with (fail)
                        go_roundg (s.size - (i + 1))
                        case measure => omega
                        case rel => exact ⟨i + 1, y, us3, by omega, by omega, by go_num, rfl, rfl, hy0, hy1, by first | rfl | trivial⟩
                    · have k2 : decide ((48 : Int) ≤ ((z : Nat) : Int)) = false ∨ (decide ((48 : Int) ≤ ((z : Nat) : Int)) = true ∧ decide (((z : Nat) : Int) ≤ 57) = false) := by
                        by_cases h1 : 48 ≤ z
                        · right; exact ⟨by simp; omega, by simp; omega⟩
                        · left; simp; omega
                      rcases k2 with k2 | ⟨k2, k3⟩
                      all_goals
                        go_wp2_with (fail)
                        exact ⟨rfl, rfl, rfl, _, _, _, _, _, _, _, _, rfl, rfl, rfl, rfl, rfl, rfl, rfl, rfl, rfl, rfl, rfl, by omega, HM.out, by omega, by omega, by omega, by omega⟩
                · have hi' : decide (i < s.size) = false := by simpa using hi
                  go_wp2_with (fail)
                  exact ⟨rfl, rfl, rfl, _, _, _, _, _, _, _, _, rfl, rfl, rfl, rfl, rfl, rfl, rfl, rfl, rfl, rfl, rfl, by omega, HM.out, by omega, by omega, by omega, by omega⟩
          · exact absurd h1 h3
      · have h1' : decide (s.size ≤ i1) = true := by simp; omega
        have hi1b : i1 ≤ s.size := by omega
        clear hi1
        go_wp2_with (go_at_call 92; refine (lower_any _ _).mono ?_; rintro u w9 ⟨rfl, rfl⟩)
        (refine bodyPost_ret (results_tmp7 rfl _ _ _) rfl ?_)
        exact ⟨_, _, _, _, _, i1, _, rfl, HM.out, by omega, by omega, by omega, rfl⟩
    · have hl' : (lowerB (x : Int) == ec) = false := by simpa using hl
      clear hl
      rcases hb with hb | hb
      · go_wp2_with (go_at_call 92; refine (lower_any _ _).mono ?_; rintro u w9 ⟨rfl, rfl⟩)
        (refine bodyPost_ret (results_tmp7 rfl _ _ _) rfl ?_)
        exact ⟨_, _, _, _, _, i, _, rfl, HM.out, by omega, by omega, by omega, rfl⟩
      · go_wp2_with (go_at_call 92; refine (lower_any _ _).mono ?_; rintro u w9 ⟨rfl, rfl⟩)
        exact ⟨rfl, rfl, rfl, _, _, _, _, _, _, _, _, rfl, rfl, rfl, rfl, rfl, rfl, rfl, rfl, rfl, rfl, rfl, by omega, HM.out, by omega, by omega, by omega, by omega⟩
  · have hlt' : decide (i < s.size) = false := by simpa using hlt
    rcases hb with hb | hb
    · go_wp2_with (go_at_call 92; refine (lower_any _ _).mono ?_; rintro u w9 ⟨rfl, rfl⟩)
      (refine bodyPost_ret (results_tmp7 rfl _ _ _) rfl ?_)
      exact ⟨_, _, _, _, _, i, _, rfl, HM.out, by omega, by omega, by omega, rfl⟩
    · go_wp2_with (go_at_call 92; refine (lower_any _ _).mono ?_; rintro u w9 ⟨rfl, rfl⟩)
      exact ⟨rfl, rfl, rfl, _, _, _, _, _, _, _, _, rfl, rfl, rfl, rfl, rfl, rfl, rfl, rfl, rfl, rfl, rfl, by omega, HM.out, by omega, by omega, by omega, by omega⟩
end Go.Proofs.YtonnmongipaheaaGreatDoor
