/- internal/strconv.readFloat at a text without digits. -/
import Derived.Test.YtonnmongipaheaaGreatDoorRfRest
namespace Go.Proofs.YtonnmongipaheaaGreatDoor
open Go.RowKit
set_option linter.unusedVariables false
set_option linter.unusedSimpArgs false

def NoDig (s : ByteArray) : Prop := ∀ i, i < s.size → (byteAt s i < 48 ∨ 57 < byteAt s i) ∧ byteAt s i ≠ 110 ∧ byteAt s i ≠ 78

def ReadNone (w : World) (x : Ending) (w' : World) : Prop :=
  (∃ (m e : Int) (ng tr hx : Bool) (n : Int), x = .returned (.tuple #[.int .u64 m, .int .i64 e, .bool ng, .bool tr, .bool hx, .int .i64 n, .bool false])) ∧ w = w'

set_option maxRecDepth 1000000 in
set_option maxHeartbeats 4000000 in
theorem read_none (s : ByteArray) (w : World) (hs : s.size ≤ 100000) (h : NoDig s) : Calls Tryz.prog 79 #[.string s] w (ReadNone w) := by
  have HN := hide2 h
  clear h
  by_cases hn0 : s.size = 0
  · have hn0' : ((s.size : Nat) : Int) = 0 := by omega
    go_enter Tryz.func79, Tryz.ntmps79
    go_wp2_with (fail)
    refine wp_scope_same (fun _ _ _ h => h) ?_
    go_wp2_with (fail)
    (refine bodyPost_ret (results_tmp7 rfl _ _ _) rfl ?_)
    exact ⟨⟨_, _, _, _, _, _, rfl⟩, rfl⟩
  · have h0 : 0 < s.size := by omega
    have hn1 : (1 : Int) ≤ ((s.size : Nat) : Int) := by omega
    obtain ⟨x0, hx0⟩ : ∃ x, byteAt s 0 = x := ⟨_, rfl⟩
    have hx0' : (s[0]'h0).toNat = x0 := (byteAt_eq h0).trans hx0
    have hd0 := (HN.out 0 h0).1
    rw [hx0] at hd0
    have hsg : (((x0 : Nat) : Int) == 43) = true ∨ ((((x0 : Nat) : Int) == 43) = false ∧ (((x0 : Nat) : Int) == 45) = true) ∨ ((((x0 : Nat) : Int) == 43) = false ∧ (((x0 : Nat) : Int) == 45) = false) := by
      by_cases h1 : x0 = 43
      · left; rw [beq_iff_eq]; omega
      · by_cases h2 : x0 = 45
        · right; left; exact ⟨by rw [beq_eq_false_iff_ne]; omega, by rw [beq_iff_eq]; omega⟩
        · right; right; exact ⟨by rw [beq_eq_false_iff_ne]; omega, by rw [beq_eq_false_iff_ne]; omega⟩
    have h48 : (((x0 : Nat) : Int) == 48) = false := by rw [beq_eq_false_iff_ne]; omega
    clear hx0 hd0
    rcases hsg with g1 | ⟨g1, g2⟩ | ⟨g1, g2⟩
    · by_cases h1s : s.size = 1
      · have hsz : ((s.size : Nat) : Int) = 1 := by omega
        go_enter Tryz.func79, Tryz.ntmps79
        go_wp2_with (fail)
        refine wp_scope_same (fun _ _ _ h => h) ?_
        go_wp2_with (go_at_call 92; refine (lower_any _ _).mono ?_; rintro u w9 ⟨rfl, rfl⟩)
        go_step3
        go_wp2_with (fail)
        refine wp_loop_rounds 1 ?_
        rw [rounds_succ]
        go_wp2_with (fail)
        (refine bodyPost_ret (results_tmp7 rfl _ _ _) rfl ?_)
        exact ⟨⟨_, _, _, _, _, _, rfl⟩, rfl⟩
      have h1t : 1 < s.size := by omega
      obtain ⟨y0, hy0⟩ : ∃ y, byteAt s 1 = y := ⟨_, rfl⟩
      have hy0' : (s[1]'h1t).toNat = y0 := (byteAt_eq h1t).trans hy0
      have hdy := (HN.out 1 h1t).1
      rw [hy0] at hdy
      have hy48 : (((y0 : Nat) : Int) == 48) = false := by rw [beq_eq_false_iff_ne]; omega
      clear hy0 hdy
      have h2s : decide ((3 : Int) < ((s.size : Nat) : Int)) = true ∨ decide ((3 : Int) < ((s.size : Nat) : Int)) = false := by cases decide ((3 : Int) < ((s.size : Nat) : Int)) <;> simp
      go_enter Tryz.func79, Tryz.ntmps79
      go_wp2_with (fail)
      refine wp_scope_same (fun _ _ _ h => h) ?_
      rcases h2s with h2 | h2
      all_goals go_wp2_with (go_at_call 92; refine (lower_any _ _).mono ?_; rintro u w9 ⟨rfl, rfl⟩)
      all_goals
        go_step3
        go_wp2_with (fail)
        go_loopg [2, 5, 7, 9, 13, 14, 15, 16, 17] (s.size - 1) (fun gg mm t5 r u9 sd sg n15 n16 d17 wr2 => ∃ (i : Nat) (m : Int) (tr us b13 : Bool) (nd nm dp : Int), i + gg = s.size ∧ i ≤ s.size ∧ mm = .int .u64 m ∧ t5 = .bool tr ∧ r = .int .i64 (i : Int) ∧ u9 = .bool us ∧ sd = .bool b13 ∧ sg = .bool false ∧ n15 = .int .i64 nd ∧ n16 = .int .i64 nm ∧ d17 = .int .i64 dp ∧ w = wr2)
        case atStart => exact ⟨1, _, _, _, _, _, _, _, by omega, by omega, rfl, rfl, rfl, rfl, rfl, rfl, rfl, rfl, rfl, rfl⟩
        case round =>
          obtain ⟨i, m, tr, us, b13, nd, nm, dp, hg, hi, rfl, rfl, rfl, rfl, rfl, rfl, rfl, rfl, rfl, rfl⟩ := hrel
          by_cases hlt : i < s.size
          · obtain ⟨x, hx⟩ : ∃ x, byteAt s i = x := ⟨_, rfl⟩
            have hx' : (s[i]'hlt).toNat = x := (byteAt_eq hlt).trans hx
            have hd := (HN.out i hlt).1
            rw [hx] at hd
            have hlt' : decide (i < s.size) = true := by simpa using hlt
            have k3 : decide ((48 : Int) ≤ ((x : Nat) : Int)) = false ∨ (decide ((48 : Int) ≤ ((x : Nat) : Int)) = true ∧ decide (((x : Nat) : Int) ≤ 57) = false) := by
              by_cases h1 : 48 ≤ x
              · right; exact ⟨by simp; omega, by simp; omega⟩
              · left; simp; omega
            clear hx hd
            by_cases hx95 : x = 95
            · subst hx95
              clear k3
              go_wp2_with (fail)
              go_roundg (s.size - (i + 1))
              case measure => omega
              case rel => exact ⟨i + 1, _, _, _, _, _, _, _, by omega, by omega, rfl, rfl, by go_num, rfl, rfl, rfl, rfl, rfl, rfl, by first | rfl | trivial⟩
            · have k1 : (((x : Nat) : Int) == 95) = false := by rw [beq_eq_false_iff_ne]; omega
              by_cases hx46 : x = 46
              · subst hx46
                clear k3
                cases b13
                · go_wp2_with (fail)
                  go_roundg (s.size - (i + 1))
                  case measure => omega
                  case rel => exact ⟨i + 1, _, _, _, _, _, _, _, by omega, by omega, rfl, rfl, by go_num, rfl, rfl, rfl, rfl, rfl, rfl, by first | rfl | trivial⟩
                · go_wp2_with (fail)
                  (refine bodyPost_ret (results_tmp7 rfl _ _ _) rfl ?_)
                  exact ⟨⟨_, _, _, _, _, _, rfl⟩, rfl⟩
              · have k2 : (((x : Nat) : Int) == 46) = false := by rw [beq_eq_false_iff_ne]; omega
                rcases k3 with k3 | ⟨k3, k4⟩
                all_goals
                  go_wp2_with (go_at_call 92; refine (lower_any _ _).mono ?_; rintro u w9 ⟨rfl, rfl⟩)
                  (refine bodyPost_ret (results_tmp7 rfl _ _ _) rfl ?_)
                  exact ⟨⟨_, _, _, _, _, _, rfl⟩, rfl⟩
          · have hlt' : decide (i < s.size) = false := by simpa using hlt
            go_wp2_with (fail)
            (refine bodyPost_ret (results_tmp7 rfl _ _ _) rfl ?_)
            exact ⟨⟨_, _, _, _, _, _, rfl⟩, rfl⟩
    · by_cases h1s : s.size = 1
      · have hsz : ((s.size : Nat) : Int) = 1 := by omega
        go_enter Tryz.func79, Tryz.ntmps79
        go_wp2_with (fail)
        refine wp_scope_same (fun _ _ _ h => h) ?_
        go_wp2_with (go_at_call 92; refine (lower_any _ _).mono ?_; rintro u w9 ⟨rfl, rfl⟩)
        go_step3
        go_wp2_with (fail)
        refine wp_loop_rounds 1 ?_
        rw [rounds_succ]
        go_wp2_with (fail)
        (refine bodyPost_ret (results_tmp7 rfl _ _ _) rfl ?_)
        exact ⟨⟨_, _, _, _, _, _, rfl⟩, rfl⟩
      have h1t : 1 < s.size := by omega
      obtain ⟨y0, hy0⟩ : ∃ y, byteAt s 1 = y := ⟨_, rfl⟩
      have hy0' : (s[1]'h1t).toNat = y0 := (byteAt_eq h1t).trans hy0
      have hdy := (HN.out 1 h1t).1
      rw [hy0] at hdy
      have hy48 : (((y0 : Nat) : Int) == 48) = false := by rw [beq_eq_false_iff_ne]; omega
      clear hy0 hdy
      have h2s : decide ((3 : Int) < ((s.size : Nat) : Int)) = true ∨ decide ((3 : Int) < ((s.size : Nat) : Int)) = false := by cases decide ((3 : Int) < ((s.size : Nat) : Int)) <;> simp
      go_enter Tryz.func79, Tryz.ntmps79
      go_wp2_with (fail)
      refine wp_scope_same (fun _ _ _ h => h) ?_
      rcases h2s with h2 | h2
      all_goals go_wp2_with (go_at_call 92; refine (lower_any _ _).mono ?_; rintro u w9 ⟨rfl, rfl⟩)
      all_goals
        go_step3
        go_wp2_with (fail)
        go_loopg [2, 5, 7, 9, 13, 14, 15, 16, 17] (s.size - 1) (fun gg mm t5 r u9 sd sg n15 n16 d17 wr2 => ∃ (i : Nat) (m : Int) (tr us b13 : Bool) (nd nm dp : Int), i + gg = s.size ∧ i ≤ s.size ∧ mm = .int .u64 m ∧ t5 = .bool tr ∧ r = .int .i64 (i : Int) ∧ u9 = .bool us ∧ sd = .bool b13 ∧ sg = .bool false ∧ n15 = .int .i64 nd ∧ n16 = .int .i64 nm ∧ d17 = .int .i64 dp ∧ w = wr2)
        case atStart => exact ⟨1, _, _, _, _, _, _, _, by omega, by omega, rfl, rfl, rfl, rfl, rfl, rfl, rfl, rfl, rfl, rfl⟩
        case round =>
          obtain ⟨i, m, tr, us, b13, nd, nm, dp, hg, hi, rfl, rfl, rfl, rfl, rfl, rfl, rfl, rfl, rfl, rfl⟩ := hrel
          by_cases hlt : i < s.size
          · obtain ⟨x, hx⟩ : ∃ x, byteAt s i = x := ⟨_, rfl⟩
            have hx' : (s[i]'hlt).toNat = x := (byteAt_eq hlt).trans hx
            have hd := (HN.out i hlt).1
            rw [hx] at hd
            have hlt' : decide (i < s.size) = true := by simpa using hlt
            have k3 : decide ((48 : Int) ≤ ((x : Nat) : Int)) = false ∨ (decide ((48 : Int) ≤ ((x : Nat) : Int)) = true ∧ decide (((x : Nat) : Int) ≤ 57) = false) := by
              by_cases h1 : 48 ≤ x
              · right; exact ⟨by simp; omega, by simp; omega⟩
              · left; simp; omega
            clear hx hd
            by_cases hx95 : x = 95
            · subst hx95
              clear k3
              go_wp2_with (fail)
              go_roundg (s.size - (i + 1))
              case measure => omega
              case rel => exact ⟨i + 1, _, _, _, _, _, _, _, by omega, by omega, rfl, rfl, by go_num, rfl, rfl, rfl, rfl, rfl, rfl, by first | rfl | trivial⟩
            · have k1 : (((x : Nat) : Int) == 95) = false := by rw [beq_eq_false_iff_ne]; omega
              by_cases hx46 : x = 46
              · subst hx46
                clear k3
                cases b13
                · go_wp2_with (fail)
                  go_roundg (s.size - (i + 1))
                  case measure => omega
                  case rel => exact ⟨i + 1, _, _, _, _, _, _, _, by omega, by omega, rfl, rfl, by go_num, rfl, rfl, rfl, rfl, rfl, rfl, by first | rfl | trivial⟩
                · go_wp2_with (fail)
                  (refine bodyPost_ret (results_tmp7 rfl _ _ _) rfl ?_)
                  exact ⟨⟨_, _, _, _, _, _, rfl⟩, rfl⟩
              · have k2 : (((x : Nat) : Int) == 46) = false := by rw [beq_eq_false_iff_ne]; omega
                rcases k3 with k3 | ⟨k3, k4⟩
                all_goals
                  go_wp2_with (go_at_call 92; refine (lower_any _ _).mono ?_; rintro u w9 ⟨rfl, rfl⟩)
                  (refine bodyPost_ret (results_tmp7 rfl _ _ _) rfl ?_)
                  exact ⟨⟨_, _, _, _, _, _, rfl⟩, rfl⟩
          · have hlt' : decide (i < s.size) = false := by simpa using hlt
            go_wp2_with (fail)
            (refine bodyPost_ret (results_tmp7 rfl _ _ _) rfl ?_)
            exact ⟨⟨_, _, _, _, _, _, rfl⟩, rfl⟩
    · have h2s : decide ((2 : Int) < ((s.size : Nat) : Int)) = true ∨ decide ((2 : Int) < ((s.size : Nat) : Int)) = false := by cases decide ((2 : Int) < ((s.size : Nat) : Int)) <;> simp
      go_enter Tryz.func79, Tryz.ntmps79
      go_wp2_with (fail)
      refine wp_scope_same (fun _ _ _ h => h) ?_
      rcases h2s with h2 | h2
      all_goals go_wp2_with (go_at_call 92; refine (lower_any _ _).mono ?_; rintro u w9 ⟨rfl, rfl⟩)
      all_goals
        go_step3
        go_wp2_with (fail)
        go_loopg [2, 5, 7, 9, 13, 14, 15, 16, 17] (s.size - 0) (fun gg mm t5 r u9 sd sg n15 n16 d17 wr2 => ∃ (i : Nat) (m : Int) (tr us b13 : Bool) (nd nm dp : Int), i + gg = s.size ∧ i ≤ s.size ∧ mm = .int .u64 m ∧ t5 = .bool tr ∧ r = .int .i64 (i : Int) ∧ u9 = .bool us ∧ sd = .bool b13 ∧ sg = .bool false ∧ n15 = .int .i64 nd ∧ n16 = .int .i64 nm ∧ d17 = .int .i64 dp ∧ w = wr2)
        case atStart => exact ⟨0, _, _, _, _, _, _, _, by omega, by omega, rfl, rfl, rfl, rfl, rfl, rfl, rfl, rfl, rfl, rfl⟩
        case round =>
          obtain ⟨i, m, tr, us, b13, nd, nm, dp, hg, hi, rfl, rfl, rfl, rfl, rfl, rfl, rfl, rfl, rfl, rfl⟩ := hrel
          by_cases hlt : i < s.size
          · obtain ⟨x, hx⟩ : ∃ x, byteAt s i = x := ⟨_, rfl⟩
            have hx' : (s[i]'hlt).toNat = x := (byteAt_eq hlt).trans hx
            have hd := (HN.out i hlt).1
            rw [hx] at hd
            have hlt' : decide (i < s.size) = true := by simpa using hlt
            have k3 : decide ((48 : Int) ≤ ((x : Nat) : Int)) = false ∨ (decide ((48 : Int) ≤ ((x : Nat) : Int)) = true ∧ decide (((x : Nat) : Int) ≤ 57) = false) := by
              by_cases h1 : 48 ≤ x
              · right; exact ⟨by simp; omega, by simp; omega⟩
              · left; simp; omega
            clear hx hd
            by_cases hx95 : x = 95
            · subst hx95
              clear k3
              go_wp2_with (fail)
              go_roundg (s.size - (i + 1))
              case measure => omega
              case rel => exact ⟨i + 1, _, _, _, _, _, _, _, by omega, by omega, rfl, rfl, by go_num, rfl, rfl, rfl, rfl, rfl, rfl, by first | rfl | trivial⟩
            · have k1 : (((x : Nat) : Int) == 95) = false := by rw [beq_eq_false_iff_ne]; omega
              by_cases hx46 : x = 46
              · subst hx46
                clear k3
                cases b13
                · go_wp2_with (fail)
                  go_roundg (s.size - (i + 1))
                  case measure => omega
                  case rel => exact ⟨i + 1, _, _, _, _, _, _, _, by omega, by omega, rfl, rfl, by go_num, rfl, rfl, rfl, rfl, rfl, rfl, by first | rfl | trivial⟩
                · go_wp2_with (fail)
                  (refine bodyPost_ret (results_tmp7 rfl _ _ _) rfl ?_)
                  exact ⟨⟨_, _, _, _, _, _, rfl⟩, rfl⟩
              · have k2 : (((x : Nat) : Int) == 46) = false := by rw [beq_eq_false_iff_ne]; omega
                rcases k3 with k3 | ⟨k3, k4⟩
                all_goals
                  go_wp2_with (go_at_call 92; refine (lower_any _ _).mono ?_; rintro u w9 ⟨rfl, rfl⟩)
                  (refine bodyPost_ret (results_tmp7 rfl _ _ _) rfl ?_)
                  exact ⟨⟨_, _, _, _, _, _, rfl⟩, rfl⟩
          · have hlt' : decide (i < s.size) = false := by simpa using hlt
            go_wp2_with (fail)
            (refine bodyPost_ret (results_tmp7 rfl _ _ _) rfl ?_)
            exact ⟨⟨_, _, _, _, _, _, rfl⟩, rfl⟩
end Go.Proofs.YtonnmongipaheaaGreatDoor
