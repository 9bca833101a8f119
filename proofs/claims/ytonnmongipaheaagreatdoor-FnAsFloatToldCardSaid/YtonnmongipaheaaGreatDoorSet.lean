/- (*internal/strconv.decimal).set returns. -/
import Derived.Test.YtonnmongipaheaaGreatDoorSetA
namespace Go.Proofs.YtonnmongipaheaaGreatDoor
open Go.RowKit
set_option linter.unusedVariables false
set_option linter.unusedSimpArgs false

set_option maxRecDepth 1000000 in
set_option maxHeartbeats 8000000 in
theorem set_any (w : World) (b : Nat) (c : Nat → Nat) (ng tr : Bool) (s : ByteArray) (h : Dec w b c 0 0 ng tr) (hs : s.size ≤ 100000) :
    Calls Tryz.prog 85 #[.pointer (some ⟨b, 0, none⟩), .string s] w (SetPost b w) := by
  have y1 := h.ng_
  have y2 := h.tr_
  have f1 := h.free 802
  have f2 := h.free 803
  have HD := hide h
  clear h
  by_cases hn0 : s.size = 0
  · have hn0' : ((s.size : Nat) : Int) = 0 := by omega
    go_enter Tryz.func85, Tryz.ntmps85
    go_wp2_with (fail)
    go_ret
    exact ⟨_, rfl, ⟨c, 0, 0, false, false, (HD.out.set_ng _).set_tr _, fun h => absurd rfl h, by omega, by omega⟩, ((Only.refl b w).set _ _).set _ _⟩
  · obtain ⟨x0, hx0⟩ : ∃ x : Nat, (s[0]'(by omega)).toNat = x := ⟨_, rfl⟩
    have hn1 : (1 : Int) ≤ ((s.size : Nat) : Int) := by omega
    have D1 := hide ((HD.out.set_ng false).set_tr false)
    have O1 := hide (((Only.refl b w).set 802 (.bool false)).set 803 (.bool false))
    have f3 := D1.out.free 802
    have y3 := D1.out.ng_
    have D2 := hide (D1.out.set_ng true)
    have O2 := hide (O1.out.set 802 (.bool true))
    have hsp : (((x0 : Nat) : Int) == 43) = true ∨ ((((x0 : Nat) : Int) == 43) = false ∧ (((x0 : Nat) : Int) == 45) = true) ∨ ((((x0 : Nat) : Int) == 43) = false ∧ (((x0 : Nat) : Int) == 45) = false) := by
      by_cases h1 : x0 = 43
      · left; rw [beq_iff_eq]; omega
      · by_cases h2 : x0 = 45
        · right; left; exact ⟨by rw [beq_eq_false_iff_ne]; omega, by rw [beq_iff_eq]; omega⟩
        · right; right; exact ⟨by rw [beq_eq_false_iff_ne]; omega, by rw [beq_eq_false_iff_ne]; omega⟩
    rcases hsp with hs1 | ⟨hs1, hs2⟩ | ⟨hs1, hs2⟩
    · go_enter Tryz.func85, Tryz.ntmps85
      go_wp2_with (fail)
      rename_i K hK
      have HK : ∀ a' w', SetAfter b w s a' w' → K a' w' := fun a' w' h => hK a' w' (SetAfter.go hs h)
      clear hK
      go_loopg [5, 6, 7] (s.size - 1) (fun g r sd sg wr2 => ∃ (i : Nat) (a1 a2 : Bool) (c1 : Nat → Nat) (nd : Nat) (dp : Int) (ng1 tr1 : Bool), i + g = s.size ∧ i ≤ s.size ∧ r = .int .i64 (i : Int) ∧ sd = .bool a1 ∧ sg = .bool a2 ∧ nd ≤ 800 ∧ -(i : Int) ≤ dp ∧ dp ≤ 800 ∧ Hid (Dec wr2 b c1 nd dp ng1 tr1) ∧ Hid (DigW c1 nd) ∧ Hid (Only b w wr2))
      case atStart => exact ⟨1, false, false, c, 0, 0, _, _, by omega, by omega, rfl, rfl, rfl, by omega, by omega, by omega, D1, hide (fun h => absurd rfl h), O1⟩
      case round =>
        obtain ⟨i, a1, a2, c1, nd, dp, ng1, tr1, hg, hi, rfl, rfl, rfl, hnd, hd1, hd2, hD, hW, hO⟩ := hrel
        have q1 := hD.out.nd_
        have q2 := hD.out.dp_
        have q3 := hD.out.tr_
        have r1 := hD.out.free 800
        have r2 := hD.out.free 801
        have r3 := hD.out.free 803
        by_cases hlt : i < s.size
        · obtain ⟨x, hx⟩ : ∃ x : Nat, (s[i]'hlt).toNat = x := ⟨_, rfl⟩
          have hlt' : decide (i < s.size) = true := by simpa using hlt
          by_cases hx95 : x = 95
          · subst hx95
            go_wp2_with (fail)
            go_roundg (s.size - (i + 1))
            case measure => omega
            case rel => exact ⟨i + 1, a1, a2, c1, nd, dp, ng1, tr1, by omega, by omega, by go_num, rfl, rfl, hnd, by omega, by omega, hD, hW, hO⟩
          · have k1 : (((x : Nat) : Int) == 95) = false := by rw [beq_eq_false_iff_ne]; omega
            by_cases hx46 : x = 46
            · subst hx46
              cases a1
              · go_wp2_with (fail)
                go_roundg (s.size - (i + 1))
                case measure => omega
                case rel => exact ⟨i + 1, true, a2, c1, nd, nd, ng1, tr1, by omega, by omega, by go_num, rfl, rfl, hnd, by omega, by omega, hide (hD.out.set_dp _), hW, hide (hO.out.set _ _)⟩
              · go_wp2_with (fail)
                go_ret
                exact SetPost.mk _ hD.out hW.out hnd (by omega) (by omega) hO.out
            · have k2 : (((x : Nat) : Int) == 46) = false := by rw [beq_eq_false_iff_ne]; omega
              by_cases hxd : 48 ≤ x ∧ x ≤ 57
              · obtain ⟨x1, x2⟩ := hxd
                have k3 : decide ((48 : Int) ≤ ((x : Nat) : Int)) = true := by simp; omega
                have k4 : decide (((x : Nat) : Int) ≤ 57) = true := by simp; omega
                by_cases hz : x = 48 ∧ nd = 0
                · obtain ⟨rfl, rfl⟩ := hz
                  go_wp2_with (fail)
                  go_roundg (s.size - (i + 1))
                  case measure => omega
                  case rel => exact ⟨i + 1, a1, true, c1, 0, dp - 1, ng1, tr1, by omega, by omega, by go_num, rfl, rfl, by omega, by omega, by omega, hide (hD.out.set_dp _), hW, hide (hO.out.set _ _)⟩
                · have k5 : (((x : Nat) : Int) == 48) = false ∨ ((((x : Nat) : Int) == 48) = true ∧ (((nd : Nat) : Int) == 0) = false) := by
                    by_cases h1 : x = 48
                    · right; exact ⟨by rw [beq_iff_eq]; omega, by rw [beq_eq_false_iff_ne]; omega⟩
                    · left; rw [beq_eq_false_iff_ne]; omega
                  have HZ : Hid (nd = 0 → x ≠ 48) := hide (fun h1 h2 => hz ⟨h2, h1⟩)
                  clear hz
                  by_cases hn8 : nd < 800
                  · have q4 := hD.out.dig (i := nd) hn8
                    have r4 := hD.out.free nd
                    have o1 : (0 : Int) ≤ ((nd : Nat) : Int) := by omega
                    have o2 : ((nd : Nat) : Int) < 800 := by omega
                    have o3 : (0 : Int) ≤ ((i : Nat) : Int) := by omega
                    have o4 : ((i : Nat) : Int) < ((s.size : Nat) : Int) := by omega
                    have DP := hide (((hD.out.drewN 1).set_dig hn8 x).set_nd ((nd : Int) + 1))
                    have q5 := ((hD.out.drewN 1).set_dig hn8 x).nd_
                    have r5 := ((hD.out.drewN 1).set_dig hn8 x).free 800
                    rcases k5 with k5 | ⟨k5, k6⟩
                    all_goals
                      go_wp2_with (fail)
                      go_still_tail 11, (by kernel_rfl)
                      change wpList _ _ _ _ _ (World.drewN _ 1)
                      go_wp2_with (fail)
                      go_roundg (s.size - (i + 1))
                      case measure => omega
                      case rel => exact ⟨i + 1, a1, true, upd c1 nd x, nd + 1, dp, ng1, tr1, by omega, by omega, by go_num, rfl, rfl, by omega, by omega, by omega, DP, hide (DigW.put hW.out ⟨x1, x2⟩ HZ.out), hide (((hO.out.drewN 1).set _ _).set _ _)⟩
                  · have k8 : decide (((nd : Nat) : Int) < 800) = false := by simp; omega
                    by_cases h48 : x = 48
                    · subst h48
                      have k6 : (((nd : Nat) : Int) == 0) = false := by rw [beq_eq_false_iff_ne]; omega
                      clear k5
                      go_wp2_with (fail)
                      go_roundg (s.size - (i + 1))
                      case measure => omega
                      case rel => exact ⟨i + 1, a1, true, c1, nd, dp, ng1, tr1, by omega, by omega, by go_num, rfl, rfl, hnd, by omega, by omega, hD, hW, hO⟩
                    · have k5' : (((x : Nat) : Int) == 48) = false := by rw [beq_eq_false_iff_ne]; omega
                      have k9 : (((x : Nat) : Int) != 48) = true := by rw [bne_iff_ne]; omega
                      clear k5
                      go_wp2_with (fail)
                      go_roundg (s.size - (i + 1))
                      case measure => omega
                      case rel => exact ⟨i + 1, a1, true, c1, nd, dp, ng1, true, by omega, by omega, by go_num, rfl, rfl, hnd, by omega, by omega, hide (hD.out.set_tr _), hW, hide (hO.out.set _ _)⟩
              · have k3 : decide ((48 : Int) ≤ ((x : Nat) : Int)) = false ∨ (decide ((48 : Int) ≤ ((x : Nat) : Int)) = true ∧ decide (((x : Nat) : Int) ≤ 57) = false) := by
                  by_cases h1 : 48 ≤ x
                  · right; exact ⟨by simp; omega, by simp; omega⟩
                  · left; simp; omega
                rcases k3 with k3 | ⟨k3, k4⟩
                all_goals
                  go_wp2_with (fail)
                  exact ⟨i, a1, a2, c1, nd, dp, ng1, tr1, rfl, rfl, rfl, rfl, rfl, rfl, rfl, rfl, hi, hnd, hd1, hd2, hD.out, hW.out, hO.out⟩
        · have hlt' : decide (i < s.size) = false := by simpa using hlt
          go_wp2_with (fail)
          exact ⟨i, a1, a2, c1, nd, dp, ng1, tr1, rfl, rfl, rfl, rfl, rfl, rfl, rfl, rfl, hi, hnd, hd1, hd2, hD.out, hW.out, hO.out⟩
    · go_enter Tryz.func85, Tryz.ntmps85
      go_wp2_with (fail)
      rename_i K hK
      have HK : ∀ a' w', SetAfter b w s a' w' → K a' w' := fun a' w' h => hK a' w' (SetAfter.go hs h)
      clear hK
      go_loopg [5, 6, 7] (s.size - 1) (fun g r sd sg wr2 => ∃ (i : Nat) (a1 a2 : Bool) (c1 : Nat → Nat) (nd : Nat) (dp : Int) (ng1 tr1 : Bool), i + g = s.size ∧ i ≤ s.size ∧ r = .int .i64 (i : Int) ∧ sd = .bool a1 ∧ sg = .bool a2 ∧ nd ≤ 800 ∧ -(i : Int) ≤ dp ∧ dp ≤ 800 ∧ Hid (Dec wr2 b c1 nd dp ng1 tr1) ∧ Hid (DigW c1 nd) ∧ Hid (Only b w wr2))
      case atStart => exact ⟨1, false, false, c, 0, 0, _, _, by omega, by omega, rfl, rfl, rfl, by omega, by omega, by omega, D2, hide (fun h => absurd rfl h), O2⟩
      case round =>
        obtain ⟨i, a1, a2, c1, nd, dp, ng1, tr1, hg, hi, rfl, rfl, rfl, hnd, hd1, hd2, hD, hW, hO⟩ := hrel
        have q1 := hD.out.nd_
        have q2 := hD.out.dp_
        have q3 := hD.out.tr_
        have r1 := hD.out.free 800
        have r2 := hD.out.free 801
        have r3 := hD.out.free 803
        by_cases hlt : i < s.size
        · obtain ⟨x, hx⟩ : ∃ x : Nat, (s[i]'hlt).toNat = x := ⟨_, rfl⟩
          have hlt' : decide (i < s.size) = true := by simpa using hlt
          by_cases hx95 : x = 95
          · subst hx95
            go_wp2_with (fail)
            go_roundg (s.size - (i + 1))
            case measure => omega
            case rel => exact ⟨i + 1, a1, a2, c1, nd, dp, ng1, tr1, by omega, by omega, by go_num, rfl, rfl, hnd, by omega, by omega, hD, hW, hO⟩
          · have k1 : (((x : Nat) : Int) == 95) = false := by rw [beq_eq_false_iff_ne]; omega
            by_cases hx46 : x = 46
            · subst hx46
              cases a1
              · go_wp2_with (fail)
                go_roundg (s.size - (i + 1))
                case measure => omega
                case rel => exact ⟨i + 1, true, a2, c1, nd, nd, ng1, tr1, by omega, by omega, by go_num, rfl, rfl, hnd, by omega, by omega, hide (hD.out.set_dp _), hW, hide (hO.out.set _ _)⟩
              · go_wp2_with (fail)
                go_ret
                exact SetPost.mk _ hD.out hW.out hnd (by omega) (by omega) hO.out
            · have k2 : (((x : Nat) : Int) == 46) = false := by rw [beq_eq_false_iff_ne]; omega
              by_cases hxd : 48 ≤ x ∧ x ≤ 57
              · obtain ⟨x1, x2⟩ := hxd
                have k3 : decide ((48 : Int) ≤ ((x : Nat) : Int)) = true := by simp; omega
                have k4 : decide (((x : Nat) : Int) ≤ 57) = true := by simp; omega
                by_cases hz : x = 48 ∧ nd = 0
                · obtain ⟨rfl, rfl⟩ := hz
                  go_wp2_with (fail)
                  go_roundg (s.size - (i + 1))
                  case measure => omega
                  case rel => exact ⟨i + 1, a1, true, c1, 0, dp - 1, ng1, tr1, by omega, by omega, by go_num, rfl, rfl, by omega, by omega, by omega, hide (hD.out.set_dp _), hW, hide (hO.out.set _ _)⟩
                · have k5 : (((x : Nat) : Int) == 48) = false ∨ ((((x : Nat) : Int) == 48) = true ∧ (((nd : Nat) : Int) == 0) = false) := by
                    by_cases h1 : x = 48
                    · right; exact ⟨by rw [beq_iff_eq]; omega, by rw [beq_eq_false_iff_ne]; omega⟩
                    · left; rw [beq_eq_false_iff_ne]; omega
                  have HZ : Hid (nd = 0 → x ≠ 48) := hide (fun h1 h2 => hz ⟨h2, h1⟩)
                  clear hz
                  by_cases hn8 : nd < 800
                  · have q4 := hD.out.dig (i := nd) hn8
                    have r4 := hD.out.free nd
                    have o1 : (0 : Int) ≤ ((nd : Nat) : Int) := by omega
                    have o2 : ((nd : Nat) : Int) < 800 := by omega
                    have o3 : (0 : Int) ≤ ((i : Nat) : Int) := by omega
                    have o4 : ((i : Nat) : Int) < ((s.size : Nat) : Int) := by omega
                    have DP := hide (((hD.out.drewN 1).set_dig hn8 x).set_nd ((nd : Int) + 1))
                    have q5 := ((hD.out.drewN 1).set_dig hn8 x).nd_
                    have r5 := ((hD.out.drewN 1).set_dig hn8 x).free 800
                    rcases k5 with k5 | ⟨k5, k6⟩
                    all_goals
                      go_wp2_with (fail)
                      go_still_tail 11, (by kernel_rfl)
                      change wpList _ _ _ _ _ (World.drewN _ 1)
                      go_wp2_with (fail)
                      go_roundg (s.size - (i + 1))
                      case measure => omega
                      case rel => exact ⟨i + 1, a1, true, upd c1 nd x, nd + 1, dp, ng1, tr1, by omega, by omega, by go_num, rfl, rfl, by omega, by omega, by omega, DP, hide (DigW.put hW.out ⟨x1, x2⟩ HZ.out), hide (((hO.out.drewN 1).set _ _).set _ _)⟩
                  · have k8 : decide (((nd : Nat) : Int) < 800) = false := by simp; omega
                    by_cases h48 : x = 48
                    · subst h48
                      have k6 : (((nd : Nat) : Int) == 0) = false := by rw [beq_eq_false_iff_ne]; omega
                      clear k5
                      go_wp2_with (fail)
                      go_roundg (s.size - (i + 1))
                      case measure => omega
                      case rel => exact ⟨i + 1, a1, true, c1, nd, dp, ng1, tr1, by omega, by omega, by go_num, rfl, rfl, hnd, by omega, by omega, hD, hW, hO⟩
                    · have k5' : (((x : Nat) : Int) == 48) = false := by rw [beq_eq_false_iff_ne]; omega
                      have k9 : (((x : Nat) : Int) != 48) = true := by rw [bne_iff_ne]; omega
                      clear k5
                      go_wp2_with (fail)
                      go_roundg (s.size - (i + 1))
                      case measure => omega
                      case rel => exact ⟨i + 1, a1, true, c1, nd, dp, ng1, true, by omega, by omega, by go_num, rfl, rfl, hnd, by omega, by omega, hide (hD.out.set_tr _), hW, hide (hO.out.set _ _)⟩
              · have k3 : decide ((48 : Int) ≤ ((x : Nat) : Int)) = false ∨ (decide ((48 : Int) ≤ ((x : Nat) : Int)) = true ∧ decide (((x : Nat) : Int) ≤ 57) = false) := by
                  by_cases h1 : 48 ≤ x
                  · right; exact ⟨by simp; omega, by simp; omega⟩
                  · left; simp; omega
                rcases k3 with k3 | ⟨k3, k4⟩
                all_goals
                  go_wp2_with (fail)
                  exact ⟨i, a1, a2, c1, nd, dp, ng1, tr1, rfl, rfl, rfl, rfl, rfl, rfl, rfl, rfl, hi, hnd, hd1, hd2, hD.out, hW.out, hO.out⟩
        · have hlt' : decide (i < s.size) = false := by simpa using hlt
          go_wp2_with (fail)
          exact ⟨i, a1, a2, c1, nd, dp, ng1, tr1, rfl, rfl, rfl, rfl, rfl, rfl, rfl, rfl, hi, hnd, hd1, hd2, hD.out, hW.out, hO.out⟩
    · go_enter Tryz.func85, Tryz.ntmps85
      go_wp2_with (fail)
      rename_i K hK
      have HK : ∀ a' w', SetAfter b w s a' w' → K a' w' := fun a' w' h => hK a' w' (SetAfter.go hs h)
      clear hK
      go_loopg [5, 6, 7] (s.size - 0) (fun g r sd sg wr2 => ∃ (i : Nat) (a1 a2 : Bool) (c1 : Nat → Nat) (nd : Nat) (dp : Int) (ng1 tr1 : Bool), i + g = s.size ∧ i ≤ s.size ∧ r = .int .i64 (i : Int) ∧ sd = .bool a1 ∧ sg = .bool a2 ∧ nd ≤ 800 ∧ -(i : Int) ≤ dp ∧ dp ≤ 800 ∧ Hid (Dec wr2 b c1 nd dp ng1 tr1) ∧ Hid (DigW c1 nd) ∧ Hid (Only b w wr2))
      case atStart => exact ⟨0, false, false, c, 0, 0, _, _, by omega, by omega, rfl, rfl, rfl, by omega, by omega, by omega, D1, hide (fun h => absurd rfl h), O1⟩
      case round =>
        obtain ⟨i, a1, a2, c1, nd, dp, ng1, tr1, hg, hi, rfl, rfl, rfl, hnd, hd1, hd2, hD, hW, hO⟩ := hrel
        have q1 := hD.out.nd_
        have q2 := hD.out.dp_
        have q3 := hD.out.tr_
        have r1 := hD.out.free 800
        have r2 := hD.out.free 801
        have r3 := hD.out.free 803
        by_cases hlt : i < s.size
        · obtain ⟨x, hx⟩ : ∃ x : Nat, (s[i]'hlt).toNat = x := ⟨_, rfl⟩
          have hlt' : decide (i < s.size) = true := by simpa using hlt
          by_cases hx95 : x = 95
          · subst hx95
            go_wp2_with (fail)
            go_roundg (s.size - (i + 1))
            case measure => omega
            case rel => exact ⟨i + 1, a1, a2, c1, nd, dp, ng1, tr1, by omega, by omega, by go_num, rfl, rfl, hnd, by omega, by omega, hD, hW, hO⟩
          · have k1 : (((x : Nat) : Int) == 95) = false := by rw [beq_eq_false_iff_ne]; omega
            by_cases hx46 : x = 46
            · subst hx46
              cases a1
              · go_wp2_with (fail)
                go_roundg (s.size - (i + 1))
                case measure => omega
                case rel => exact ⟨i + 1, true, a2, c1, nd, nd, ng1, tr1, by omega, by omega, by go_num, rfl, rfl, hnd, by omega, by omega, hide (hD.out.set_dp _), hW, hide (hO.out.set _ _)⟩
              · go_wp2_with (fail)
                go_ret
                exact SetPost.mk _ hD.out hW.out hnd (by omega) (by omega) hO.out
            · have k2 : (((x : Nat) : Int) == 46) = false := by rw [beq_eq_false_iff_ne]; omega
              by_cases hxd : 48 ≤ x ∧ x ≤ 57
              · obtain ⟨x1, x2⟩ := hxd
                have k3 : decide ((48 : Int) ≤ ((x : Nat) : Int)) = true := by simp; omega
                have k4 : decide (((x : Nat) : Int) ≤ 57) = true := by simp; omega
                by_cases hz : x = 48 ∧ nd = 0
                · obtain ⟨rfl, rfl⟩ := hz
                  go_wp2_with (fail)
                  go_roundg (s.size - (i + 1))
                  case measure => omega
                  case rel => exact ⟨i + 1, a1, true, c1, 0, dp - 1, ng1, tr1, by omega, by omega, by go_num, rfl, rfl, by omega, by omega, by omega, hide (hD.out.set_dp _), hW, hide (hO.out.set _ _)⟩
                · have k5 : (((x : Nat) : Int) == 48) = false ∨ ((((x : Nat) : Int) == 48) = true ∧ (((nd : Nat) : Int) == 0) = false) := by
                    by_cases h1 : x = 48
                    · right; exact ⟨by rw [beq_iff_eq]; omega, by rw [beq_eq_false_iff_ne]; omega⟩
                    · left; rw [beq_eq_false_iff_ne]; omega
                  have HZ : Hid (nd = 0 → x ≠ 48) := hide (fun h1 h2 => hz ⟨h2, h1⟩)
                  clear hz
                  by_cases hn8 : nd < 800
                  · have q4 := hD.out.dig (i := nd) hn8
                    have r4 := hD.out.free nd
                    have o1 : (0 : Int) ≤ ((nd : Nat) : Int) := by omega
                    have o2 : ((nd : Nat) : Int) < 800 := by omega
                    have o3 : (0 : Int) ≤ ((i : Nat) : Int) := by omega
                    have o4 : ((i : Nat) : Int) < ((s.size : Nat) : Int) := by omega
                    have DP := hide (((hD.out.drewN 1).set_dig hn8 x).set_nd ((nd : Int) + 1))
                    have q5 := ((hD.out.drewN 1).set_dig hn8 x).nd_
                    have r5 := ((hD.out.drewN 1).set_dig hn8 x).free 800
                    rcases k5 with k5 | ⟨k5, k6⟩
                    all_goals
                      go_wp2_with (fail)
                      go_still_tail 11, (by kernel_rfl)
                      change wpList _ _ _ _ _ (World.drewN _ 1)
                      go_wp2_with (fail)
                      go_roundg (s.size - (i + 1))
                      case measure => omega
                      case rel => exact ⟨i + 1, a1, true, upd c1 nd x, nd + 1, dp, ng1, tr1, by omega, by omega, by go_num, rfl, rfl, by omega, by omega, by omega, DP, hide (DigW.put hW.out ⟨x1, x2⟩ HZ.out), hide (((hO.out.drewN 1).set _ _).set _ _)⟩
                  · have k8 : decide (((nd : Nat) : Int) < 800) = false := by simp; omega
                    by_cases h48 : x = 48
                    · subst h48
                      have k6 : (((nd : Nat) : Int) == 0) = false := by rw [beq_eq_false_iff_ne]; omega
                      clear k5
                      go_wp2_with (fail)
                      go_roundg (s.size - (i + 1))
                      case measure => omega
                      case rel => exact ⟨i + 1, a1, true, c1, nd, dp, ng1, tr1, by omega, by omega, by go_num, rfl, rfl, hnd, by omega, by omega, hD, hW, hO⟩
                    · have k5' : (((x : Nat) : Int) == 48) = false := by rw [beq_eq_false_iff_ne]; omega
                      have k9 : (((x : Nat) : Int) != 48) = true := by rw [bne_iff_ne]; omega
                      clear k5
                      go_wp2_with (fail)
                      go_roundg (s.size - (i + 1))
                      case measure => omega
                      case rel => exact ⟨i + 1, a1, true, c1, nd, dp, ng1, true, by omega, by omega, by go_num, rfl, rfl, hnd, by omega, by omega, hide (hD.out.set_tr _), hW, hide (hO.out.set _ _)⟩
              · have k3 : decide ((48 : Int) ≤ ((x : Nat) : Int)) = false ∨ (decide ((48 : Int) ≤ ((x : Nat) : Int)) = true ∧ decide (((x : Nat) : Int) ≤ 57) = false) := by
                  by_cases h1 : 48 ≤ x
                  · right; exact ⟨by simp; omega, by simp; omega⟩
                  · left; simp; omega
                rcases k3 with k3 | ⟨k3, k4⟩
                all_goals
                  go_wp2_with (fail)
                  exact ⟨i, a1, a2, c1, nd, dp, ng1, tr1, rfl, rfl, rfl, rfl, rfl, rfl, rfl, rfl, hi, hnd, hd1, hd2, hD.out, hW.out, hO.out⟩
        · have hlt' : decide (i < s.size) = false := by simpa using hlt
          go_wp2_with (fail)
          exact ⟨i, a1, a2, c1, nd, dp, ng1, tr1, rfl, rfl, rfl, rfl, rfl, rfl, rfl, rfl, hi, hnd, hd1, hd2, hD.out, hW.out, hO.out⟩
end Go.Proofs.YtonnmongipaheaaGreatDoor
