/- (*internal/strconv.decimal).Shift. internal/strconv: shouldRoundUp, RoundedInteger. -/
import Derived.Test.YtonnmongipaheaaGreatDoorRight3
namespace Go.Proofs.YtonnmongipaheaaGreatDoor
open Go.RowKit
set_option linter.unusedVariables false
set_option linter.unusedSimpArgs false

set_option maxRecDepth 100000 in
set_option maxHeartbeats 4000000 in
theorem shift_left (B : Nat) (w : World) (b nd k : Nat) (c : Nat → Nat) (dp : Int) (ng tr : Bool) (hT : Tab B w) (hB : B ≤ b) (h : DecG w b c nd dp ng tr) (h1 : 1 ≤ k) (h2 : k ≤ 60) (hdp : -1000000000 ≤ dp ∧ dp ≤ 1000000000) :
    Calls Tryz.prog 105 #[.pointer (some ⟨b, 0, none⟩), .int .i64 k] w (LeftPost b c dp ng w) := by
  have hc := left_any B w b nd k c dp ng tr hT hB h h1 h2 hdp
  have y1 := h.1.nd_
  have n1 := h.2.1
  have z1 : (((nd : Nat) : Int) == 0) = false := by rw [beq_eq_false_iff_ne]; omega
  clear h hT
  go_enter Tryz.func105, Tryz.ntmps105
  go_wp2_with (fail)
  go_loopw [1] (fun kk wr => kk = .int .i64 (k : Int) ∧ w = wr) (fun _ _ => 0)
  case atStart => exact ⟨rfl, rfl⟩
  case round =>
    obtain ⟨rfl, rfl⟩ := hrel
    go_wp2_with (go_at_call 110; refine hc.mono ?_; rintro x w' ⟨rfl, hp⟩; have HP := hide hp; clear hp)
    go_end0
    exact ⟨rfl, HP.out⟩

set_option maxRecDepth 100000 in
set_option maxHeartbeats 4000000 in
theorem shift_right (w : World) (b nd k : Nat) (c : Nat → Nat) (dp : Int) (ng tr : Bool) (h : DecG w b c nd dp ng tr) (h1 : 1 ≤ k) (h2 : k ≤ 60) (hdp : -1000000000 ≤ dp ∧ dp ≤ 1000000000) :
    Calls Tryz.prog 105 #[.pointer (some ⟨b, 0, none⟩), .int .i64 (-(k : Int))] w (RightPost b c dp ng w) := by
  have hc := right_any w b nd k c dp ng tr h h1 h2 hdp
  have y1 := h.1.nd_
  have n1 := h.2.1
  have z1 : (((nd : Nat) : Int) == 0) = false := by rw [beq_eq_false_iff_ne]; omega
  clear h
  go_enter Tryz.func105, Tryz.ntmps105
  go_wp2_with (fail)
  go_loopw [1] (fun kk wr => kk = .int .i64 (-(k : Int)) ∧ w = wr) (fun _ _ => 0)
  case atStart => exact ⟨rfl, rfl⟩
  case round =>
    obtain ⟨rfl, rfl⟩ := hrel
    go_wp2_with (go_at_call 111; refine hc.mono ?_; rintro x w' ⟨rfl, hp⟩; have HP := hide hp; clear hp)
    go_end0
    exact ⟨rfl, HP.out⟩

def FarPost (b k : Nat) (dp : Int) (ng : Bool) (w : World) (x : Ending) (w' : World) : Prop :=
  x = .returned (.tuple #[]) ∧ ∃ c' nd' dp' tr', DecG w' b c' nd' dp' ng tr' ∧ dp' ≤ dp ∧ dp - 900 - 15 * k ≤ dp' ∧ Only b w w'

set_option maxRecDepth 100000 in
set_option maxHeartbeats 4000000 in
theorem shift_far (w : World) (b nd k : Nat) (c : Nat → Nat) (dp : Int) (ng tr : Bool) (h : DecG w b c nd dp ng tr) (h1 : 1 ≤ k) (h2 : k ≤ 10000000) (hdp : -500000000 ≤ dp ∧ dp ≤ 500000000) :
    Calls Tryz.prog 105 #[.pointer (some ⟨b, 0, none⟩), .int .i64 (-(k : Int))] w (FarPost b k dp ng w) := by
  have y1 := h.1.nd_
  have n1 := h.2.1
  have z1 : (((nd : Nat) : Int) == 0) = false := by rw [beq_eq_false_iff_ne]; omega
  have H := hide h
  obtain ⟨j1, j2⟩ := hdp
  have z2 : decide (((k : Nat) : Int) < 0) = false := by simp
  have z3 : decide (0 < k) = true := by simp; omega
  clear h
  go_enter Tryz.func105, Tryz.ntmps105
  go_wp2_with (fail)
  go_loopg [1] k (fun g kk wr => ∃ (m nd1 : Nat) (c1 : Nat → Nat) (dp1 : Int) (tr1 : Bool), m = g ∧ 1 ≤ m ∧ m ≤ k ∧ kk = .int .i64 (-(m : Int)) ∧ dp1 ≤ dp ∧ dp - 15 * ((k : Int) - m) ≤ dp1 ∧ Hid (DecG wr b c1 nd1 dp1 ng tr1) ∧ Hid (Only b w wr))
  case atStart => exact ⟨k, nd, c, dp, tr, rfl, h1, Nat.le_refl _, rfl, by omega, by omega, H, hide (Only.refl _ _)⟩
  case round =>
    obtain ⟨m, nd1, c1, dp1, tr1, rfl, hm1, hmk, rfl, hd1, hd2, hD, hO⟩ := hrel
    by_cases h60 : 60 < m
    · have hc := right_any wr b nd1 60 c1 dp1 ng tr1 hD.out (by omega) (by omega) ⟨by omega, by omega⟩
      go_wp2_with (go_at_call 111; refine hc.mono ?_; rintro x w' ⟨rfl, c2, nd2, dp2, tr2, hp, q1, q2, q3, q4⟩; have HP := hide hp; have HO := hide q4; clear hp q3 q4)
      go_roundg (m - 60)
      case measure => omega
      case rel => exact ⟨m - 60, nd2, c2, dp2, tr2, rfl, by omega, by omega, by first | go_num | (congr 1; omega), by omega, by omega, HP, hide (hO.out.trans HO.out)⟩
    · have hc := right_any wr b nd1 m c1 dp1 ng tr1 hD.out (by omega) (by omega) ⟨by omega, by omega⟩
      go_wp2_with (go_at_call 111; refine hc.mono ?_; rintro x w' ⟨rfl, c2, nd2, dp2, tr2, hp, q1, q2, q3, q4⟩; have HP := hide hp; have HO := hide q4; clear hp q3 q4)
      go_end0
      exact ⟨rfl, c2, nd2, dp2, tr2, HP.out, by omega, by omega, hO.out.trans HO.out⟩
end Go.Proofs.YtonnmongipaheaaGreatDoor

namespace Go.Proofs.YtonnmongipaheaaGreatDoor
open Go.RowKit
set_option linter.unusedVariables false
set_option linter.unusedSimpArgs false

def AnyBool (w : World) (e : Ending) (w' : World) : Prop := ∃ b : Bool, e = .returned (.bool b) ∧ w = w'

set_option maxRecDepth 100000 in
set_option maxHeartbeats 4000000 in
theorem shouldRound_any (w : World) (b nd : Nat) (n : Int) (c : Nat → Nat) (dp : Int) (ng tr : Bool) (h : Dec w b c nd dp ng tr) (hnd : nd ≤ 800) (hn : -1000000000 ≤ n ∧ n ≤ 1000000000) :
    Calls Tryz.prog 112 #[.pointer (some ⟨b, 0, none⟩), .int .i64 n] w (AnyBool w) := by
  have y1 := h.nd_
  have y2 := h.tr_
  obtain ⟨j1, j2⟩ := hn
  by_cases h0 : n < 0
  · have z1 : decide (n < 0) = true := by simpa using h0
    clear h
    go_enter Tryz.func112, Tryz.ntmps112
    go_wp2_with (fail)
    go_ret
    exact ⟨_, rfl, rfl⟩
  · have z1 : decide (n < 0) = false := by simpa using h0
    obtain ⟨n, rfl⟩ : ∃ m : Nat, n = m := ⟨n.toNat, by omega⟩
    by_cases h1 : nd ≤ n
    · have z2 : decide (nd ≤ n) = true := by simpa using h1
      clear h
      go_enter Tryz.func112, Tryz.ntmps112
      go_wp2_with (fail)
      go_ret
      exact ⟨_, rfl, rfl⟩
    · have z2 : decide (nd ≤ n) = false := by simpa using h1
      have y3 := h.dig (i := n) (by omega)
      have i1 : (0 : Int) ≤ (n : Int) := by omega
      have i2 : (n : Int) < 800 := by omega
      by_cases hn0 : 0 < n
      · obtain ⟨m, hm⟩ : ∃ m, m = n - 1 := ⟨_, rfl⟩
        have y4 := h.dig (i := m) (by omega)
        have z3 : decide (0 < n) = true := by simpa using hn0
        have i3 : (0 : Int) ≤ (m : Int) := by omega
        have i4 : (m : Int) < 800 := by omega
        have e1 : ((n : Int) - 1) = (m : Int) := by omega
        clear h hm
        go_enter Tryz.func112, Tryz.ntmps112
        go_wp2_with (fail)
        all_goals go_ret
        all_goals exact ⟨_, rfl, rfl⟩
      · obtain rfl : n = 0 := by omega
        clear h
        go_enter Tryz.func112, Tryz.ntmps112
        go_wp2_with (fail)
        all_goals go_ret
        all_goals exact ⟨_, rfl, rfl⟩

def AnyU64 (w : World) (e : Ending) (w' : World) : Prop := ∃ n : Int, e = .returned (.int .u64 n) ∧ w = w'

set_option maxRecDepth 100000 in
set_option maxHeartbeats 4000000 in
theorem rounded_any (w : World) (b nd : Nat) (c : Nat → Nat) (dp : Int) (ng tr : Bool) (h : DecG w b c nd dp ng tr) (hn : -1000000000 ≤ dp ∧ dp ≤ 1000000000) :
    Calls Tryz.prog 106 #[.pointer (some ⟨b, 0, none⟩)] w (AnyU64 w) := by
  have y1 := h.1.nd_
  have y2 := h.1.dp_
  have n2 := h.2.2.1
  have H := hide h
  have hc := shouldRound_any w b nd dp c dp ng tr h.1 h.2.2.1 hn
  obtain ⟨j1, j2⟩ := hn
  clear h
  by_cases h20 : 20 < dp
  · go_enter Tryz.func106, Tryz.ntmps106
    go_wp2_with (fail)
    go_ret
    exact ⟨_, rfl, rfl⟩
  · go_enter Tryz.func106, Tryz.ntmps106
    go_wp2_with (fail)
    go_loopw [3, 4] (fun i n wr => ∃ (k : Nat) (m : Int), i = .int .i64 (k : Int) ∧ n = .int .u64 m ∧ k ≤ 20 ∧ w = wr) (fun i _ _ => 20 - (intOf i).toNat)
    case atStart => exact ⟨0, 0, rfl, rfl, by omega, rfl⟩
    case round =>
      obtain ⟨k, m, rfl, rfl, hk, rfl⟩ := hrel
      by_cases hlt : (k : Int) < dp ∧ k < nd
      · obtain ⟨l1, l2⟩ := hlt
        have z1 : decide ((k : Int) < dp) = true := by simpa using l1
        have z2 : decide (k < nd) = true := by simpa using l2
        have y3 := H.out.1.dig (i := k) (by omega)
        have i1 : (0 : Int) ≤ (k : Int) := by omega
        have i2 : (k : Int) < 800 := by omega
        go_wp2_with (fail)
        go_roundw
        case rel => exact ⟨k + 1, _, by go_num, rfl, by omega, by first | rfl | trivial⟩
        case measure => simp [intOf]; omega
      · have hw : decide ((k : Int) < dp) = false ∨ (decide ((k : Int) < dp) = true ∧ decide (k < nd) = false) := by
          by_cases l1 : (k : Int) < dp
          · right
            refine ⟨by simpa using l1, ?_⟩
            have : ¬ k < nd := fun l2 => hlt ⟨l1, l2⟩
            simpa using this
          · left; simpa using l1
        clear hlt
        rcases hw with z1 | ⟨z1, z2⟩
        all_goals
          go_wp2_with (fail)
          go_loopw [3, 4] (fun i n wr => ∃ (k : Nat) (m : Int), i = .int .i64 (k : Int) ∧ n = .int .u64 m ∧ k ≤ 20 ∧ w = wr) (fun i _ _ => 20 - (intOf i).toNat)
          case atStart => exact ⟨k, m, rfl, rfl, hk, rfl⟩
          case round =>
            clear z1
            obtain ⟨k, m, rfl, rfl, hk, rfl⟩ := hrel
            by_cases l1 : (k : Int) < dp
            · have z1 : decide ((k : Int) < dp) = true := by simpa using l1
              go_wp2_with (fail)
              go_roundw
              case rel => exact ⟨k + 1, _, by go_num, rfl, by omega, by first | rfl | trivial⟩
              case measure => simp [intOf]; omega
            · have z1 : decide ((k : Int) < dp) = false := by simpa using l1
              go_wp2_with (go_at_call 112; refine hc.mono ?_; rintro x w' ⟨r, rfl, rfl⟩; cases r)
              all_goals go_ret
              all_goals exact ⟨_, rfl, rfl⟩
end Go.Proofs.YtonnmongipaheaaGreatDoor
