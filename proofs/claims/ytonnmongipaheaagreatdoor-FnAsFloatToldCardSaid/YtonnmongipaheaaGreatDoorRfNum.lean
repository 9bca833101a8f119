/- internal/strconv.readFloat at the digits of a whole number, and at a text without digits. -/
import Derived.Test.YtonnmongipaheaaGreatDoorRfRest
import Derived.Test.YtonnmongipaheaaGreatDoorNum
namespace Go.Proofs.YtonnmongipaheaaGreatDoor
open Go.RowKit
set_option linter.unusedVariables false
set_option linter.unusedSimpArgs false

/-- The digits of a text from byte j on. -/
def dg (s : ByteArray) (j : Nat) : Nat → Nat := fun i => byteAt s (j + i) - 48

/-- A text is the L digits of a whole number, behind a minus sign where ng says so (j = 1, else 0). -/
structure NumS (s : ByteArray) (ng : Bool) (j L : Nat) : Prop where
  jn : j = if ng then 1 else 0
  size : s.size = j + L
  lo : 1 ≤ L
  hi : L ≤ 15
  sign : ng = true → byteAt s 0 = 45
  dig : ∀ i, i < L → 48 ≤ byteAt s (j + i) ∧ byteAt s (j + i) ≤ 57
  lead : byteAt s j = 48 → s.size = 1

def numV (s : ByteArray) (j L : Nat) : Nat := pre (dg s j) L

theorem pre_lt {d : Nat → Nat} : ∀ {n : Nat}, (∀ i, i < n → d i ≤ 9) → pre d n < 10 ^ n
  | 0, _ => by simp [pre]
  | n + 1, h => by
    have h1 := pre_lt (d := d) (n := n) (fun i hi => h i (by omega))
    have h2 := h n (by omega)
    simp only [pre]
    rw [Nat.pow_succ]
    omega

theorem pre_lt15 {d : Nat → Nat} {n : Nat} (hn : n ≤ 15) (h : ∀ i, i < n → d i ≤ 9) : pre d n < 1000000000000000 := by
  have h1 := pre_lt h
  have h2 : (10 : Nat) ^ n ≤ 10 ^ 15 := Nat.pow_le_pow_right (by omega) hn
  have h3 : (10 : Nat) ^ 15 = 1000000000000000 := by decide
  omega

def ReadIs (m : Nat) (ng : Bool) (n : Nat) (w : World) (x : Ending) (w' : World) : Prop :=
  x = .returned (.tuple #[.int .u64 (m : Int), .int .i64 0, .bool ng, .bool false, .bool false, .int .i64 (n : Int), .bool true]) ∧ w = w'

set_option maxRecDepth 1000000 in
set_option maxHeartbeats 4000000 in
theorem read_zero (s : ByteArray) (w : World) (hs : s.size = 1) (h0 : byteAt s 0 = 48) : Calls Tryz.prog 79 #[.string s] w (ReadIs 0 false s.size w) := by
  have hx0 : (s[0]'(by omega)).toNat = 48 := (byteAt_eq (by omega)).trans h0
  have hsz : ((s.size : Nat) : Int) = 1 := by omega
  have HS := hide2 hs
  go_enter Tryz.func79, Tryz.ntmps79
  go_wp2_with (fail)
  refine wp_scope_same (fun _ _ _ h => h) ?_
  go_wp2_with (go_at_call 92; refine (lower_any _ _).mono ?_; rintro u w9 ⟨rfl, rfl⟩)
  go_step3
  go_wp2_with (fail)
  refine wp_loop_rounds 2 ?_
  rw [rounds_succ]
  go_wp2_with (fail)
  rw [rounds_succ]
  go_wp2_with (fail)
  (refine bodyPost_ret (results_tmp7 rfl _ _ _) rfl ?_)
  exact ⟨by rw [HS.out]; rfl, rfl⟩


set_option maxRecDepth 1000000 in
set_option maxHeartbeats 4000000 in
theorem read_num_true (s : ByteArray) (L : Nat) (w : World) (h : NumS s true 1 L) (hnz : byteAt s 1 ≠ 48) : Calls Tryz.prog 79 #[.string s] w (ReadIs (numV s 1 L) true s.size w) := by
  have hL1 := h.lo
  have hL2 := h.hi
  have hsz : ((s.size : Nat) : Int) = ((L : Nat) : Int) + 1 := by have := h.size; omega
  have hszN := hide2 h.size
  have H := hide2 h
  have h0 : 0 < s.size := by have := h.size; omega
  obtain ⟨x0, hx0⟩ : ∃ x, byteAt s 0 = x := ⟨_, rfl⟩
  have hx0' : (s[0]'h0).toNat = x0 := (byteAt_eq h0).trans hx0
  have hs0 : x0 = 45 := by rw [← hx0]; exact h.sign rfl
  subst hs0
  obtain ⟨y0, hy0⟩ : ∃ y, byteAt s 1 = y := ⟨_, rfl⟩
  have h1s : 1 < s.size := by have := h.size; omega
  have hy0' : (s[1]'h1s).toNat = y0 := (byteAt_eq h1s).trans hy0
  have hy48 : (((y0 : Nat) : Int) == 48) = false := by rw [beq_eq_false_iff_ne]; rw [← hy0]; intro hh; exact hnz (by omega)
  clear hy0
  have HX := hide2 hx0
  have HNZ := hide2 hnz
  clear h hx0 hnz
  go_enter Tryz.func79, Tryz.ntmps79
  go_wp2_with (fail)
  refine wp_scope_same (fun _ _ _ h => h) ?_
  have h2s : decide ((3 : Int) < ((L : Nat) : Int) + 1) = true ∨ decide ((3 : Int) < ((L : Nat) : Int) + 1) = false := by cases decide ((3 : Int) < ((L : Nat) : Int) + 1) <;> simp
  rcases h2s with h2 | h2
  all_goals go_wp2_with (go_at_call 92; refine (lower_any _ _).mono ?_; rintro u w9 ⟨rfl, rfl⟩)
  all_goals
    go_step3
    go_wp2_with (fail)
    go_loopg [2, 5, 7, 9, 13, 14, 15, 16, 17] L (fun gg mm t5 r u9 sd sg n15 n16 d17 wr2 => ∃ (i m : Nat) (b14 : Bool), i + gg = L ∧ mm = .int .u64 (m : Int) ∧ t5 = .bool false ∧ r = .int .i64 (((i : Nat) : Int) + 1) ∧ u9 = .bool false ∧ sd = .bool false ∧ sg = .bool b14 ∧ n15 = .int .i64 (i : Int) ∧ n16 = .int .i64 (i : Int) ∧ d17 = .int .i64 0 ∧
        i ≤ L ∧ m ≤ 1000000000000000 ∧ Hid (m = pre (dg s 1) i) ∧ Hid (1 ≤ i → b14 = true) ∧ w = wr2)
    case atStart => exact ⟨0, 0, false, by omega, rfl, rfl, rfl, rfl, rfl, rfl, rfl, rfl, rfl, by omega, by omega, hide2 rfl, hide2 (by omega), rfl⟩
    case round =>
      obtain ⟨i, m, b14, hg, rfl, rfl, rfl, rfl, rfl, rfl, rfl, rfl, rfl, hi, hmb, hm, hb14, rfl⟩ := hrel
      by_cases hlt : i < L
      · have hltS : i + 1 < s.size := by have := hszN.out; omega
        obtain ⟨x, hx⟩ : ∃ x, byteAt s (1 + i) = x := ⟨_, rfl⟩
        have hx' : (s[i + 1]'hltS).toNat = x := (byteAt_eq hltS).trans (by rw [show i + 1 = 1 + i by omega]; exact hx)
        obtain ⟨x1, x2⟩ := H.out.dig i hlt
        rw [hx] at x1 x2
        have HM : Hid (m * 10 + (x - 48) = pre (dg s 1) (i + 1) ∧ m * 10 + (x - 48) ≤ 1000000000000000 ∧ m ≤ 100000000000000) := hide2 (by
          have e1 : pre (dg s 1) (i + 1) = m * 10 + (x - 48) := by
            simp only [pre]; rw [← hm.out]; unfold dg; rw [hx]
          have e2 := pre_lt15 (d := dg s 1) (n := i + 1) (by omega) (fun j hj => by have := H.out.dig j (by omega); unfold dg; omega)
          exact ⟨e1.symm, by omega, by omega⟩)
        have hm14 : m ≤ 100000000000000 := HM.out.2.2
        obtain ⟨m', hm'⟩ : ∃ m', m' = m * 10 + (x - 48) := ⟨_, rfl⟩
        have f1 : ((m : Nat) : Int) * 10 + (((x : Nat) : Int) - 48) = ((m' : Nat) : Int) := by omega
        have HM2 : Hid (m' = pre (dg s 1) (i + 1) ∧ m' ≤ 1000000000000000) := hide2 ⟨by rw [hm']; exact HM.out.1, by rw [hm']; exact HM.out.2.1⟩
        have k1 : (((x : Nat) : Int) == 95) = false := by rw [beq_eq_false_iff_ne]; omega
        have k2 : (((x : Nat) : Int) == 46) = false := by rw [beq_eq_false_iff_ne]; omega
        have k3 : decide ((48 : Int) ≤ ((x : Nat) : Int)) = true := by simp; omega
        have k4 : decide (((x : Nat) : Int) ≤ 57) = true := by simp; omega
        have k5 : (((x : Nat) : Int) == 48) = false ∨ ((((x : Nat) : Int) == 48) = true ∧ (((i : Nat) : Int) == 0) = false) := by
          by_cases h1 : x = 48
          · right
            refine ⟨by rw [beq_iff_eq]; omega, ?_⟩
            rw [beq_eq_false_iff_ne]
            intro h0
            have : i = 0 := by omega
            rw [this] at hx
            exact HNZ.out (hx.trans h1)
          · left; rw [beq_eq_false_iff_ne]; omega
        have HX2 := hide2 hx
        clear hx hm' hm
        rcases k5 with k5 | ⟨k5, k6⟩
        all_goals
          go_wp2_with (fail)
          go_roundg (L - (i + 1))
          case measure => omega
          case rel => exact ⟨i + 1, m', true, by omega, by go_num, rfl, by go_num, rfl, rfl, rfl, by go_num, by go_num, rfl, by omega, HM2.out.2, hide2 HM2.out.1, hide2 (fun _ => rfl), by first | rfl | trivial⟩
      · obtain rfl : i = L := by omega
        have hbt := hb14.out (by omega)
        subst hbt
        have HV : Hid (m = numV s 1 i) := hm
        clear hm hb14 hlt
        by_cases hm0 : m = 0
        · subst hm0
          go_wp2_with (fail)
          (refine bodyPost_ret (results_tmp7 rfl _ _ _) rfl ?_)
          have eS : s.size = i + 1 := by have := hszN.out; omega
          unfold ReadIs
          rw [eS, ← HV.out]
          exact ⟨rfl, rfl⟩
        · have hm0' : (((m : Nat) : Int) != 0) = true := by rw [bne_iff_ne]; omega
          go_wp2_with (fail)
          (refine bodyPost_ret (results_tmp7 rfl _ _ _) rfl ?_)
          have eS : s.size = i + 1 := by have := hszN.out; omega
          unfold ReadIs
          rw [eS, ← HV.out]
          exact ⟨rfl, rfl⟩


set_option maxRecDepth 1000000 in
set_option maxHeartbeats 4000000 in
theorem read_num_false (s : ByteArray) (L : Nat) (w : World) (h : NumS s false 0 L) (hnz : byteAt s 0 ≠ 48) : Calls Tryz.prog 79 #[.string s] w (ReadIs (numV s 0 L) false s.size w) := by
  have hL1 := h.lo
  have hL2 := h.hi
  have hsz : ((s.size : Nat) : Int) = ((L : Nat) : Int) := by have := h.size; omega
  have hszN := hide2 h.size
  have H := hide2 h
  have h0 : 0 < s.size := by have := h.size; omega
  obtain ⟨x0, hx0⟩ : ∃ x, byteAt s 0 = x := ⟨_, rfl⟩
  have hx0' : (s[0]'h0).toNat = x0 := (byteAt_eq h0).trans hx0
  obtain ⟨d1, d2⟩ := h.dig 0 (by omega)
  rw [Nat.zero_add, hx0] at d1 d2
  have g1 : (((x0 : Nat) : Int) == 43) = false := by rw [beq_eq_false_iff_ne]; omega
  have g2 : (((x0 : Nat) : Int) == 45) = false := by rw [beq_eq_false_iff_ne]; omega
  have g3 : (((x0 : Nat) : Int) == 48) = false := by rw [beq_eq_false_iff_ne]; rw [← hx0]; intro hh; exact hnz (by omega)
  have HX := hide2 hx0
  have HNZ := hide2 hnz
  clear h hx0 hnz
  go_enter Tryz.func79, Tryz.ntmps79
  go_wp2_with (fail)
  refine wp_scope_same (fun _ _ _ h => h) ?_
  have h2s : decide ((2 : Int) < ((L : Nat) : Int)) = true ∨ decide ((2 : Int) < ((L : Nat) : Int)) = false := by cases decide ((2 : Int) < ((L : Nat) : Int)) <;> simp
  rcases h2s with h2 | h2
  all_goals go_wp2_with (go_at_call 92; refine (lower_any _ _).mono ?_; rintro u w9 ⟨rfl, rfl⟩)
  all_goals
    go_step3
    go_wp2_with (fail)
    go_loopg [2, 5, 7, 9, 13, 14, 15, 16, 17] L (fun gg mm t5 r u9 sd sg n15 n16 d17 wr2 => ∃ (i m : Nat) (b14 : Bool), i + gg = L ∧ mm = .int .u64 (m : Int) ∧ t5 = .bool false ∧ r = .int .i64 ((i : Nat) : Int) ∧ u9 = .bool false ∧ sd = .bool false ∧ sg = .bool b14 ∧ n15 = .int .i64 (i : Int) ∧ n16 = .int .i64 (i : Int) ∧ d17 = .int .i64 0 ∧
        i ≤ L ∧ m ≤ 1000000000000000 ∧ Hid (m = pre (dg s 0) i) ∧ Hid (1 ≤ i → b14 = true) ∧ w = wr2)
    case atStart => exact ⟨0, 0, false, by omega, rfl, rfl, rfl, rfl, rfl, rfl, rfl, rfl, rfl, by omega, by omega, hide2 rfl, hide2 (by omega), rfl⟩
    case round =>
      obtain ⟨i, m, b14, hg, rfl, rfl, rfl, rfl, rfl, rfl, rfl, rfl, rfl, hi, hmb, hm, hb14, rfl⟩ := hrel
      by_cases hlt : i < L
      · have hltS : i < s.size := by have := hszN.out; omega
        obtain ⟨x, hx⟩ : ∃ x, byteAt s (0 + i) = x := ⟨_, rfl⟩
        have hx' : (s[i]'hltS).toNat = x := (byteAt_eq hltS).trans (by rw [show i = 0 + i by omega]; exact hx)
        obtain ⟨x1, x2⟩ := H.out.dig i hlt
        rw [hx] at x1 x2
        have HM : Hid (m * 10 + (x - 48) = pre (dg s 0) (i + 1) ∧ m * 10 + (x - 48) ≤ 1000000000000000 ∧ m ≤ 100000000000000) := hide2 (by
          have e1 : pre (dg s 0) (i + 1) = m * 10 + (x - 48) := by
            simp only [pre]; rw [← hm.out]; unfold dg; rw [hx]
          have e2 := pre_lt15 (d := dg s 0) (n := i + 1) (by omega) (fun j hj => by have := H.out.dig j (by omega); unfold dg; omega)
          exact ⟨e1.symm, by omega, by omega⟩)
        have hm14 : m ≤ 100000000000000 := HM.out.2.2
        obtain ⟨m', hm'⟩ : ∃ m', m' = m * 10 + (x - 48) := ⟨_, rfl⟩
        have f1 : ((m : Nat) : Int) * 10 + (((x : Nat) : Int) - 48) = ((m' : Nat) : Int) := by omega
        have HM2 : Hid (m' = pre (dg s 0) (i + 1) ∧ m' ≤ 1000000000000000) := hide2 ⟨by rw [hm']; exact HM.out.1, by rw [hm']; exact HM.out.2.1⟩
        have k1 : (((x : Nat) : Int) == 95) = false := by rw [beq_eq_false_iff_ne]; omega
        have k2 : (((x : Nat) : Int) == 46) = false := by rw [beq_eq_false_iff_ne]; omega
        have k3 : decide ((48 : Int) ≤ ((x : Nat) : Int)) = true := by simp; omega
        have k4 : decide (((x : Nat) : Int) ≤ 57) = true := by simp; omega
        have k5 : (((x : Nat) : Int) == 48) = false ∨ ((((x : Nat) : Int) == 48) = true ∧ (((i : Nat) : Int) == 0) = false) := by
          by_cases h1 : x = 48
          · right
            refine ⟨by rw [beq_iff_eq]; omega, ?_⟩
            rw [beq_eq_false_iff_ne]
            intro h0
            have : i = 0 := by omega
            rw [this] at hx
            exact HNZ.out (hx.trans h1)
          · left; rw [beq_eq_false_iff_ne]; omega
        have HX2 := hide2 hx
        clear hx hm' hm
        rcases k5 with k5 | ⟨k5, k6⟩
        all_goals
          go_wp2_with (fail)
          go_roundg (L - (i + 1))
          case measure => omega
          case rel => exact ⟨i + 1, m', true, by omega, by go_num, rfl, by go_num, rfl, rfl, rfl, by go_num, by go_num, rfl, by omega, HM2.out.2, hide2 HM2.out.1, hide2 (fun _ => rfl), by first | rfl | trivial⟩
      · obtain rfl : i = L := by omega
        have hbt := hb14.out (by omega)
        subst hbt
        have HV : Hid (m = numV s 0 i) := hm
        clear hm hb14 hlt
        by_cases hm0 : m = 0
        · subst hm0
          go_wp2_with (fail)
          (refine bodyPost_ret (results_tmp7 rfl _ _ _) rfl ?_)
          have eS : s.size = i := by have := hszN.out; omega
          unfold ReadIs
          rw [eS, ← HV.out]
          exact ⟨rfl, rfl⟩
        · have hm0' : (((m : Nat) : Int) != 0) = true := by rw [bne_iff_ne]; omega
          go_wp2_with (fail)
          (refine bodyPost_ret (results_tmp7 rfl _ _ _) rfl ?_)
          have eS : s.size = i := by have := hszN.out; omega
          unfold ReadIs
          rw [eS, ← HV.out]
          exact ⟨rfl, rfl⟩

end Go.Proofs.YtonnmongipaheaaGreatDoor
