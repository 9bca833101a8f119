/- internal/strconv.floatBits returns. -/
import Derived.Test.YtonnmongipaheaaGreatDoorFb0
namespace Go.Proofs.YtonnmongipaheaaGreatDoor
open Go.RowKit
set_option linter.unusedVariables false
set_option linter.unusedSimpArgs false

set_option maxRecDepth 1000000 in
set_option maxHeartbeats 8000000 in
theorem bits_any (B : Nat) (w : World) (b nd : Nat) (c : Nat → Nat) (dp : Int) (ng tr : Bool) (hT : Tab B w) (hB : B ≤ b) (h : Dec w b c nd dp ng tr) (hz : nd ≠ 0 → DecG w b c nd dp ng tr) (hdp : -1000000 ≤ dp ∧ dp ≤ 1000000) :
    Calls Tryz.prog 86 #[.pointer (some ⟨b, 0, none⟩), .pointer (some ⟨5, 0, none⟩)] w (BitsPost b w) := by
  have y1 := h.nd_
  have y2 := h.dp_
  have t0 := hT.inf0
  have t1 := hT.inf1
  have t2 := hT.inf2
  have HD := hide h
  have HZ := hide hz
  have HT := hide hT
  have HB := hide hB
  obtain ⟨j1, j2⟩ := hdp
  obtain ⟨q, o, hq, hp1, hp2⟩ := hT.pow
  have HQ : Hid (∀ w', Only b w w' → w'.cell? ⟨7, 0, none⟩ = some (.slice (some ⟨q, o, none⟩) 9 9) ∧ ∀ k, k < 9 → ∃ n : Nat, 1 ≤ n ∧ n ≤ 26 ∧ w'.cell? ⟨q, o + k, none⟩ = some (.int .i64 n)) := hide (fun w' ho => by
    refine ⟨ho.cell hp1 (by have := hT.big; show 7 ≠ b; omega), fun k hk => ?_⟩
    obtain ⟨n, a1, a2, a3⟩ := hp2 k hk
    exact ⟨n, a1, a2, ho.cell a3 (by show q ≠ b; omega)⟩)
  clear h hz hT hB hp1 hp2 hq
  go_enter Tryz.func86, Tryz.ntmps86
  go_wp2_with (fail)
  refine wp_scope_two (AtOut b ng w B) (AtOver b ng w B) (r0 := fbOut) (r1 := fbOver) (by kernel_rfl) (by kernel_rfl) (fun _ _ _ h => h) ?_ (fun a w' h => out_part b ng w B a w' h) (fun a w' h => over_part b ng w B a w' h)
  by_cases hn0 : nd = 0
  · subst hn0
    go_wp2_with (fail)
    go_step3
    show AtOut b ng w B _ _; exact ⟨⟨rfl, rfl, rfl, rfl, ⟨_, _, _, _, HD.out⟩, HT.out, Only.refl _ _⟩, ⟨_, rfl⟩, ⟨_, rfl⟩, ⟨_, rfl⟩⟩
  · have hG := hide (HZ.out hn0)
    have hn1 : (((nd : Nat) : Int) == 0) = false := by rw [beq_eq_false_iff_ne]; omega
    clear hn0 HZ
    by_cases hd1 : 310 < dp
    · go_wp2_with (fail)
      go_step3
      show AtOver b ng w B _ _; exact ⟨rfl, rfl, rfl, rfl, ⟨_, _, _, _, HD.out⟩, HT.out, Only.refl _ _⟩
    · by_cases hd2 : dp < -330
      · go_wp2_with (fail)
        go_step3
        show AtOut b ng w B _ _; exact ⟨⟨rfl, rfl, rfl, rfl, ⟨_, _, _, _, HD.out⟩, HT.out, Only.refl _ _⟩, ⟨_, rfl⟩, ⟨_, rfl⟩, ⟨_, rfl⟩⟩
      · go_wp2_with (fail)
        go_loopg [6] 3200 (fun g e wr => ∃ (x : Int) (c1 : Nat → Nat) (nd1 : Nat) (dp1 : Int) (tr1 : Bool), e = .int .i64 x ∧ 0 ≤ x ∧ x ≤ 27 * (3200 - (g : Int)) ∧ dp1 ≤ 310 ∧ -900 ≤ dp1 ∧ Hid (10 * dp1 + (c1 0 : Int) ≤ (g : Int)) ∧ Hid (DecG wr b c1 nd1 dp1 ng tr1) ∧ Hid (Only b w wr))
        case atStart =>
          refine ⟨0, c, nd, dp, tr, rfl, by omega, by omega, by omega, by omega, hide ?_, hG, hide (Only.refl _ _)⟩
          have := (hG.out.2.2.2.1 0 (by have := hG.out.2.1; omega)).2
          omega
        case round =>
          obtain ⟨x, c1, nd1, dp1, tr1, rfl, hx0, hx1, hd3, hd4, hm, hG1, hO1⟩ := hrel
          have z1 := hG1.out.1.dp_
          have z2 := hG1.out.1.dig (i := 0) (by omega)
          have hc1 : 49 ≤ c1 0 ∧ c1 0 ≤ 57 := ⟨hG1.out.2.2.2.2, (hG1.out.2.2.2.1 0 (by have := hG1.out.2.1; omega)).2⟩
          have HC1 := hide hc1
          have HX := hide hx1
          have z3 := (HQ.out _ hO1.out).1
          by_cases hpos : 0 < dp1
          · have hgg : 1 ≤ gk := by have := hm.out; omega
            have hxb : x ≤ 86400 := by omega
            clear hx1 hc1
            by_cases h9 : 9 ≤ dp1
            · have hR := shift_right wr b nd1 27 c1 dp1 ng tr1 hG1.out (by omega) (by omega) ⟨by omega, by omega⟩
              go_wp2_with (fail)
              go_quiet (fail)
              go_wp2_with (go_at_call 105; refine (shift_right _ b nd1 27 c1 dp1 ng tr1 ⟨hG1.out.1.drewN _, hG1.out.2⟩ (by omega) (by omega) ⟨by omega, by omega⟩).mono ?_; rintro y w2 ⟨rfl, c2, nd2, dp2, tr2, hp, q1, q2, q3, q4⟩; have G2 := hide hp; have Q3 := hide q3; have O2 := hide q4; clear hp q3 q4)
              go_roundg (gk - 1)
              case measure => omega
              case rel =>
                refine ⟨x + 27, c2, nd2, dp2, tr2, by go_num, by omega, ?_, by omega, by omega, hide ?_, G2, hide ((hO1.out.drewN _).trans O2.out)⟩
                · have := HX.out; omega
                · have e1 := hm.out
                  have e2 := HC1.out
                  have e3 := (G2.out.2.2.2.1 0 (by have := G2.out.2.1; omega)).2
                  by_cases he : dp2 = dp1
                  · have := Q3.out he; omega
                  · omega
            · obtain ⟨n, rfl⟩ : ∃ n : Nat, dp1 = n := ⟨dp1.toNat, by omega⟩
              obtain ⟨pw, p1, p2, p3⟩ := (HQ.out _ hO1.out).2 n (by omega)
              have i1 : (0 : Int) ≤ (n : Int) := by omega
              have i2 : (n : Int) < 9 := by omega
              go_wp2_with (fail)
              go_quiet (fail)
              go_wp2_with (fail)
              go_quiet (fail)
              go_wp2_with (go_at_call 105; refine (shift_right _ b nd1 pw c1 n ng tr1 ⟨hG1.out.1.drewN _, hG1.out.2⟩ (by omega) (by omega) ⟨by omega, by omega⟩).mono ?_; rintro y w2 ⟨rfl, c2, nd2, dp2, tr2, hp, q1, q2, q3, q4⟩; have G2 := hide hp; have Q3 := hide q3; have O2 := hide q4; clear hp q3 q4)
              go_roundg (gk - 1)
              case measure => omega
              case rel =>
                refine ⟨x + pw, c2, nd2, dp2, tr2, by go_num, by omega, ?_, by omega, by omega, hide ?_, G2, hide ((hO1.out.drewN _).trans O2.out)⟩
                · have := HX.out; omega
                · have e1 := hm.out
                  have e2 := HC1.out
                  have e3 := (G2.out.2.2.2.1 0 (by have := G2.out.2.1; omega)).2
                  by_cases he : dp2 = n
                  · have := Q3.out he; omega
                  · omega
          · have hxb : x ≤ 86400 := by omega
            clear hx1 hm HX
            go_wp2_with (fail)
            go_loopg [6] 9100 (fun g e wr2 => ∃ (x : Int) (c1 : Nat → Nat) (nd1 : Nat) (dp1 : Int) (tr1 : Bool), e = .int .i64 x ∧ x ≤ 86400 ∧ -27 * (9100 - (g : Int)) ≤ x ∧ dp1 ≤ 60 ∧ -900 ≤ dp1 ∧ Hid (-10 * dp1 - (c1 0 : Int) + 57 ≤ (g : Int)) ∧ Hid (DecG wr2 b c1 nd1 dp1 ng tr1) ∧ Hid (Only b w wr2))
            case atStart =>
              refine ⟨x, c1, nd1, dp1, tr1, rfl, by omega, by omega, by omega, by omega, hide ?_, hG1, hO1⟩
              have := HC1.out
              omega
            case round =>
              clear z1 z2 z3 HC1 hc1 hpos hx0 hxb hd3 hd4 hG1 hO1
              obtain ⟨x, c1, nd1, dp1, tr1, rfl, hx0, hx1, hd3, hd4, hm, hG1, hO1⟩ := hrel
              have z1 := hG1.out.1.dp_
              have z2 := hG1.out.1.dig (i := 0) (by omega)
              have hc1 : 49 ≤ c1 0 ∧ c1 0 ≤ 57 := ⟨hG1.out.2.2.2.2, (hG1.out.2.2.2.1 0 (by have := hG1.out.2.1; omega)).2⟩
              have HC1 := hide hc1
              have HX := hide hx1
              have z3 := (HQ.out _ hO1.out).1
              by_cases hgo : dp1 < 0 ∨ (dp1 = 0 ∧ c1 0 < 53)
              · have hgg : 1 ≤ gk := by have := hm.out; omega
                have HM : Hid (∀ dp2 (c2 : Nat → Nat), dp1 ≤ dp2 → (dp2 = dp1 → c1 0 < c2 0) → 49 ≤ c2 0 → -10 * dp2 - (c2 0 : Int) + 57 ≤ ((gk - 1 : Nat) : Int)) := hide (fun dp2 c2 e1 e2 e3 => by
                  have e4 := hm.out
                  have e5 := HC1.out
                  by_cases he : dp2 = dp1
                  · have := e2 he; omega
                  · omega)
                obtain ⟨n, hn⟩ : ∃ n : Nat, -dp1 = n := ⟨(-dp1).toNat, by omega⟩
                have hn2 : n ≤ 900 := by omega
                have hsp : (decide (dp1 < 0) = true) ∨ (decide (dp1 < 0) = false ∧ (dp1 == 0) = true ∧ decide (((c1 0 : Nat) : Int) < 53) = true) := by
                  by_cases hh : dp1 < 0
                  · left; simpa using hh
                  · right
                    have : dp1 = 0 ∧ c1 0 < 53 := by omega
                    exact ⟨by simpa using hh, by simpa using this.1, by simp; omega⟩
                have hT2 := hide (HT.out.only hO1.out HB.out)
                have hxl : -300000 ≤ x := by omega
                clear hx1 hc1 hm hgo
                rcases hsp with hs1 | ⟨hs1, hs2, hs3⟩
                all_goals
                  by_cases h9 : 9 ≤ n
                  · have h9' : decide ((9 : Int) ≤ (n : Int)) = true := by simp; omega
                    go_wp2_with (fail)
                    go_quiet (fail)
                    go_wp2_with (go_at_call 105; refine (shift_left B _ b nd1 27 c1 dp1 ng tr1 (hT2.out.drewN _) HB.out ⟨hG1.out.1.drewN _, hG1.out.2⟩ (by omega) (by omega) ⟨by omega, by omega⟩).mono ?_; rintro y w2 ⟨rfl, c2, nd2, dp2, tr2, hp, q1, q2, q3, q4⟩; have G2 := hide hp; have Q3 := hide q3; have O2 := hide q4; clear hp q3 q4)
                    go_roundg (gk - 1)
                    case measure => omega
                    case rel =>
                      refine ⟨x - 27, c2, nd2, dp2, tr2, by go_num, by omega, ?_, by omega, by omega, hide (HM.out dp2 c2 q1 Q3.out G2.out.2.2.2.2), G2, hide ((hO1.out.drewN _).trans O2.out)⟩
                      have := HX.out; omega
                  · have h9' : decide ((9 : Int) ≤ (n : Int)) = false := by simp; omega
                    obtain ⟨pw, p1, p2, p3⟩ := (HQ.out _ hO1.out).2 n (by omega)
                    have i1 : (0 : Int) ≤ (n : Int) := by omega
                    have i2 : (n : Int) < 9 := by omega
                    go_wp2_with (fail)
                    go_quiet (fail)
                    go_wp2_with (fail)
                    go_quiet (fail)
                    go_wp2_with (go_at_call 105; refine (shift_left B _ b nd1 pw c1 dp1 ng tr1 (hT2.out.drewN _) HB.out ⟨hG1.out.1.drewN _, hG1.out.2⟩ (by omega) (by omega) ⟨by omega, by omega⟩).mono ?_; rintro y w2 ⟨rfl, c2, nd2, dp2, tr2, hp, q1, q2, q3, q4⟩; have G2 := hide hp; have Q3 := hide q3; have O2 := hide q4; clear hp q3 q4)
                    go_roundg (gk - 1)
                    case measure => omega
                    case rel =>
                      refine ⟨x - pw, c2, nd2, dp2, tr2, by go_num, by omega, ?_, by omega, by omega, hide (HM.out dp2 c2 q1 Q3.out G2.out.2.2.2.2), G2, hide ((hO1.out.drewN _).trans O2.out)⟩
                      have := HX.out; omega
              · have hsp : (decide (dp1 < 0) = false ∧ (dp1 == 0) = false) ∨ (decide (dp1 < 0) = false ∧ (dp1 == 0) = true ∧ decide (((c1 0 : Nat) : Int) < 53) = false) := by
                  by_cases hh : dp1 = 0
                  · right
                    have : ¬ c1 0 < 53 := by omega
                    exact ⟨by simp; omega, by simpa using hh, by simp; omega⟩
                  · left
                    exact ⟨by simp; omega, by simpa using hh⟩
                have hxl : -300000 ≤ x := by have := HX.out; omega
                have hT2 := hide (HT.out.only hO1.out HB.out)
                have s0 := hT2.out.inf0
                have s1 := hT2.out.inf1
                have s2 := hT2.out.inf2
                clear hx1 hc1 hm hgo HX
                rcases hsp with ⟨hs1, hs2⟩ | ⟨hs1, hs2, hs3⟩
                all_goals
                  by_cases hlow : x - 1 < -1022
                  · obtain ⟨k, hk⟩ : ∃ k : Nat, -1022 - (x - 1) = k := ⟨(-1022 - (x - 1)).toNat, by omega⟩
                    have hk1 : 1 ≤ k := by omega
                    have hk2 : k ≤ 300000 := by omega
                    have hk3 : x - 1 + (k : Int) = -1022 := by omega
                    have hF := shift_far wr b nd1 k c1 dp1 ng tr1 hG1.out hk1 (by omega) ⟨by omega, by omega⟩
                    go_wp2_with (go_at_call 105; refine hF.mono ?_; rintro y w2 ⟨rfl, c2, nd2, dp2, tr2, hp, q1, q2, q4⟩; have G2 := hide hp; have O2 := hide q4; have T2 := hide (Tab.only hT2.out O2.out HB.out); have r0 := T2.out.inf0; have r1 := T2.out.inf1; have r2 := T2.out.inf2; clear hp q4)
                    go_quiet (fail)
                    go_wp2_with (go_at_call 105; refine (shift_left B _ b nd2 53 c2 dp2 ng tr2 (T2.out.drewN _) HB.out ⟨G2.out.1.drewN _, G2.out.2⟩ (by omega) (by omega) ⟨by omega, by omega⟩).mono ?_; rintro y w3 ⟨rfl, c3, nd3, dp3, tr3, hp, q1, q2, q3, q4⟩; have G3 := hide hp; have O3 := hide q4; have RA := hide (rounded_any _ b nd3 c3 dp3 ng tr3 hp ⟨by omega, by omega⟩); have T3 := hide (Tab.only (T2.out.drewN _) O3.out HB.out); have s0 := T3.out.inf0; have s1 := T3.out.inf1; have s2 := T3.out.inf2; clear hp q3 q4)
                    go_wp2_with (go_at_call 106; refine RA.out.mono ?_; rintro y w4 ⟨m, rfl, rfl⟩)
                    · go_quiet (fail)
                      go_wp2_with (fail)
                      all_goals
                        go_step3
                        first
                          | (show AtOver b ng w B _ _; exact ⟨rfl, rfl, rfl, rfl, ⟨_, _, _, _, G3.out.1.drewN _⟩, T3.out.drewN _, (Only.trans ((hO1.out.trans O2.out).drewN _) O3.out).drewN _⟩)
                          | (show AtOut b ng w B _ _; exact ⟨⟨rfl, rfl, rfl, rfl, ⟨_, _, _, _, G3.out.1.drewN _⟩, T3.out.drewN _, (Only.trans ((hO1.out.trans O2.out).drewN _) O3.out).drewN _⟩, ⟨_, rfl⟩, ⟨_, rfl⟩, ⟨_, rfl⟩⟩)
                    all_goals
                      go_step3
                      show AtOut b ng w B _ _
                      exact ⟨⟨rfl, rfl, rfl, rfl, ⟨_, _, _, _, G3.out.1⟩, T3.out, Only.trans ((hO1.out.trans O2.out).drewN _) O3.out⟩, ⟨_, rfl⟩, ⟨_, rfl⟩, ⟨_, rfl⟩⟩
                  · go_wp2_with (fail)
                    go_quiet (fail)
                    go_wp2_with (go_at_call 105; refine (shift_left B _ b nd1 53 c1 dp1 ng tr1 (hT2.out.drewN _) HB.out ⟨hG1.out.1.drewN _, hG1.out.2⟩ (by omega) (by omega) ⟨by omega, by omega⟩).mono ?_; rintro y w3 ⟨rfl, c3, nd3, dp3, tr3, hp, q1, q2, q3, q4⟩; have G3 := hide hp; have O3 := hide q4; have RA := hide (rounded_any _ b nd3 c3 dp3 ng tr3 hp ⟨by omega, by omega⟩); have T3 := hide (Tab.only (hT2.out.drewN _) O3.out HB.out); have s0 := T3.out.inf0; have s1 := T3.out.inf1; have s2 := T3.out.inf2; clear hp q3 q4)
                    · go_step3
                      show AtOver b ng w B _ _
                      exact ⟨rfl, rfl, rfl, rfl, ⟨_, _, _, _, hG1.out.1.drewN _⟩, hT2.out.drewN _, hO1.out.drewN _⟩
                    go_wp2_with (go_at_call 106; refine RA.out.mono ?_; rintro y w4 ⟨m, rfl, rfl⟩)
                    · go_quiet (fail)
                      go_wp2_with (fail)
                      all_goals
                        go_step3
                        first
                          | (show AtOver b ng w B _ _; exact ⟨rfl, rfl, rfl, rfl, ⟨_, _, _, _, G3.out.1.drewN _⟩, T3.out.drewN _, (Only.trans (hO1.out.drewN _) O3.out).drewN _⟩)
                          | (show AtOut b ng w B _ _; exact ⟨⟨rfl, rfl, rfl, rfl, ⟨_, _, _, _, G3.out.1.drewN _⟩, T3.out.drewN _, (Only.trans (hO1.out.drewN _) O3.out).drewN _⟩, ⟨_, rfl⟩, ⟨_, rfl⟩, ⟨_, rfl⟩⟩)
                    all_goals
                      go_step3
                      show AtOut b ng w B _ _
                      exact ⟨⟨rfl, rfl, rfl, rfl, ⟨_, _, _, _, G3.out.1⟩, T3.out, Only.trans (hO1.out.drewN _) O3.out⟩, ⟨_, rfl⟩, ⟨_, rfl⟩, ⟨_, rfl⟩⟩
end Go.Proofs.YtonnmongipaheaaGreatDoor
