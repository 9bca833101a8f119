/- internal/strconv.readFloat: behind the digits. internal/strconv.readFloat: the digits. internal/strconv.readFloat returns. -/
import Derived.Test.YtonnmongipaheaaGreatDoorRfExp
import Derived.Scope
namespace Go.Proofs.YtonnmongipaheaaGreatDoor
open Go.RowKit
set_option linter.unusedVariables false
set_option linter.unusedSimpArgs false


/-- The frame behind the digits. -/
def RfRestAt (s : ByteArray) (w0 : World) (a : Act) (w : World) : Prop :=
  w0 = w ∧ a.defers = [] ∧ a.tmps.size = 253 ∧ ∃ (m dp nm nd bs ec : Int) (ng tr hx us sd sg : Bool) (i : Nat), a.tmps.getD 0 undef = .string s ∧ a.tmps.getD 2 undef = .int .u64 m ∧ a.tmps.getD 3 undef = .int .i64 0 ∧ a.tmps.getD 4 undef = .bool ng ∧ a.tmps.getD 5 undef = .bool tr ∧ a.tmps.getD 6 undef = .bool hx ∧ a.tmps.getD 7 undef = .int .i64 (i : Int) ∧ a.tmps.getD 8 undef = .bool false ∧ a.tmps.getD 9 undef = .bool us ∧ a.tmps.getD 10 undef = .int .u64 bs ∧ a.tmps.getD 12 undef = .int .u8 ec ∧ a.tmps.getD 16 undef = .int .i64 nm ∧ a.tmps.getD 17 undef = .int .i64 dp ∧ a.tmps.getD 13 undef = .bool sd ∧ a.tmps.getD 14 undef = .bool sg ∧ a.tmps.getD 15 undef = .int .i64 nd ∧ i ≤ s.size ∧ U64 m ∧ -200000 ≤ dp ∧ dp ≤ 200000 ∧ 0 ≤ nm ∧ nm ≤ 200000 ∧ 0 ≤ nd ∧ nd ≤ 200000

noncomputable def rfRest : Code := (Tryz.f79.body.bind (restFrom 51)).getD .skip

set_option maxRecDepth 1000000 in
set_option maxHeartbeats 8000000 in
theorem rf_rest (s : ByteArray) (hs : s.size ≤ 100000) (w0 : World) (a : Act) (w : World) (h : RfRestAt s w0 a w) : rfRest.wp Tryz.prog (bodyPost Tryz.prog Tryz.f79 (ReadPost s w0)) a w := by
  obtain ⟨rfl, hde, hsi, m, dp, nm, nd, bs, ec, ng, tr, hx, us, sd, sg, i, h0, h2, h3, h4, h5, h6, h7, h8, h9, h10, h12, h16, h17, h13, h14, h15, hi, hm, hd1, hd2, hn1, hn2, hn3, hn4⟩ := h
  obtain ⟨g, hg, ha⟩ := act_out253 hde hsi
  have e0 := (hg 0).trans h0
  have e2 := (hg 2).trans h2
  have e3 := (hg 3).trans h3
  have e4 := (hg 4).trans h4
  have e5 := (hg 5).trans h5
  have e6 := (hg 6).trans h6
  have e7 := (hg 7).trans h7
  have e8 := (hg 8).trans h8
  have e9 := (hg 9).trans h9
  have e10 := (hg 10).trans h10
  have e12 := (hg 12).trans h12
  have e16 := (hg 16).trans h16
  have e17 := (hg 17).trans h17
  have e13 := (hg 13).trans h13
  have e14 := (hg 14).trans h14
  have e15 := (hg 15).trans h15
  rw [ha, e0, e2, e3, e4, e5, e6, e7, e8, e9, e10, e12, e16, e17, e13, e14, e15]
  clear hg h0 h2 h3 h4 h5 h6 h7 h8 h9 h10 h12 h16 h17 h13 h14 h15 e0 e2 e3 e4 e5 e6 e7 e8 e9 e10 e12 e16 e17 e13 e14 e15 ha hde hsi
  have HM := hide2 hm
  clear hm
  conv => arg 2; whnf
  have hb : (bs == 16) = true ∨ (bs == 16) = false := by cases (bs == 16) <;> simp
  cases sg
  · go_wp2_with (fail)
    (refine bodyPost_ret (results_tmp7 rfl _ _ _) rfl ?_)
    exact ⟨_, _, _, _, _, i, _, rfl, HM.out, by omega, by omega, by omega, rfl⟩
  · cases sd
    all_goals
      go_upto_region 54 with (fail)
      rename_i K1 hK1 K2 hK2
      have HK1 : ∀ a' w', RfExpAt s w0 a' w' → K1 a' w' := fun a' w' h => hK1 a' w' (rf_exp s hs w0 a' w' h)
      clear hK1
      rcases hb with hb | hb
      all_goals
        go_wp2_with (fail)
        exact ⟨rfl, rfl, rfl, _, _, _, _, _, _, _, _, _, i, rfl, rfl, rfl, rfl, rfl, rfl, rfl, rfl, rfl, rfl, rfl, rfl, rfl, hi, HM.out, by omega, by omega, by omega, by omega⟩
end Go.Proofs.YtonnmongipaheaaGreatDoor

namespace Go.Proofs.YtonnmongipaheaaGreatDoor
open Go.RowKit
set_option linter.unusedVariables false
set_option linter.unusedSimpArgs false


/-- The frame ahead of the digits. -/
def RfMidAt (s : ByteArray) (w0 : World) (a : Act) (w : World) : Prop :=
  w0 = w ∧ a.defers = [] ∧ a.tmps.size = 253 ∧ ∃ (bs mx ec : Int) (ng tr hx us : Bool) (i : Nat), a.tmps.getD 0 undef = .string s ∧ a.tmps.getD 2 undef = .int .u64 0 ∧ a.tmps.getD 3 undef = .int .i64 0 ∧ a.tmps.getD 4 undef = .bool ng ∧ a.tmps.getD 5 undef = .bool tr ∧ a.tmps.getD 6 undef = .bool hx ∧ a.tmps.getD 7 undef = .int .i64 (i : Int) ∧ a.tmps.getD 8 undef = .bool false ∧ a.tmps.getD 9 undef = .bool us ∧ a.tmps.getD 10 undef = .int .u64 bs ∧ a.tmps.getD 11 undef = .int .i64 mx ∧ a.tmps.getD 12 undef = .int .u8 ec ∧ i ≤ s.size

noncomputable def rfMid : Code := (Tryz.f79.body.bind (restFrom 18)).getD .skip

set_option maxRecDepth 1000000 in
set_option maxHeartbeats 8000000 in
theorem rf_mid (s : ByteArray) (hs : s.size ≤ 100000) (w0 : World) (a : Act) (w : World) (h : RfMidAt s w0 a w) : rfMid.wp Tryz.prog (bodyPost Tryz.prog Tryz.f79 (ReadPost s w0)) a w := by
  obtain ⟨rfl, hde, hsi, bs, mx, ec, ng, tr, hx, us, i0, h0, h2, h3, h4, h5, h6, h7, h8, h9, h10, h11, h12, hi0⟩ := h
  obtain ⟨g, hg, ha⟩ := act_out253 hde hsi
  have e0 := (hg 0).trans h0
  have e2 := (hg 2).trans h2
  have e3 := (hg 3).trans h3
  have e4 := (hg 4).trans h4
  have e5 := (hg 5).trans h5
  have e6 := (hg 6).trans h6
  have e7 := (hg 7).trans h7
  have e8 := (hg 8).trans h8
  have e9 := (hg 9).trans h9
  have e10 := (hg 10).trans h10
  have e11 := (hg 11).trans h11
  have e12 := (hg 12).trans h12
  rw [ha, e0, e2, e3, e4, e5, e6, e7, e8, e9, e10, e11, e12]
  clear hg h0 h2 h3 h4 h5 h6 h7 h8 h9 h10 h11 h12 e0 e2 e3 e4 e5 e6 e7 e8 e9 e10 e11 e12 ha hde hsi
  conv => arg 2; whnf
  go_wp2_with (fail)
  go_step3
  go_wp2_with (fail)
  rename_i K hK
  have HK : ∀ a' w', RfRestAt s w0 a' w' → K a' w' := fun a' w' h => hK a' w' (rf_rest s hs w0 a' w' h)
  clear hK
  go_loopg [2, 5, 7, 9, 13, 14, 15, 16, 17] (s.size - i0) (fun gg mm t5 r u9 sd sg n15 n16 d17 wr2 => ∃ (i : Nat) (m nd nm dp : Int) (tr us b13 b14 : Bool), i + gg = s.size ∧ i ≤ s.size ∧ mm = .int .u64 m ∧ t5 = .bool tr ∧ r = .int .i64 (i : Int) ∧ u9 = .bool us ∧ sd = .bool b13 ∧ sg = .bool b14 ∧ n15 = .int .i64 nd ∧ n16 = .int .i64 nm ∧ d17 = .int .i64 dp ∧
      0 ≤ nd ∧ nd ≤ i ∧ 0 ≤ nm ∧ nm ≤ i ∧ -(i : Int) ≤ dp ∧ dp ≤ i ∧ Hid (U64 m) ∧ w0 = wr2)
  case atStart => exact ⟨i0, 0, 0, 0, 0, tr, us, false, false, by omega, hi0, rfl, rfl, rfl, rfl, rfl, rfl, rfl, rfl, rfl, by omega, by omega, by omega, by omega, by omega, by omega, hide2 (by unfold U64; omega), rfl⟩
  case round =>
    clear us tr
    obtain ⟨i, m, nd, nm, dp, tr, us, b13, b14, hg, hi, rfl, rfl, rfl, rfl, rfl, rfl, rfl, rfl, rfl, d1, d2, d3, d4, d5, d6, HM, rfl⟩ := hrel
    by_cases hlt : i < s.size
    · obtain ⟨x, hx⟩ : ∃ x : Nat, (s[i]'hlt).toNat = x := ⟨_, rfl⟩
      have hlt' : decide (i < s.size) = true := by simpa using hlt
      have hmx : decide (nm < mx) = true ∨ decide (nm < mx) = false := by cases decide (nm < mx) <;> simp
      by_cases hx95 : x = 95
      · subst hx95
        clear hmx
        go_wp2_with (fail)
        go_roundg (s.size - (i + 1))
        case measure => omega
        case rel => exact ⟨i + 1, _, _, _, _, _, _, _, _, by omega, by omega, rfl, rfl, by go_num, rfl, rfl, rfl, rfl, rfl, rfl, by omega, by omega, by omega, by omega, by omega, by omega, HM, by first | rfl | trivial⟩
      · have k1 : (((x : Nat) : Int) == 95) = false := by rw [beq_eq_false_iff_ne]; omega
        by_cases hx46 : x = 46
        · subst hx46
          clear hmx
          cases b13
          · go_wp2_with (fail)
            go_roundg (s.size - (i + 1))
            case measure => omega
            case rel => exact ⟨i + 1, _, _, _, _, _, _, _, _, by omega, by omega, rfl, rfl, by go_num, rfl, rfl, rfl, rfl, rfl, rfl, by omega, by omega, by omega, by omega, by omega, by omega, HM, by first | rfl | trivial⟩
          · go_wp2_with (fail)
            exact ⟨rfl, rfl, rfl, _, _, _, _, _, _, _, _, _, _, _, _, i, rfl, rfl, rfl, rfl, rfl, rfl, rfl, rfl, rfl, rfl, rfl, rfl, rfl, rfl, rfl, rfl, hi, HM.out, by omega, by omega, by omega, by omega, by omega, by omega⟩
        · have k2 : (((x : Nat) : Int) == 46) = false := by rw [beq_eq_false_iff_ne]; omega
          by_cases hxd : 48 ≤ x ∧ x ≤ 57
          · obtain ⟨x1, x2⟩ := hxd
            have k3 : decide ((48 : Int) ≤ ((x : Nat) : Int)) = true := by simp; omega
            have k4 : decide (((x : Nat) : Int) ≤ 57) = true := by simp; omega
            by_cases hz : x = 48 ∧ nd = 0
            · obtain ⟨rfl, rfl⟩ := hz
              clear hmx
              go_wp2_with (fail)
              go_roundg (s.size - (i + 1))
              case measure => omega
              case rel => exact ⟨i + 1, _, _, _, _, _, _, _, _, by omega, by omega, rfl, rfl, by go_num, rfl, rfl, rfl, rfl, rfl, rfl, by omega, by omega, by omega, by omega, by omega, by omega, HM, by first | rfl | trivial⟩
            · have k5 : (((x : Nat) : Int) == 48) = false ∨ ((((x : Nat) : Int) == 48) = true ∧ (nd == 0) = false) := by
                by_cases h1 : x = 48
                · right; exact ⟨by rw [beq_iff_eq]; omega, by rw [beq_eq_false_iff_ne]; omega⟩
                · left; rw [beq_eq_false_iff_ne]; omega
              clear hz
              rcases k5 with k5 | ⟨k5, k6⟩
              all_goals rcases hmx with hmx | hmx
              all_goals
                go_wp2_with (fail)
                all_goals
                  go_roundg (s.size - (i + 1))
                  case measure => omega
                  case rel => exact ⟨i + 1, _, _, _, _, _, _, _, _, by omega, by omega, rfl, rfl, by go_num, rfl, rfl, rfl, rfl, rfl, rfl, by omega, by omega, by omega, by omega, by omega, by omega, (by first | exact HM | exact hide2 (U64.wrap _)), by first | rfl | trivial⟩
          · have k3 : decide ((48 : Int) ≤ ((x : Nat) : Int)) = false ∨ (decide ((48 : Int) ≤ ((x : Nat) : Int)) = true ∧ decide (((x : Nat) : Int) ≤ 57) = false) := by
              by_cases h1 : 48 ≤ x
              · right; exact ⟨by simp; omega, by simp; omega⟩
              · left; simp; omega
            have hb : (bs == 16) = true ∨ (bs == 16) = false := by cases (bs == 16) <;> simp
            have hl1 : decide ((97 : Int) ≤ lowerB (x : Int)) = true ∨ decide ((97 : Int) ≤ lowerB (x : Int)) = false := by cases decide ((97 : Int) ≤ lowerB (x : Int)) <;> simp
            have hl2 : decide (lowerB (x : Int) ≤ 102) = true ∨ decide (lowerB (x : Int) ≤ 102) = false := by cases decide (lowerB (x : Int) ≤ 102) <;> simp
            clear hxd
            rcases k3 with k3 | ⟨k3, k4⟩
            all_goals
              rcases hb with hb | hb
              · rcases hl1 with hl1 | hl1
                · rcases hl2 with hl2 | hl2
                  · rcases hmx with hmx | hmx
                    all_goals
                      go_wp2_with (go_at_call 92; refine (lower_any _ _).mono ?_; rintro u w9 ⟨rfl, rfl⟩)
                      go_roundg (s.size - (i + 1))
                      case measure => omega
                      case rel => exact ⟨i + 1, _, _, _, _, _, _, _, _, by omega, by omega, rfl, rfl, by go_num, rfl, rfl, rfl, rfl, rfl, rfl, by omega, by omega, by omega, by omega, by omega, by omega, (by first | exact HM | exact hide2 (U64.wrap _)), by first | rfl | trivial⟩
                  · clear hmx
                    go_wp2_with (go_at_call 92; refine (lower_any _ _).mono ?_; rintro u w9 ⟨rfl, rfl⟩)
                    exact ⟨rfl, rfl, rfl, _, _, _, _, _, _, _, _, _, _, _, _, i, rfl, rfl, rfl, rfl, rfl, rfl, rfl, rfl, rfl, rfl, rfl, rfl, rfl, rfl, rfl, rfl, hi, HM.out, by omega, by omega, by omega, by omega, by omega, by omega⟩
                · clear hl2 hmx
                  go_wp2_with (go_at_call 92; refine (lower_any _ _).mono ?_; rintro u w9 ⟨rfl, rfl⟩)
                  exact ⟨rfl, rfl, rfl, _, _, _, _, _, _, _, _, _, _, _, _, i, rfl, rfl, rfl, rfl, rfl, rfl, rfl, rfl, rfl, rfl, rfl, rfl, rfl, rfl, rfl, rfl, hi, HM.out, by omega, by omega, by omega, by omega, by omega, by omega⟩
              · clear hl1 hl2 hmx
                go_wp2_with (go_at_call 92; refine (lower_any _ _).mono ?_; rintro u w9 ⟨rfl, rfl⟩)
                exact ⟨rfl, rfl, rfl, _, _, _, _, _, _, _, _, _, _, _, _, i, rfl, rfl, rfl, rfl, rfl, rfl, rfl, rfl, rfl, rfl, rfl, rfl, rfl, rfl, rfl, rfl, hi, HM.out, by omega, by omega, by omega, by omega, by omega, by omega⟩
    · have hlt' : decide (i < s.size) = false := by simpa using hlt
      go_wp2_with (fail)
      exact ⟨rfl, rfl, rfl, _, _, _, _, _, _, _, _, _, _, _, _, i, rfl, rfl, rfl, rfl, rfl, rfl, rfl, rfl, rfl, rfl, rfl, rfl, rfl, rfl, rfl, rfl, hi, HM.out, by omega, by omega, by omega, by omega, by omega, by omega⟩
end Go.Proofs.YtonnmongipaheaaGreatDoor

namespace Go.Proofs.YtonnmongipaheaaGreatDoor
open Go.RowKit
set_option linter.unusedVariables false
set_option linter.unusedSimpArgs false

theorem wp_scope_same {P : Program} {a : Act} {w : World} {Q : Exit → Act → World → Prop} {c : Code} (hQ : ∀ l a w, ¬ Q (.goto l) a w) (h : c.wp P Q a w) : (Code.scope c).wp P Q a w := by
  refine wp_scope_straight (wp_mono h ?_)
  intro e a w hq
  cases e with
  | goto l => exact absurd hq (hQ _ _ _)
  | normal => exact hq
  | exit id => exact hq
  | ret => exact hq
  | panic ch => exact hq
  | outgrown => exact hq

set_option maxRecDepth 1000000 in
set_option maxHeartbeats 8000000 in
theorem read_any (s : ByteArray) (w : World) (hs : s.size ≤ 100000) : Calls Tryz.prog 79 #[.string s] w (ReadPost s w) := by
  by_cases hn0 : s.size = 0
  · have hn0' : ((s.size : Nat) : Int) = 0 := by omega
    go_enter Tryz.func79, Tryz.ntmps79
    go_wp2_with (fail)
    refine wp_scope_same (fun _ _ _ h => h) ?_
    go_wp2_with (fail)
    (refine bodyPost_ret (results_tmp7 rfl _ _ _) rfl ?_)
    exact ⟨0, 0, _, _, _, 0, _, rfl, by unfold U64; omega, by omega, by omega, by omega, rfl⟩
  · have h0 : 0 < s.size := by omega
    have hn1 : (1 : Int) ≤ ((s.size : Nat) : Int) := by omega
    obtain ⟨x0, hx0⟩ : ∃ x : Nat, (s[0]'h0).toNat = x := ⟨_, rfl⟩
    have hsg : (((x0 : Nat) : Int) == 43) = true ∨ ((((x0 : Nat) : Int) == 43) = false ∧ (((x0 : Nat) : Int) == 45) = true) ∨ ((((x0 : Nat) : Int) == 43) = false ∧ (((x0 : Nat) : Int) == 45) = false) := by
      by_cases h1 : x0 = 43
      · left; rw [beq_iff_eq]; omega
      · by_cases h2 : x0 = 45
        · right; left; exact ⟨by rw [beq_eq_false_iff_ne]; omega, by rw [beq_iff_eq]; omega⟩
        · right; right; exact ⟨by rw [beq_eq_false_iff_ne]; omega, by rw [beq_eq_false_iff_ne]; omega⟩
    rcases hsg with g1 | ⟨g1, g2⟩ | ⟨g1, g2⟩
    · go_enter Tryz.func79, Tryz.ntmps79
      go_wp2_with (fail)
      refine wp_scope_same (fun _ _ _ h => h) ?_
      go_upto_region 12 with (fail)
      rename_i K1 hK1 K2 hK2
      have HK1 : ∀ a' w', RfMidAt s w a' w' → K1 a' w' := fun a' w' h => hK1 a' w' (rf_mid s hs w a' w' h)
      clear hK1
      by_cases h2 : 1 + 2 < s.size
      · obtain ⟨x, hx⟩ : ∃ x : Nat, (s[1]'(by omega)).toNat = x := ⟨_, rfl⟩
        obtain ⟨y, hy⟩ : ∃ y : Nat, (s[2]'(by omega)).toNat = y := ⟨_, rfl⟩
        have c1 : (((x : Nat) : Int) == 48) = true ∨ (((x : Nat) : Int) == 48) = false := by cases (((x : Nat) : Int) == 48) <;> simp
        have c2 : (lowerB (y : Int) == 120) = true ∨ (lowerB (y : Int) == 120) = false := by cases (lowerB (y : Int) == 120) <;> simp
        have h2' : decide (((1 + 2 : Nat) : Int) < ((s.size : Nat) : Int)) = true := by simp; omega
        rcases c1 with c1 | c1
        · rcases c2 with c2 | c2
          · go_wp2_with (go_at_call 92; refine (lower_any _ _).mono ?_; rintro u w9 ⟨rfl, rfl⟩)
            exact ⟨rfl, rfl, rfl, _, _, _, _, _, _, _, 1 + 2, rfl, rfl, rfl, rfl, rfl, rfl, rfl, rfl, rfl, rfl, rfl, rfl, by omega⟩
          · go_wp2_with (go_at_call 92; refine (lower_any _ _).mono ?_; rintro u w9 ⟨rfl, rfl⟩)
            exact ⟨rfl, rfl, rfl, _, _, _, _, _, _, _, 1, rfl, rfl, rfl, rfl, rfl, rfl, rfl, rfl, rfl, rfl, rfl, rfl, by omega⟩
        · go_wp2_with (go_at_call 92; refine (lower_any _ _).mono ?_; rintro u w9 ⟨rfl, rfl⟩)
          exact ⟨rfl, rfl, rfl, _, _, _, _, _, _, _, 1, rfl, rfl, rfl, rfl, rfl, rfl, rfl, rfl, rfl, rfl, rfl, rfl, by omega⟩
      · have h2' : decide (((1 + 2 : Nat) : Int) < ((s.size : Nat) : Int)) = false := by simp; omega
        go_wp2_with (go_at_call 92; refine (lower_any _ _).mono ?_; rintro u w9 ⟨rfl, rfl⟩)
        exact ⟨rfl, rfl, rfl, _, _, _, _, _, _, _, 1, rfl, rfl, rfl, rfl, rfl, rfl, rfl, rfl, rfl, rfl, rfl, rfl, by omega⟩
    · go_enter Tryz.func79, Tryz.ntmps79
      go_wp2_with (fail)
      refine wp_scope_same (fun _ _ _ h => h) ?_
      go_upto_region 12 with (fail)
      rename_i K1 hK1 K2 hK2
      have HK1 : ∀ a' w', RfMidAt s w a' w' → K1 a' w' := fun a' w' h => hK1 a' w' (rf_mid s hs w a' w' h)
      clear hK1
      by_cases h2 : 1 + 2 < s.size
      · obtain ⟨x, hx⟩ : ∃ x : Nat, (s[1]'(by omega)).toNat = x := ⟨_, rfl⟩
        obtain ⟨y, hy⟩ : ∃ y : Nat, (s[2]'(by omega)).toNat = y := ⟨_, rfl⟩
        have c1 : (((x : Nat) : Int) == 48) = true ∨ (((x : Nat) : Int) == 48) = false := by cases (((x : Nat) : Int) == 48) <;> simp
        have c2 : (lowerB (y : Int) == 120) = true ∨ (lowerB (y : Int) == 120) = false := by cases (lowerB (y : Int) == 120) <;> simp
        have h2' : decide (((1 + 2 : Nat) : Int) < ((s.size : Nat) : Int)) = true := by simp; omega
        rcases c1 with c1 | c1
        · rcases c2 with c2 | c2
          · go_wp2_with (go_at_call 92; refine (lower_any _ _).mono ?_; rintro u w9 ⟨rfl, rfl⟩)
            exact ⟨rfl, rfl, rfl, _, _, _, _, _, _, _, 1 + 2, rfl, rfl, rfl, rfl, rfl, rfl, rfl, rfl, rfl, rfl, rfl, rfl, by omega⟩
          · go_wp2_with (go_at_call 92; refine (lower_any _ _).mono ?_; rintro u w9 ⟨rfl, rfl⟩)
            exact ⟨rfl, rfl, rfl, _, _, _, _, _, _, _, 1, rfl, rfl, rfl, rfl, rfl, rfl, rfl, rfl, rfl, rfl, rfl, rfl, by omega⟩
        · go_wp2_with (go_at_call 92; refine (lower_any _ _).mono ?_; rintro u w9 ⟨rfl, rfl⟩)
          exact ⟨rfl, rfl, rfl, _, _, _, _, _, _, _, 1, rfl, rfl, rfl, rfl, rfl, rfl, rfl, rfl, rfl, rfl, rfl, rfl, by omega⟩
      · have h2' : decide (((1 + 2 : Nat) : Int) < ((s.size : Nat) : Int)) = false := by simp; omega
        go_wp2_with (go_at_call 92; refine (lower_any _ _).mono ?_; rintro u w9 ⟨rfl, rfl⟩)
        exact ⟨rfl, rfl, rfl, _, _, _, _, _, _, _, 1, rfl, rfl, rfl, rfl, rfl, rfl, rfl, rfl, rfl, rfl, rfl, rfl, by omega⟩
    · go_enter Tryz.func79, Tryz.ntmps79
      go_wp2_with (fail)
      refine wp_scope_same (fun _ _ _ h => h) ?_
      go_upto_region 12 with (fail)
      rename_i K1 hK1 K2 hK2
      have HK1 : ∀ a' w', RfMidAt s w a' w' → K1 a' w' := fun a' w' h => hK1 a' w' (rf_mid s hs w a' w' h)
      clear hK1
      by_cases h2 : 2 < s.size
      · obtain ⟨y, hy⟩ : ∃ y : Nat, (s[1]'(by omega)).toNat = y := ⟨_, rfl⟩
        have c1 : (((x0 : Nat) : Int) == 48) = true ∨ (((x0 : Nat) : Int) == 48) = false := by cases (((x0 : Nat) : Int) == 48) <;> simp
        have c2 : (lowerB (y : Int) == 120) = true ∨ (lowerB (y : Int) == 120) = false := by cases (lowerB (y : Int) == 120) <;> simp
        have h2' : decide (((2 : Nat) : Int) < ((s.size : Nat) : Int)) = true := by simp; omega
        rcases c1 with c1 | c1
        · rcases c2 with c2 | c2
          · go_wp2_with (go_at_call 92; refine (lower_any _ _).mono ?_; rintro u w9 ⟨rfl, rfl⟩)
            exact ⟨rfl, rfl, rfl, _, _, _, _, _, _, _, 2, rfl, rfl, rfl, rfl, rfl, rfl, rfl, rfl, rfl, rfl, rfl, rfl, by omega⟩
          · go_wp2_with (go_at_call 92; refine (lower_any _ _).mono ?_; rintro u w9 ⟨rfl, rfl⟩)
            exact ⟨rfl, rfl, rfl, _, _, _, _, _, _, _, 0, rfl, rfl, rfl, rfl, rfl, rfl, rfl, rfl, rfl, rfl, rfl, rfl, by omega⟩
        · go_wp2_with (go_at_call 92; refine (lower_any _ _).mono ?_; rintro u w9 ⟨rfl, rfl⟩)
          exact ⟨rfl, rfl, rfl, _, _, _, _, _, _, _, 0, rfl, rfl, rfl, rfl, rfl, rfl, rfl, rfl, rfl, rfl, rfl, rfl, by omega⟩
      · have h2' : decide (((2 : Nat) : Int) < ((s.size : Nat) : Int)) = false := by simp; omega
        go_wp2_with (go_at_call 92; refine (lower_any _ _).mono ?_; rintro u w9 ⟨rfl, rfl⟩)
        exact ⟨rfl, rfl, rfl, _, _, _, _, _, _, _, 0, rfl, rfl, rfl, rfl, rfl, rfl, rfl, rfl, rfl, rfl, rfl, rfl, by omega⟩
end Go.Proofs.YtonnmongipaheaaGreatDoor
