/- Plain floats: no operation that the library makes ahead of a whole number's answer gives a NaN; a whole number and its opposite. internal/strconv.atof64exact. -/
import Derived.Laws.FloatArith
import Derived.Test.YtonnmongipaheaaGreatDoorTab
import Derived.WalkLawsBesides
namespace Go.Proofs.YtonnmongipaheaaGreatDoor
open Go

theorem sw : Ieee.double.signWeight = 9223372036854775808 := by decide
theorem ir : Ieee.double.infRung = 9218868437227405312 := by decide
theorem bi : Ieee.double.binade = 4503599627370496 := by decide

/-- A word that is no NaN: a sign and a rung up to infinity's. -/
def GoodW (x : Nat) : Prop := ∃ (s : Bool) (r : Nat), r ≤ 9218868437227405312 ∧ x = if s then 9223372036854775808 + r else r

theorem word_good (s : Bool) (r : Nat) (h : r ≤ 9218868437227405312) : GoodW (Ieee.double.word s r) := ⟨s, r, h, by unfold Ieee.Format.word; rw [sw]⟩

theorem read_good {x : Nat} (h : GoodW x) : (∃ s m p, Ieee.double.read x = .number s m p) ∨ (∃ s, Ieee.double.read x = .infinity s) := by
  obtain ⟨s, r, hr, rfl⟩ := h
  have e1 : (if s then 9223372036854775808 + r else r) % 9223372036854775808 = r := by
    cases s
    · simp; omega
    · simp; omega
  unfold Ieee.Format.read
  simp only [sw, ir, bi, e1]
  split
  · exact .inl ⟨_, _, _, rfl⟩
  · split
    · exact .inl ⟨_, _, _, rfl⟩
    · split
      · exact .inr ⟨_, rfl⟩
      · omega

theorem nearest_rung (mag : Nat) (place : Int) : ∃ r, r ≤ 9218868437227405312 ∧ ∀ s, Ieee.double.nearest s mag place = Ieee.double.word s r := by
  unfold Ieee.Format.nearest
  by_cases h : mag = 0
  · exact ⟨0, by omega, fun s => by rw [if_pos h]⟩
  · refine ⟨min ((max (place + mag.log2 - Ieee.double.fractionBits) Ieee.double.leastPlace - Ieee.double.leastPlace).toNat * Ieee.double.binade + Ieee.Toward.even.cut false (mag <<< (place - max (place + mag.log2 - Ieee.double.fractionBits) Ieee.double.leastPlace).toNat) (max (place + mag.log2 - Ieee.double.fractionBits) Ieee.double.leastPlace - place).toNat) Ieee.double.infRung, ?_, fun s => ?_⟩
    · exact Nat.le_trans (Nat.min_le_right _ _) (by rw [ir]; exact Nat.le_refl _)
    · rw [if_neg h]
      rfl

theorem write_good {d : Ieee.Datum} (h : (∃ s m p, d = .number s m p) ∨ (∃ s, d = .infinity s)) : GoodW (Ieee.double.write d) := by
  rcases h with ⟨s, m, p, rfl⟩ | ⟨s, rfl⟩
  · obtain ⟨r, hr, hw⟩ := nearest_rung m p
    show GoodW (Ieee.double.nearest s m p)
    rw [hw s]
    exact word_good s r hr
  · show GoodW (Ieee.double.word s Ieee.double.infRung)
    rw [ir]
    exact word_good s _ (Nat.le_refl _)

theorem xor_top {r : Nat} (h : r < 9223372036854775808) : r ^^^ 9223372036854775808 = 9223372036854775808 + r := by
  have e : (9223372036854775808 : Nat) = 2 ^ 63 := by decide
  rw [e] at h ⊢
  apply Nat.eq_of_testBit_eq
  intro i
  rw [Nat.testBit_xor, Nat.testBit_two_pow]
  by_cases hi : i = 63
  · subst hi
    rw [Nat.testBit_two_pow_add_eq, Nat.testBit_lt_two_pow h]
    rfl
  · by_cases hl : i < 63
    · rw [Nat.testBit_two_pow_add_gt hl]
      have : decide (63 = i) = false := by simp; omega
      rw [this, Bool.xor_false]
    · have h1 : r.testBit i = false := Nat.testBit_lt_two_pow (Nat.lt_of_lt_of_le h (Nat.pow_le_pow_right (by omega) (by omega)))
      have h2 : (2 ^ 63 + r).testBit i = false := by
        apply Nat.testBit_lt_two_pow
        have h3 : (2 : Nat) ^ 64 ≤ 2 ^ i := Nat.pow_le_pow_right (by omega) (by omega)
        have h4 : (2 : Nat) ^ 64 = 2 * 2 ^ 63 := by decide
        omega
      have : decide (63 = i) = false := by simp; omega
      rw [h1, h2, this, Bool.xor_false]

theorem negFloat_eq (x : Nat) : Op.negFloat .f64 x = x ^^^ 9223372036854775808 := by
  unfold Op.negFloat
  have : 2 ^ (FloatKind.f64.format.exponentBits + FloatKind.f64.format.fractionBits) = 9223372036854775808 := by decide
  rw [this]

theorem neg_word (s : Bool) {r : Nat} (hr : r ≤ 9218868437227405312) : Op.negFloat .f64 (Ieee.double.word s r) = Ieee.double.word (!s) r := by
  rw [negFloat_eq]
  unfold Ieee.Format.word
  rw [sw]
  cases s
  · simp only [Bool.false_eq_true, if_false, Bool.not_false, if_true]
    exact xor_top (by omega)
  · simp only [if_true, Bool.not_true, Bool.false_eq_true, if_false]
    have := xor_top (r := r) (by omega)
    rw [← this, Nat.xor_assoc, Nat.xor_self, Nat.xor_zero]

theorem neg_good {x : Nat} (h : GoodW x) : GoodW (Op.negFloat .f64 x) := by
  obtain ⟨s, r, hr, rfl⟩ := h
  have e : (if s then 9223372036854775808 + r else r) = Ieee.double.word s r := by unfold Ieee.Format.word; rw [sw]
  rw [e, neg_word s hr]
  exact word_good _ _ hr

theorem ofInt_good (n : Int) : GoodW (floatOfInt .f64 n) := write_good (.inl ⟨_, _, _, rfl⟩)

/-- A whole number's opposite is its float's opposite. -/
theorem ofInt_neg (m : Nat) (hm : 0 < m) : Op.negFloat .f64 (floatOfInt .f64 (m : Int)) = floatOfInt .f64 (-(m : Int)) := by
  obtain ⟨r, hr, hw⟩ := nearest_rung m 0
  have e1 : floatOfInt .f64 (m : Int) = Ieee.double.nearest false m 0 := by
    show Ieee.double.nearest (decide ((m : Int) < 0)) (m : Int).natAbs 0 = _
    have : decide ((m : Int) < 0) = false := by simp
    rw [this]
    simp
  have e2 : floatOfInt .f64 (-(m : Int)) = Ieee.double.nearest true m 0 := by
    show Ieee.double.nearest (decide (-(m : Int) < 0)) (-(m : Int)).natAbs 0 = _
    have : decide (-(m : Int) < 0) = true := by simp; omega
    rw [this]
    simp
  rw [e1, e2, hw, hw, neg_word false hr]
  rfl

/-- A number above or below nought, as a word. -/
def NumW (y : Nat) : Prop := ∃ s m p, Ieee.double.read y = .number s (m + 1) p

theorem mul_good {x y : Nat} (hx : GoodW x) (hy : NumW y) : ∃ r, floatBits .mul .f64 x y = some r ∧ GoodW r := by
  obtain ⟨t, n, j, hn⟩ := hy
  show ∃ r, ((Ieee.double.read x).product (Ieee.double.read y)).map Ieee.double.write = some r ∧ GoodW r
  rw [hn]
  rcases read_good hx with ⟨s, m, p, h⟩ | ⟨s, h⟩
  · rw [h]
    exact ⟨_, rfl, write_good (.inl ⟨_, _, _, rfl⟩)⟩
  · rw [h]
    exact ⟨_, rfl, write_good (.inr ⟨_, rfl⟩)⟩

theorem div_good {x y : Nat} (hx : GoodW x) (hy : NumW y) : ∃ r, floatBits .quo .f64 x y = some r ∧ GoodW r := by
  obtain ⟨t, n, j, hn⟩ := hy
  show ∃ r, ((Ieee.double.read x).quotient (Ieee.double.fractionBits + 2) (Ieee.double.read y)).map Ieee.double.write = some r ∧ GoodW r
  rw [hn]
  rcases read_good hx with ⟨s, m, p, h⟩ | ⟨s, h⟩
  · rw [h]
    exact ⟨_, rfl, write_good (.inl ⟨_, _, _, rfl⟩)⟩
  · rw [h]
    exact ⟨_, rfl, write_good (.inr ⟨_, rfl⟩)⟩

/-- A word that is no NaN equals itself. -/
theorem good_eq {x : Nat} (h : GoodW x) : FloatKind.f64.format.order x x = some .eq := by
  show (Ieee.double.read x).order (Ieee.double.read x) = _
  rcases read_good h with ⟨s, m, p, h⟩ | ⟨s, h⟩
  · rw [h]
    simp [Ieee.Datum.order]
  · rw [h]
    simp [Ieee.Datum.order]
end Go.Proofs.YtonnmongipaheaaGreatDoor

namespace Go.Proofs.YtonnmongipaheaaGreatDoor
open Go.RowKit
set_option linter.unusedVariables false
set_option linter.unusedSimpArgs false

def ExactPost (w : World) (x : Ending) (w' : World) : Prop := (∃ f ok, x = .returned (.tuple #[.float .f64 f, .bool ok])) ∧ w = w'

set_option maxRecDepth 100000 in
set_option maxHeartbeats 2000000 in
theorem exact_any (B : Nat) (w : World) (m : Nat) (p : Int) (ng : Bool) (hT : Tab B w) (hp : -1000 ≤ p ∧ p ≤ 1000) :
    Calls Tryz.prog 89 #[.int .u64 m, .int .i64 p, .bool ng] w (ExactPost w) := by
  obtain ⟨p1, p2⟩ := hp
  have s0 := hT.inf0
  obtain ⟨q, o, hq, hc1, hc2⟩ := hT.f10
  obtain ⟨X, hX⟩ : ∃ X, floatOfInt .f64 (m : Int) = X := ⟨_, rfl⟩
  have GX : Hid (GoodW X) := by have := ofInt_good (m : Int); rw [hX] at this; exact this
  have hng : (Op.unary .neg (.float .f64 X)).run Tryz.prog w = .ok (.float .f64 (Op.negFloat .f64 X)) w := rfl
  have GY : Hid (GoodW (Op.negFloat .f64 X)) := neg_good GX.out
  have HC : Hid (∀ k, k < 23 → ∃ y, w.cell? ⟨q, o + k, none⟩ = some (.float .f64 y) ∧ NumW y) := fun k hk => by
    obtain ⟨y, m, e, h1, h2⟩ := hc2 k hk
    exact ⟨y, h1, _, _, _, h2⟩
  clear hT hc2 hq
  cases ng
  · by_cases h0 : p = 0
    · subst h0
      go_enter Tryz.func89, Tryz.ntmps89
      go_wp2_with (fail)
      all_goals go_ret2
      all_goals exact ⟨⟨_, _, rfl⟩, rfl⟩
    · have h0' : (p == 0) = false := by rw [beq_eq_false_iff_ne]; exact h0
      by_cases hpos : 0 < p ∧ p ≤ 37
      · obtain ⟨hpos1, hpos2⟩ := hpos
        have z1 : decide (0 < p) = true := by simpa using hpos1
        have z2 : decide (p ≤ 37) = true := by simpa using hpos2
        by_cases h22 : 22 < p
        · obtain ⟨k, hk⟩ : ∃ k : Nat, p - 22 = k := ⟨(p - 22).toNat, by omega⟩
          have hk2 : k < 23 := by omega
          obtain ⟨y, hy, ny⟩ := HC.out k hk2
          obtain ⟨y2, hy2, ny2⟩ := HC.out 22 (by omega)
          obtain ⟨r, hr, gr⟩ := mul_good (x := X) GX.out ny
          obtain ⟨r2, hr2, gr2⟩ := mul_good gr ny2
          have m1 := run_float_arith (P := Tryz.prog) w .mul 22 .f64 _ _ _ hr
          have m2 := run_float_arith (P := Tryz.prog) w .mul 22 .f64 _ _ _ hr2
          have i1 : (0 : Int) ≤ (k : Int) := by omega
          have i2 : (k : Int) < 23 := by omega
          clear ny ny2 hr hr2 gr gr2 hk2
          go_enter Tryz.func89, Tryz.ntmps89
          go_wp2_with (fail)
          all_goals go_ret2
          all_goals exact ⟨⟨_, _, rfl⟩, rfl⟩
        · obtain ⟨k, rfl⟩ : ∃ k : Nat, p = k := ⟨p.toNat, by omega⟩
          obtain ⟨y, hy, ny⟩ := HC.out k (by omega)
          obtain ⟨r, hr, gr⟩ := mul_good (x := X) GX.out ny
          have m1 := run_float_arith (P := Tryz.prog) w .mul 22 .f64 _ _ _ hr
          have i1 : (0 : Int) ≤ (k : Int) := by omega
          have i2 : (k : Int) < 23 := by omega
          clear ny hr gr
          go_enter Tryz.func89, Tryz.ntmps89
          go_wp2_with (fail)
          all_goals go_ret2
          all_goals exact ⟨⟨_, _, rfl⟩, rfl⟩
      · have kk : decide (0 < p) = false ∨ (decide (0 < p) = true ∧ decide (p ≤ 37) = false) := by
          by_cases h : 0 < p
          · right; exact ⟨by simpa using h, by simp; omega⟩
          · left; simpa using h
        by_cases hneg : p < 0 ∧ -22 ≤ p
        · obtain ⟨hneg1, hneg2⟩ := hneg
          have z3 : decide (p < 0) = true := by simpa using hneg1
          have z4 : decide (-22 ≤ p) = true := by simpa using hneg2
          obtain ⟨k, hk⟩ : ∃ k : Nat, -p = k := ⟨(-p).toNat, by omega⟩
          have hk2 : k < 23 := by omega
          obtain ⟨y, hy, ny⟩ := HC.out k hk2
          obtain ⟨r, hr, gr⟩ := div_good (x := X) GX.out ny
          have m1 := run_float_arith (P := Tryz.prog) w .quo 22 .f64 _ _ _ hr
          have i1 : (0 : Int) ≤ (k : Int) := by omega
          have i2 : (k : Int) < 23 := by omega
          clear ny hr gr hk2 hpos
          rcases kk with k1 | ⟨k1, k2⟩
          all_goals
            go_enter Tryz.func89, Tryz.ntmps89
            go_wp2_with (fail)
            all_goals go_ret2
            all_goals exact ⟨⟨_, _, rfl⟩, rfl⟩
        · have kn : decide (p < 0) = false ∨ (decide (p < 0) = true ∧ decide (-22 ≤ p) = false) := by
            by_cases h : p < 0
            · right; exact ⟨by simpa using h, by simp; omega⟩
            · left; simpa using h
          clear hpos hneg
          rcases kk with k1 | ⟨k1, k2⟩
          all_goals rcases kn with k3 | ⟨k3, k4⟩
          all_goals
            go_enter Tryz.func89, Tryz.ntmps89
            go_wp2_with (fail)
            all_goals go_ret2
            all_goals exact ⟨⟨_, _, rfl⟩, rfl⟩
  · by_cases h0 : p = 0
    · subst h0
      go_enter Tryz.func89, Tryz.ntmps89
      go_wp2_with (fail)
      all_goals go_ret2
      all_goals exact ⟨⟨_, _, rfl⟩, rfl⟩
    · have h0' : (p == 0) = false := by rw [beq_eq_false_iff_ne]; exact h0
      by_cases hpos : 0 < p ∧ p ≤ 37
      · obtain ⟨hpos1, hpos2⟩ := hpos
        have z1 : decide (0 < p) = true := by simpa using hpos1
        have z2 : decide (p ≤ 37) = true := by simpa using hpos2
        by_cases h22 : 22 < p
        · obtain ⟨k, hk⟩ : ∃ k : Nat, p - 22 = k := ⟨(p - 22).toNat, by omega⟩
          have hk2 : k < 23 := by omega
          obtain ⟨y, hy, ny⟩ := HC.out k hk2
          obtain ⟨y2, hy2, ny2⟩ := HC.out 22 (by omega)
          obtain ⟨r, hr, gr⟩ := mul_good (x := Op.negFloat .f64 X) GY.out ny
          obtain ⟨r2, hr2, gr2⟩ := mul_good gr ny2
          have m1 := run_float_arith (P := Tryz.prog) w .mul 22 .f64 _ _ _ hr
          have m2 := run_float_arith (P := Tryz.prog) w .mul 22 .f64 _ _ _ hr2
          have i1 : (0 : Int) ≤ (k : Int) := by omega
          have i2 : (k : Int) < 23 := by omega
          clear ny ny2 hr hr2 gr gr2 hk2
          go_enter Tryz.func89, Tryz.ntmps89
          go_wp2_with (fail)
          all_goals go_ret2
          all_goals exact ⟨⟨_, _, rfl⟩, rfl⟩
        · obtain ⟨k, rfl⟩ : ∃ k : Nat, p = k := ⟨p.toNat, by omega⟩
          obtain ⟨y, hy, ny⟩ := HC.out k (by omega)
          obtain ⟨r, hr, gr⟩ := mul_good (x := Op.negFloat .f64 X) GY.out ny
          have m1 := run_float_arith (P := Tryz.prog) w .mul 22 .f64 _ _ _ hr
          have i1 : (0 : Int) ≤ (k : Int) := by omega
          have i2 : (k : Int) < 23 := by omega
          clear ny hr gr
          go_enter Tryz.func89, Tryz.ntmps89
          go_wp2_with (fail)
          all_goals go_ret2
          all_goals exact ⟨⟨_, _, rfl⟩, rfl⟩
      · have kk : decide (0 < p) = false ∨ (decide (0 < p) = true ∧ decide (p ≤ 37) = false) := by
          by_cases h : 0 < p
          · right; exact ⟨by simpa using h, by simp; omega⟩
          · left; simpa using h
        by_cases hneg : p < 0 ∧ -22 ≤ p
        · obtain ⟨hneg1, hneg2⟩ := hneg
          have z3 : decide (p < 0) = true := by simpa using hneg1
          have z4 : decide (-22 ≤ p) = true := by simpa using hneg2
          obtain ⟨k, hk⟩ : ∃ k : Nat, -p = k := ⟨(-p).toNat, by omega⟩
          have hk2 : k < 23 := by omega
          obtain ⟨y, hy, ny⟩ := HC.out k hk2
          obtain ⟨r, hr, gr⟩ := div_good (x := Op.negFloat .f64 X) GY.out ny
          have m1 := run_float_arith (P := Tryz.prog) w .quo 22 .f64 _ _ _ hr
          have i1 : (0 : Int) ≤ (k : Int) := by omega
          have i2 : (k : Int) < 23 := by omega
          clear ny hr gr hk2 hpos
          rcases kk with k1 | ⟨k1, k2⟩
          all_goals
            go_enter Tryz.func89, Tryz.ntmps89
            go_wp2_with (fail)
            all_goals go_ret2
            all_goals exact ⟨⟨_, _, rfl⟩, rfl⟩
        · have kn : decide (p < 0) = false ∨ (decide (p < 0) = true ∧ decide (-22 ≤ p) = false) := by
            by_cases h : p < 0
            · right; exact ⟨by simpa using h, by simp; omega⟩
            · left; simpa using h
          clear hpos hneg
          rcases kk with k1 | ⟨k1, k2⟩
          all_goals rcases kn with k3 | ⟨k3, k4⟩
          all_goals
            go_enter Tryz.func89, Tryz.ntmps89
            go_wp2_with (fail)
            all_goals go_ret2
            all_goals exact ⟨⟨_, _, rfl⟩, rfl⟩

/-- At a whole number below 2^52: the number itself. -/
theorem exact_num (B : Nat) (w : World) (m : Nat) (ng : Bool) (hT : Tab B w) (hm : m < 4503599627370496) :
    Calls Tryz.prog 89 #[.int .u64 m, .int .i64 0, .bool ng] w (fun x w' => x = .returned (.tuple #[.float .f64 (if ng then Op.negFloat .f64 (floatOfInt .f64 (m : Int)) else floatOfInt .f64 (m : Int)), .bool true]) ∧ w = w') := by
  have s0 := hT.inf0
  obtain ⟨X, hX⟩ : ∃ X, floatOfInt .f64 (m : Int) = X := ⟨_, rfl⟩
  have hng : (Op.unary .neg (.float .f64 X)).run Tryz.prog w = .ok (.float .f64 (Op.negFloat .f64 X)) w := rfl
  have hz : (((m : Nat) : Int) / 4503599627370496 != 0) = false := by simp only [bne_eq_false_iff_eq]; omega
  clear hT
  cases ng
  all_goals
    go_enter Tryz.func89, Tryz.ntmps89
    go_wp2_with (fail)
    go_ret2
    exact ⟨by simp [hX], rfl⟩

end Go.Proofs.YtonnmongipaheaaGreatDoor
