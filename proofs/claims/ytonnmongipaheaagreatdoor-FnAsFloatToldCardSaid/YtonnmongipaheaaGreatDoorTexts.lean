/- The law's small functions on texts and floats. laws.numeral and laws.numeralOf. laws.numeralOf at a numeral: its number. -/
import Derived.Test.YtonnmongipaheaaGreatDoorParse
import Derived.Test.YtonnmongipaheaaGreatDoorWeight
namespace Go.Proofs.YtonnmongipaheaaGreatDoor
open Go.RowKit
set_option linter.unusedVariables false
set_option linter.unusedSimpArgs false

/-- The size of a float as the law takes it. -/
def sizeF (x : Nat) : Nat := if FloatKind.f64.format.order x 0 == some Ordering.lt then Op.negFloat .f64 x else x

theorem neg_op (x : Nat) (w : World) : (Sem.run Tryz.prog (Op.unary UnOp.neg (.float .f64 x)) w) = .ok (.float .f64 (Op.negFloat .f64 x)) w := by kernel_rfl
theorem sized_any (x : Nat) (w : World) : Calls Tryz.prog 6 #[.float .f64 x] w (fun e w' => e = .returned (.float .f64 (sizeF x)) ∧ w = w') := by
  obtain ⟨b, hb⟩ : ∃ b, (FloatKind.f64.format.order x 0 == some Ordering.lt) = b := ⟨_, rfl⟩
  have hz : Hid (sizeF x = if b then Op.negFloat .f64 x else x) := hide2 (by unfold sizeF; rw [hb])
  cases b
  all_goals
    have q := neg_op x
    go_enter Tryz.func6, Tryz.ntmps6
    go_wp2_with (fail)
    go_ret
    rw [hz.out]
    exact ⟨rfl, rfl⟩

def isDig (x : Nat) : Bool := decide (48 ≤ x) && decide (x ≤ 57)
theorem digit_any (x : Nat) (w : World) : Calls Tryz.prog 19 #[.int .u8 (x : Int)] w (IsB (isDig x) w) := by
  have hs : (decide ((48 : Int) ≤ (x : Int)) = false ∧ isDig x = false) ∨ (decide ((48 : Int) ≤ (x : Int)) = true ∧ decide ((x : Int) ≤ 57) = isDig x) := by
    by_cases h : 48 ≤ x
    · right
      exact ⟨by simp; omega, by unfold isDig; simp [h]; omega⟩
    · left
      exact ⟨by simp; omega, by unfold isDig; simp [h]⟩
  rcases hs with ⟨h1, h2⟩ | ⟨h1, h2⟩
  · have H := hide2 h2
    clear h2
    go_enter Tryz.func19, Tryz.ntmps19
    go_wp2_with (fail)
    go_ret
    rw [H.out]
    exact ⟨rfl, rfl⟩
  · have H := hide2 h2
    clear h2
    go_enter Tryz.func19, Tryz.ntmps19
    go_wp2_with (fail)
    go_ret
    rw [← H.out]
    exact ⟨rfl, rfl⟩

set_option maxRecDepth 100000 in
set_option maxHeartbeats 2000000 in
/-- laws.ascii returns. -/
theorem ascii_any (s : ByteArray) (w : World) (hs : s.size ≤ 1000000) : Calls Tryz.prog 20 #[.string s] w (fun e w' => (∃ b : Bool, e = .returned (.bool b)) ∧ w = w') := by
  go_enter Tryz.func20, Tryz.ntmps20
  go_wp2_with (fail)
  go_loopw [3] (fun i wr => ∃ k : Nat, i = .int .i64 (k : Int) ∧ k ≤ s.size ∧ w = wr) (fun i _ => s.size - (intOf i).toNat)
  case atStart => exact ⟨0, rfl, by omega, rfl⟩
  case round =>
    obtain ⟨k, rfl, hk1, rfl⟩ := hrel
    by_cases hk : k < s.size
    · obtain ⟨x, hx⟩ : ∃ x, byteAt s k = x := ⟨_, rfl⟩
      have hx' : (s[k]'hk).toNat = x := (byteAt_eq hk).trans hx
      have hsp : (decide ((x : Int) < 32) = true) ∨ (decide ((x : Int) < 32) = false ∧ decide ((126 : Int) < (x : Int)) = true) ∨ (decide ((x : Int) < 32) = false ∧ decide ((126 : Int) < (x : Int)) = false ∧ (((x : Nat) : Int) == 34) = true) ∨ (decide ((x : Int) < 32) = false ∧ decide ((126 : Int) < (x : Int)) = false ∧ (((x : Nat) : Int) == 34) = false ∧ (((x : Nat) : Int) == 92) = true) ∨ (decide ((x : Int) < 32) = false ∧ decide ((126 : Int) < (x : Int)) = false ∧ (((x : Nat) : Int) == 34) = false ∧ (((x : Nat) : Int) == 92) = false) := by
        cases decide ((x : Int) < 32) <;> cases decide ((126 : Int) < (x : Int)) <;> cases (((x : Nat) : Int) == 34) <;> cases (((x : Nat) : Int) == 92) <;> simp
      clear hx
      rcases hsp with h1 | ⟨h1, h2⟩ | ⟨h1, h2, h3⟩ | ⟨h1, h2, h3, h4⟩ | ⟨h1, h2, h3, h4⟩
      · go_wp2_with (fail)
        go_ret
        exact ⟨⟨_, rfl⟩, rfl⟩
      · go_wp2_with (fail)
        go_ret
        exact ⟨⟨_, rfl⟩, rfl⟩
      · go_wp2_with (fail)
        go_ret
        exact ⟨⟨_, rfl⟩, rfl⟩
      · go_wp2_with (fail)
        go_ret
        exact ⟨⟨_, rfl⟩, rfl⟩
      · go_wp2_with (fail)
        go_roundw
        case rel => exact ⟨k + 1, by go_num, by omega, by first | rfl | trivial⟩
        case measure => simp [intOf]; omega
    · go_wp2_with (fail)
      go_ret
      exact ⟨⟨_, rfl⟩, rfl⟩

def NoLess (s : ByteArray) (w : World) (e : Ending) (w' : World) : Prop := (∃ b : Bool, e = .returned (.bool b) ∧ (b = true → NoDig s)) ∧ w = w'

theorem isDig_true {x : Nat} (h : isDig x = true) : 48 ≤ x ∧ x ≤ 57 := by unfold isDig at h; simp at h; exact h
theorem isDig_false {x : Nat} (h : isDig x = false) : x < 48 ∨ 57 < x := by unfold isDig at h; simp at h; omega

set_option maxRecDepth 100000 in
set_option maxHeartbeats 2000000 in
theorem numberless_any (s : ByteArray) (w : World) (hs : s.size ≤ 1000000) : Calls Tryz.prog 10 #[.string s] w (NoLess s w) := by
  go_enter Tryz.func10, Tryz.ntmps10
  go_wp2_with (fail)
  go_loopw [3] (fun i wr => ∃ k : Nat, i = .int .i64 (k : Int) ∧ k ≤ s.size ∧ Hid (∀ i, i < k → (byteAt s i < 48 ∨ 57 < byteAt s i) ∧ byteAt s i ≠ 110 ∧ byteAt s i ≠ 78) ∧ w = wr) (fun i _ => s.size - (intOf i).toNat)
  case atStart => exact ⟨0, rfl, by omega, hide2 (fun i hi => by omega), rfl⟩
  case round =>
    obtain ⟨k, rfl, hk1, hno, rfl⟩ := hrel
    by_cases hk : k < s.size
    · obtain ⟨x, hx⟩ : ∃ x, byteAt s k = x := ⟨_, rfl⟩
      have hx' : (s[k]'hk).toNat = x := (byteAt_eq hk).trans hx
      obtain ⟨d, hd⟩ : ∃ d, isDig x = d := ⟨_, rfl⟩
      have hsp : d = true ∨ (d = false ∧ (((x : Nat) : Int) == 110) = true) ∨ (d = false ∧ (((x : Nat) : Int) == 110) = false ∧ (((x : Nat) : Int) == 78) = true) ∨ (d = false ∧ (((x : Nat) : Int) == 110) = false ∧ (((x : Nat) : Int) == 78) = false) := by
        cases d <;> cases (((x : Nat) : Int) == 110) <;> cases (((x : Nat) : Int) == 78) <;> simp
      have hdg : Calls Tryz.prog 19 #[.int .u8 (x : Int)] w (IsB d w) := hd ▸ digit_any x w
      have HD := hide2 hdg
      have hst : Hid (d = false → (((x : Nat) : Int) == 110) = false → (((x : Nat) : Int) == 78) = false → ∀ i, i < k + 1 → (byteAt s i < 48 ∨ 57 < byteAt s i) ∧ byteAt s i ≠ 110 ∧ byteAt s i ≠ 78) := hide2 (by
        intro a b c i hi
        by_cases hik : i = k
        · subst hik
          rw [hx]
          rw [beq_eq_false_iff_ne] at b c
          exact ⟨isDig_false (hd.trans a), by omega, by omega⟩
        · exact hno.out i (by omega))
      clear hx hd hdg hno
      rcases hsp with rfl | ⟨rfl, h2⟩ | ⟨rfl, h2, h3⟩ | ⟨rfl, h2, h3⟩
      · go_wp2_with (go_at_call 19; refine HD.out.mono ?_; rintro e w2 ⟨rfl, rfl⟩)
        go_ret
        exact ⟨⟨false, rfl, fun h => by cases h⟩, rfl⟩
      · go_wp2_with (go_at_call 19; refine HD.out.mono ?_; rintro e w2 ⟨rfl, rfl⟩)
        go_ret
        exact ⟨⟨false, rfl, fun h => by cases h⟩, rfl⟩
      · go_wp2_with (go_at_call 19; refine HD.out.mono ?_; rintro e w2 ⟨rfl, rfl⟩)
        go_ret
        exact ⟨⟨false, rfl, fun h => by cases h⟩, rfl⟩
      · have HN := hide2 (hst.out rfl h2 h3)
        clear hst
        go_wp2_with (go_at_call 19; refine HD.out.mono ?_; rintro e w2 ⟨rfl, rfl⟩)
        go_roundw
        case rel => exact ⟨k + 1, by go_num, by omega, HN, by first | rfl | trivial⟩
        case measure => simp [intOf]; omega
    · have HN : Hid (NoDig s) := hide2 (fun i hi => hno.out i (by omega))
      clear hno
      go_wp2_with (go_at_call 20; refine (ascii_any _ _ hs).mono ?_; rintro e w2 ⟨⟨b, rfl⟩, rfl⟩)
      go_ret
      exact ⟨⟨b, rfl, fun _ => HN.out⟩, rfl⟩
end Go.Proofs.YtonnmongipaheaaGreatDoor

namespace Go.Proofs.YtonnmongipaheaaGreatDoor
open Go.RowKit
set_option linter.unusedVariables false
set_option linter.unusedSimpArgs false

def NumPost (s : ByteArray) (w : World) (e : Ending) (w' : World) : Prop := (∃ b : Bool, e = .returned (.bool b) ∧ (b = true → ∃ ng j L, NumS s ng j L)) ∧ w = w'

theorem num_plain {s : ByteArray} (h1 : 1 ≤ s.size) (h2 : s.size ≤ 15) (hd : ∀ i, i < s.size → isDig (byteAt s i) = true) (hl : byteAt s 0 = 48 → s.size ≤ 1) : NumS s false 0 s.size :=
  ⟨rfl, by omega, h1, h2, fun h => (by cases h), fun i hi => by rw [Nat.zero_add]; exact isDig_true (hd i hi), fun h => by have := hl h; omega⟩
theorem num_minus {s : ByteArray} (h1 : 1 ≤ (s.extract 1 s.size).size) (h2 : (s.extract 1 s.size).size ≤ 15) (h0 : byteAt s 0 = 45) (hd : ∀ i, i < (s.extract 1 s.size).size → isDig (byteAt (s.extract 1 s.size) i) = true) (hl : byteAt (s.extract 1 s.size) 0 = 48 → s.size ≤ 1) : NumS s true 1 (s.size - 1) := by
  have e := extract_size s
  refine ⟨rfl, by omega, by omega, by omega, fun _ => h0, fun i hi => ?_, fun h => ?_⟩
  · have := hd i (by omega)
    rw [byteAt_extract] at this
    rw [Nat.add_comm]
    exact isDig_true this
  · rw [byteAt_extract] at hl
    have := hl h
    omega

set_option maxRecDepth 100000 in
set_option maxHeartbeats 4000000 in
theorem numeral_any (s : ByteArray) (w : World) (hs : s.size ≤ 1000000) : Calls Tryz.prog 8 #[.string s] w (NumPost s w) := by
  by_cases hn0 : s.size = 0
  · have hn0' : ((s.size : Nat) : Int) = 0 := by omega
    go_enter Tryz.func8, Tryz.ntmps8
    go_wp2_with (fail)
    go_ret
    exact ⟨⟨false, rfl, fun h => by cases h⟩, rfl⟩
  · have h0 : 0 < s.size := by omega
    have hpos : decide (0 < s.size) = true := decide_eq_true h0
    obtain ⟨x0, hx0⟩ : ∃ x, byteAt s 0 = x := ⟨_, rfl⟩
    have hx0' : (s[0]'h0).toNat = x0 := (byteAt_eq h0).trans hx0
    by_cases hm : x0 = 45
    · have hmb : (((x0 : Nat) : Int) == 45) = true := by rw [beq_iff_eq]; omega
      have MIN : Hid (byteAt s 0 = 45) := hide2 (hx0.trans hm)
      have MK : Hid (1 ≤ (s.extract 1 s.size).size → (s.extract 1 s.size).size ≤ 15 → (∀ i, i < (s.extract 1 s.size).size → isDig (byteAt (s.extract 1 s.size) i) = true) → (byteAt (s.extract 1 s.size) 0 = 48 → s.size ≤ 1) → ∃ ng j L, NumS s ng j L) :=
        hide2 (fun a b c d => ⟨_, _, _, num_minus a b MIN.out c d⟩)
      have HSZ := hide2 (extract_size s)
      obtain ⟨t, ht⟩ : ∃ t, s.extract 1 s.size = t := ⟨_, rfl⟩
      rw [ht] at MK HSZ
      have h1s : (1 : Int) ≤ (s.size : Int) := by omega
      clear hx0 hm MIN
      have HT := hide2 (rfl : 0 = 0)
      by_cases z : t.size = 0
      · have z1 : ((t.size : Nat) : Int) = 0 := by omega
        go_enter Tryz.func8, Tryz.ntmps8
        go_wp2_with (fail)
        go_ret
        exact ⟨⟨false, rfl, fun h => by cases h⟩, rfl⟩
      have zb : (((t.size : Nat) : Int) == 0) = false := by rw [beq_eq_false_iff_ne]; omega
      by_cases g : 15 < t.size
      · have g1 : decide ((15 : Int) < ((t.size : Nat) : Int)) = true := by simp; omega
        go_enter Tryz.func8, Tryz.ntmps8
        go_wp2_with (fail)
        go_ret
        exact ⟨⟨false, rfl, fun h => by cases h⟩, rfl⟩
      have g1 : decide ((15 : Int) < ((t.size : Nat) : Int)) = false := by simp; omega
      have hT0 : 0 < t.size := by omega
      obtain ⟨y, hy⟩ : ∃ y, byteAt t 0 = y := ⟨_, rfl⟩
      have hy' : (t[0]'hT0).toNat = y := (byteAt_eq hT0).trans hy
      have hsp : ((((y : Nat) : Int) == 48) = true ∧ decide ((1 : Int) < ((s.size : Nat) : Int)) = true) ∨ ((((y : Nat) : Int) == 48) = true ∧ decide ((1 : Int) < ((s.size : Nat) : Int)) = false) ∨ ((((y : Nat) : Int) == 48) = false) := by
        cases (((y : Nat) : Int) == 48) <;> cases decide ((1 : Int) < ((s.size : Nat) : Int)) <;> simp
      have LD : Hid (((((y : Nat) : Int) == 48) = true ∧ decide ((1 : Int) < ((s.size : Nat) : Int)) = false) ∨ ((((y : Nat) : Int) == 48) = false) → byteAt t 0 = 48 → s.size ≤ 1) := hide2 (by
        intro h e
        rw [hy] at e
        rcases h with ⟨_, b⟩ | a
        · simp at b; omega
        · rw [beq_eq_false_iff_ne] at a; omega)
      clear hy
      rcases hsp with ⟨c1, c2⟩ | ⟨c1, c2⟩ | c1
      · go_enter Tryz.func8, Tryz.ntmps8
        go_wp2_with (fail)
        go_ret
        exact ⟨⟨false, rfl, fun h => by cases h⟩, rfl⟩
      · exact absurd c2 (by have := HSZ.out; simp; omega)
      · have LE := hide2 (LD.out (.inr c1))
        clear LD
        go_enter Tryz.func8, Tryz.ntmps8
        go_wp2_with (fail)
        
        go_loopw [4] (fun i wr => ∃ k : Nat, i = .int .i64 (k : Int) ∧ k ≤ t.size ∧ Hid (∀ i, i < k → isDig (byteAt t i) = true) ∧ w = wr) (fun i _ => t.size - (intOf i).toNat)
        case atStart => exact ⟨0, rfl, by omega, hide2 (fun i hi => by omega), rfl⟩
        case round =>
          obtain ⟨k, rfl, hk1, hno, rfl⟩ := hrel
          by_cases hk : k < t.size
          · obtain ⟨x, hx⟩ : ∃ x, byteAt t k = x := ⟨_, rfl⟩
            have hx' : (t[k]'hk).toNat = x := (byteAt_eq hk).trans hx
            obtain ⟨d, hd⟩ : ∃ d, isDig x = d := ⟨_, rfl⟩
            have hdg : Calls Tryz.prog 19 #[.int .u8 (x : Int)] w (IsB d w) := hd ▸ digit_any x w
            have HD := hide2 hdg
            have hst : Hid (d = true → ∀ i, i < k + 1 → isDig (byteAt t i) = true) := hide2 (by
              intro a i hi
              by_cases hik : i = k
              · subst hik
                rw [hx]
                exact hd.trans a
              · exact hno.out i (by omega))
            clear hx hd hdg hno
            cases d
            · clear hst
              go_wp2_with (go_at_call 19; refine HD.out.mono ?_; rintro e w2 ⟨rfl, rfl⟩)
              go_ret
              exact ⟨⟨false, rfl, fun h => by cases h⟩, rfl⟩
            · have HN := hide2 (hst.out rfl)
              clear hst
              go_wp2_with (go_at_call 19; refine HD.out.mono ?_; rintro e w2 ⟨rfl, rfl⟩)
              go_roundw
              case rel => exact ⟨k + 1, by go_num, by omega, HN, by first | rfl | trivial⟩
              case measure => simp [intOf]; omega
          · have HN := hide2 (MK.out (by omega) (by omega) (fun i hi => hno.out i (by omega)) LE.out)
            clear hno MK LE
            go_wp2_with (fail)
            go_ret
            exact ⟨⟨true, rfl, fun _ => HN.out⟩, rfl⟩
    · have hmb : (((x0 : Nat) : Int) == 45) = false := by rw [beq_eq_false_iff_ne]; omega
      have MK : Hid (1 ≤ s.size → s.size ≤ 15 → (∀ i, i < s.size → isDig (byteAt s i) = true) → (byteAt s 0 = 48 → s.size ≤ 1) → ∃ ng j L, NumS s ng j L) :=
        hide2 (fun a b c d => ⟨_, _, _, num_plain a b c d⟩)
      clear hm
      have HT := hide2 (rfl : 0 = 0)
      by_cases z : s.size = 0
      · have z1 : ((s.size : Nat) : Int) = 0 := by omega
        go_enter Tryz.func8, Tryz.ntmps8
        go_wp2_with (fail)
        go_ret
        exact ⟨⟨false, rfl, fun h => by cases h⟩, rfl⟩
      have zb : (((s.size : Nat) : Int) == 0) = false := by rw [beq_eq_false_iff_ne]; omega
      by_cases g : 15 < s.size
      · have g1 : decide ((15 : Int) < ((s.size : Nat) : Int)) = true := by simp; omega
        go_enter Tryz.func8, Tryz.ntmps8
        go_wp2_with (fail)
        go_ret
        exact ⟨⟨false, rfl, fun h => by cases h⟩, rfl⟩
      have g1 : decide ((15 : Int) < ((s.size : Nat) : Int)) = false := by simp; omega
      have hT0 : 0 < s.size := by omega
      have hsp : ((((x0 : Nat) : Int) == 48) = true ∧ decide ((1 : Int) < ((s.size : Nat) : Int)) = true) ∨ ((((x0 : Nat) : Int) == 48) = true ∧ decide ((1 : Int) < ((s.size : Nat) : Int)) = false) ∨ ((((x0 : Nat) : Int) == 48) = false) := by
        cases (((x0 : Nat) : Int) == 48) <;> cases decide ((1 : Int) < ((s.size : Nat) : Int)) <;> simp
      have LD : Hid (((((x0 : Nat) : Int) == 48) = true ∧ decide ((1 : Int) < ((s.size : Nat) : Int)) = false) ∨ ((((x0 : Nat) : Int) == 48) = false) → byteAt s 0 = 48 → s.size ≤ 1) := hide2 (by
        intro h e
        rw [hx0] at e
        rcases h with ⟨_, b⟩ | a
        · simp at b; omega
        · rw [beq_eq_false_iff_ne] at a; omega)
      clear hx0
      rcases hsp with ⟨c1, c2⟩ | ⟨c1, c2⟩ | c1
      · go_enter Tryz.func8, Tryz.ntmps8
        go_wp2_with (fail)
        go_ret
        exact ⟨⟨false, rfl, fun h => by cases h⟩, rfl⟩
      · have LE := hide2 (LD.out (.inl ⟨c1, c2⟩))
        clear LD
        go_enter Tryz.func8, Tryz.ntmps8
        go_wp2_with (fail)
        
        go_loopw [4] (fun i wr => ∃ k : Nat, i = .int .i64 (k : Int) ∧ k ≤ s.size ∧ Hid (∀ i, i < k → isDig (byteAt s i) = true) ∧ w = wr) (fun i _ => s.size - (intOf i).toNat)
        case atStart => exact ⟨0, rfl, by omega, hide2 (fun i hi => by omega), rfl⟩
        case round =>
          obtain ⟨k, rfl, hk1, hno, rfl⟩ := hrel
          by_cases hk : k < s.size
          · obtain ⟨x, hx⟩ : ∃ x, byteAt s k = x := ⟨_, rfl⟩
            have hx' : (s[k]'hk).toNat = x := (byteAt_eq hk).trans hx
            obtain ⟨d, hd⟩ : ∃ d, isDig x = d := ⟨_, rfl⟩
            have hdg : Calls Tryz.prog 19 #[.int .u8 (x : Int)] w (IsB d w) := hd ▸ digit_any x w
            have HD := hide2 hdg
            have hst : Hid (d = true → ∀ i, i < k + 1 → isDig (byteAt s i) = true) := hide2 (by
              intro a i hi
              by_cases hik : i = k
              · subst hik
                rw [hx]
                exact hd.trans a
              · exact hno.out i (by omega))
            clear hx hd hdg hno
            cases d
            · clear hst
              go_wp2_with (go_at_call 19; refine HD.out.mono ?_; rintro e w2 ⟨rfl, rfl⟩)
              go_ret
              exact ⟨⟨false, rfl, fun h => by cases h⟩, rfl⟩
            · have HN := hide2 (hst.out rfl)
              clear hst
              go_wp2_with (go_at_call 19; refine HD.out.mono ?_; rintro e w2 ⟨rfl, rfl⟩)
              go_roundw
              case rel => exact ⟨k + 1, by go_num, by omega, HN, by first | rfl | trivial⟩
              case measure => simp [intOf]; omega
          · have HN := hide2 (MK.out (by omega) (by omega) (fun i hi => hno.out i (by omega)) LE.out)
            clear hno MK LE
            go_wp2_with (fail)
            go_ret
            exact ⟨⟨true, rfl, fun _ => HN.out⟩, rfl⟩
      · have LE := hide2 (LD.out (.inr c1))
        clear LD
        go_enter Tryz.func8, Tryz.ntmps8
        go_wp2_with (fail)
        
        go_loopw [4] (fun i wr => ∃ k : Nat, i = .int .i64 (k : Int) ∧ k ≤ s.size ∧ Hid (∀ i, i < k → isDig (byteAt s i) = true) ∧ w = wr) (fun i _ => s.size - (intOf i).toNat)
        case atStart => exact ⟨0, rfl, by omega, hide2 (fun i hi => by omega), rfl⟩
        case round =>
          obtain ⟨k, rfl, hk1, hno, rfl⟩ := hrel
          by_cases hk : k < s.size
          · obtain ⟨x, hx⟩ : ∃ x, byteAt s k = x := ⟨_, rfl⟩
            have hx' : (s[k]'hk).toNat = x := (byteAt_eq hk).trans hx
            obtain ⟨d, hd⟩ : ∃ d, isDig x = d := ⟨_, rfl⟩
            have hdg : Calls Tryz.prog 19 #[.int .u8 (x : Int)] w (IsB d w) := hd ▸ digit_any x w
            have HD := hide2 hdg
            have hst : Hid (d = true → ∀ i, i < k + 1 → isDig (byteAt s i) = true) := hide2 (by
              intro a i hi
              by_cases hik : i = k
              · subst hik
                rw [hx]
                exact hd.trans a
              · exact hno.out i (by omega))
            clear hx hd hdg hno
            cases d
            · clear hst
              go_wp2_with (go_at_call 19; refine HD.out.mono ?_; rintro e w2 ⟨rfl, rfl⟩)
              go_ret
              exact ⟨⟨false, rfl, fun h => by cases h⟩, rfl⟩
            · have HN := hide2 (hst.out rfl)
              clear hst
              go_wp2_with (go_at_call 19; refine HD.out.mono ?_; rintro e w2 ⟨rfl, rfl⟩)
              go_roundw
              case rel => exact ⟨k + 1, by go_num, by omega, HN, by first | rfl | trivial⟩
              case measure => simp [intOf]; omega
          · have HN := hide2 (MK.out (by omega) (by omega) (fun i hi => hno.out i (by omega)) LE.out)
            clear hno MK LE
            go_wp2_with (fail)
            go_ret
            exact ⟨⟨true, rfl, fun _ => HN.out⟩, rfl⟩

end Go.Proofs.YtonnmongipaheaaGreatDoor

namespace Go.Proofs.YtonnmongipaheaaGreatDoor
open Go.RowKit
set_option linter.unusedVariables false
set_option linter.unusedSimpArgs false

set_option maxRecDepth 100000 in
set_option maxHeartbeats 4000000 in
theorem numeralOf_any (s : ByteArray) (ng : Bool) (j L : Nat) (w : World) (h : NumS s ng j L) : Calls Tryz.prog 9 #[.string s] w (fun e w' => e = .returned (.int .i64 (numI s ng j L)) ∧ w = w') := by
  have H := hide2 h
  have hsz : s.size ≤ 16 ∧ 1 ≤ s.size ∧ j ≤ 1 := by
    have := h.size; have := h.hi; have := h.lo; have := h.jn
    cases ng <;> simp at this <;> omega
  have HSZ := hide2 hsz
  have h0 : 0 < s.size := by omega
  have hs16 : s.size ≤ 16 := hsz.1
  have hI : Hid (numI s ng j L = if ng then -(pre (dg s j) (s.size - j) : Int) else (pre (dg s j) (s.size - j) : Int)) := hide2 (by
    have : s.size - j = L := by have := h.size; omega
    rw [this]; rfl)
  obtain ⟨x0, hx0⟩ : ∃ x, byteAt s 0 = x := ⟨_, rfl⟩
  have hx0' : (s[0]'h0).toNat = x0 := (byteAt_eq h0).trans hx0
  have hmb : (((x0 : Nat) : Int) == 45) = ng := by
    cases ng
    · rw [beq_eq_false_iff_ne]
      have hj : j = 0 := by simpa using h.jn
      have := h.dig 0 h.lo
      rw [hj] at this
      simp at this
      omega
    · rw [beq_iff_eq]
      have := h.sign rfl
      omega
  clear hx0 h hsz
  go_enter Tryz.func9, Tryz.ntmps9
  go_wp2_with (fail)
  go_loopw [3, 4] (fun a i wr => ∃ k m : Nat, a = .int .i64 (m : Int) ∧ i = .int .i64 (k : Int) ∧ k ≤ s.size ∧ m ≤ 1000000000000000 ∧ Hid (m = pre (dg s j) (k - j)) ∧ w = wr) (fun _ i _ => s.size - (intOf i).toNat)
  case atStart => exact ⟨0, 0, rfl, rfl, by omega, by omega, hide2 (by rw [Nat.zero_sub]; rfl), rfl⟩
  case round =>
    obtain ⟨k, m, rfl, rfl, hk1, hm1, hm, rfl⟩ := hrel
    by_cases hk : k < s.size
    · obtain ⟨x, hx⟩ : ∃ x, byteAt s k = x := ⟨_, rfl⟩
      have hx' : (s[k]'hk).toNat = x := (byteAt_eq hk).trans hx
      by_cases hkj : k < j
      · have hx45 : x = 45 := by
          have hj := H.out.jn
          have hng : ng = true := by
            cases ng
            · simp at hj; omega
            · rfl
          have := H.out.sign hng
          have hk0 : k = 0 := by have := HSZ.out; omega
          rw [hk0] at hx
          omega
        have hdg : Calls Tryz.prog 19 #[.int .u8 (x : Int)] w (IsB false w) := (by subst hx45; rfl : isDig x = false) ▸ digit_any x w
        have HD := hide2 hdg
        have HM : Hid (m = pre (dg s j) (k + 1 - j)) := hide2 (by rw [hm.out]; rw [show k - j = 0 by omega, show k + 1 - j = 0 by have := HSZ.out; omega])
        clear hx hdg hx45 hm hkj
        go_wp2_with (go_at_call 19; refine HD.out.mono ?_; rintro e w2 ⟨rfl, rfl⟩)
        go_roundw
        case rel => exact ⟨k + 1, m, rfl, by go_num, by omega, hm1, HM, by first | rfl | trivial⟩
        case measure => simp [intOf]; omega
      · have hxd := H.out.dig (k - j) (by have := H.out.size; omega)
        rw [show j + (k - j) = k by omega, hx] at hxd
        obtain ⟨x1, x2⟩ := hxd
        have hdg : Calls Tryz.prog 19 #[.int .u8 (x : Int)] w (IsB true w) := (by unfold isDig; simp [x1, x2] : isDig x = true) ▸ digit_any x w
        have HD := hide2 hdg
        have HM : Hid (m * 10 + (x - 48) = pre (dg s j) (k + 1 - j) ∧ m * 10 + (x - 48) ≤ 1000000000000000 ∧ m ≤ 100000000000000) := hide2 (by
          have e0 : k + 1 - j = (k - j) + 1 := by omega
          have e1 : pre (dg s j) (k + 1 - j) = m * 10 + (x - 48) := by
            rw [e0]
            simp only [pre]
            rw [← hm.out]; unfold dg; rw [show j + (k - j) = k by omega, hx]
          have e2 := pre_lt15 (d := dg s j) (n := k + 1 - j) (by have := H.out.size; have := H.out.hi; omega) (fun i hi => by have := H.out.dig i (by have := H.out.size; omega); unfold dg; omega)
          exact ⟨e1.symm, by omega, by omega⟩)
        have hm14 : m ≤ 100000000000000 := HM.out.2.2
        obtain ⟨m', hm'⟩ : ∃ m', m' = m * 10 + (x - 48) := ⟨_, rfl⟩
        have f1 : ((m : Nat) : Int) * 10 + (((x : Nat) : Int) - 48) = ((m' : Nat) : Int) := by omega
        have HM2 : Hid (m' = pre (dg s j) (k + 1 - j) ∧ m' ≤ 1000000000000000) := hide2 ⟨by rw [hm']; exact HM.out.1, by rw [hm']; exact HM.out.2.1⟩
        clear hx hm' hm hdg hkj
        go_wp2_with (go_at_call 19; refine HD.out.mono ?_; rintro e w2 ⟨rfl, rfl⟩)
        go_roundw
        case rel => exact ⟨k + 1, m', by first | rfl | go_num, by go_num, by omega, HM2.out.2, hide2 HM2.out.1, by first | rfl | trivial⟩
        case measure => simp [intOf]; omega
    · have HI : Hid (numI s ng j L = if ng then -(m : Int) else (m : Int)) := hide2 (by rw [hI.out, hm.out, show s.size = k by omega])
      clear hI hm
      cases ng
      · go_wp2_with (fail)
        go_ret
        rw [HI.out]
        exact ⟨rfl, rfl⟩
      · go_wp2_with (fail)
        go_ret
        rw [HI.out]
        exact ⟨rfl, rfl⟩
end Go.Proofs.YtonnmongipaheaaGreatDoor
