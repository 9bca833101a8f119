/- internal/strconv: commonPrefixLenIgnoreCase, inf, nan, special. -/
import Derived.Test.YtonnmongipaheaaGreatDoorRows
import Derived.WalkKit
import Derived.ProofKit
import Derived.WalkLawsBesides
import Derived.OwnWalk
namespace Go.Proofs.YtonnmongipaheaaGreatDoor
open Go.RowKit
set_option linter.unusedVariables false
set_option linter.unusedSimpArgs false

theorem hide2 {p : Prop} (h : p) : Hid p := h

/-- Byte i of a text. -/
def byteAt (s : ByteArray) (i : Nat) : Nat := if h : i < s.size then (s[i]'h).toNat else 0
theorem byteAt_eq {s : ByteArray} {i : Nat} (h : i < s.size) : (s[i]'h).toNat = byteAt s i := by unfold byteAt; rw [dif_pos h]
theorem byteAt_lt (s : ByteArray) (i : Nat) : byteAt s i < 256 := by
  unfold byteAt
  split
  · exact UInt8.toNat_lt _
  · omega

def Alike (s p : ByteArray) (k : Nat) : Prop := ∀ j, j < k → byteAt s j = byteAt p j ∨ (byteAt s j + 32 = byteAt p j ∧ byteAt s j ≤ 90)
theorem Alike.step {s p : ByteArray} {k : Nat} (h : Alike s p k) (h2 : byteAt s k = byteAt p k ∨ (byteAt s k + 32 = byteAt p k ∧ byteAt s k ≤ 90)) : Alike s p (k + 1) := fun j hj => by
  by_cases e : j = k
  · subst e; exact h2
  · exact h j (by omega)
def PrefPost (s p : ByteArray) (w : World) (x : Ending) (w' : World) : Prop :=
  ∃ k : Nat, x = .returned (.int .i64 (k : Int)) ∧ k ≤ s.size ∧ k ≤ p.size ∧ Alike s p k ∧ w = w'

set_option maxRecDepth 100000 in
set_option maxHeartbeats 2000000 in
theorem pref_any (s p : ByteArray) (w : World) (hs : s.size ≤ 1000000) (hp : p.size ≤ 100) : Calls Tryz.prog 95 #[.string s, .string p] w (PrefPost s p w) := by
  rcases Nat.lt_or_ge s.size p.size with hord | hord
  all_goals
    go_enter Tryz.func95, Tryz.ntmps95
    go_wp2_with (fail)
    all_goals
      go_loopw [6, 7] (fun i c wr => ∃ k : Nat, i = .int .i64 (k : Int) ∧ k ≤ s.size ∧ k ≤ p.size ∧ Hid (Alike s p k) ∧ w = wr) (fun i _ _ => p.size - (intOf i).toNat)
      case atStart => exact ⟨0, rfl, by omega, by omega, hide2 (fun j hj => by omega), rfl⟩
      case round =>
        obtain ⟨k, rfl, hk1, hk2, hal, rfl⟩ := hrel
        by_cases hk : k < s.size ∧ k < p.size
        · obtain ⟨k1, k2⟩ := hk
          obtain ⟨x, hx⟩ : ∃ x, byteAt s k = x := ⟨_, rfl⟩
          obtain ⟨y, hy⟩ : ∃ y, byteAt p k = y := ⟨_, rfl⟩
          have hx' : (s[k]'k1).toNat = x := (byteAt_eq k1).trans hx
          have hy' : (p[k]'k2).toNat = y := (byteAt_eq k2).trans hy
          have hxb : x < 256 := by rw [← hx]; exact byteAt_lt _ _
          have hst : Hid (y = x ∨ (x + 32 = y ∧ x ≤ 90) → Alike s p (k + 1)) := hide2 (fun h => Alike.step hal.out (by rw [hx, hy]; omega))
          have HAL := hide2 hal.out
          clear hx hy hal
          by_cases hup : 65 ≤ x ∧ x ≤ 90
          · have u1 : decide ((65 : Int) ≤ (x : Int)) = true := by simp; omega
            have u2 : decide ((x : Int) ≤ 90) = true := by simp; omega
            obtain ⟨u3, u4⟩ := hup
            by_cases he : x + 32 = y
            · have hne : (((x : Nat) : Int) + 32 != ((y : Nat) : Int)) = false := by simp only [bne_eq_false_iff_eq]; omega
              have HN := hide2 (hst.out (.inr ⟨he, u4⟩))
              clear he hst
              go_wp2_with (fail)
              go_roundw
              case rel => exact ⟨k + 1, by go_num, by omega, by omega, HN, by first | rfl | trivial⟩
              case measure => simp [intOf]; omega
            · have hne : (((x : Nat) : Int) + 32 != ((y : Nat) : Int)) = true := by rw [bne_iff_ne]; omega
              go_wp2_with (fail)
              go_ret
              exact ⟨k, rfl, hk1, hk2, HAL.out, rfl⟩
          · have hsp : decide ((65 : Int) ≤ (x : Int)) = false ∨ (decide ((65 : Int) ≤ (x : Int)) = true ∧ decide ((x : Int) ≤ 90) = false) := by
              by_cases h : 65 ≤ x
              · right; exact ⟨by simp; omega, by simp; omega⟩
              · left; simp; omega
            by_cases he : x = y
            · have hne : (((x : Nat) : Int) != ((y : Nat) : Int)) = false := by simp only [bne_eq_false_iff_eq]; omega
              have HN := hide2 (hst.out (.inl he.symm))
              clear he hst hup
              rcases hsp with u1 | ⟨u1, u2⟩
              all_goals
                go_wp2_with (fail)
                go_roundw
                case rel => exact ⟨k + 1, by go_num, by omega, by omega, HN, by first | rfl | trivial⟩
                case measure => simp [intOf]; omega
            · have hne : (((x : Nat) : Int) != ((y : Nat) : Int)) = true := by rw [bne_iff_ne]; omega
              clear hup
              rcases hsp with u1 | ⟨u1, u2⟩
              all_goals
                go_wp2_with (fail)
                go_ret
                exact ⟨k, rfl, hk1, hk2, HAL.out, rfl⟩
        · have hkk : ¬ k < p.size ∨ ¬ k < s.size := by omega
          have HAL := hide2 hal.out
          clear hal
          have hke : k = s.size ∨ k = p.size := by omega
          go_wp2_with (fail)
          all_goals go_ret
          all_goals first
            | exact ⟨s.size, rfl, by omega, by omega, (by rw [show s.size = k by omega]; exact HAL.out), rfl⟩
            | exact ⟨p.size, rfl, by omega, by omega, (by rw [show p.size = k by omega]; exact HAL.out), rfl⟩

theorem frombits64 (x : Int) (w : World) : (callFunc 88 #[.int .u64 x]).run Tryz.prog w = .ok (.value (.float .f64 x.toNat)) w := by kernel_rfl

theorem inf_any (n : Int) (w : World) : Calls Tryz.prog 96 #[.int .i64 n] w (fun e w' => (∃ f : Nat, e = .returned (.float .f64 f)) ∧ w = w') := by
  have h := frombits64
  go_enter Tryz.func96, Tryz.ntmps96
  go_wp2_with (fail)
  all_goals go_ret
  all_goals exact ⟨⟨_, rfl⟩, rfl⟩

theorem nan_any (w : World) : Calls Tryz.prog 97 #[] w (fun e w' => (∃ f : Nat, e = .returned (.float .f64 f)) ∧ w = w') := by
  have h := frombits64
  go_enter Tryz.func97, Tryz.ntmps97
  go_wp2_with (fail)
  go_ret
  exact ⟨⟨_, rfl⟩, rfl⟩

/-- What special says. -/
def SpecPost (s : ByteArray) (w : World) (x : Ending) (w' : World) : Prop :=
  ∃ (f : Nat) (n : Nat) (ok : Bool), x = .returned (.tuple #[.float .f64 f, .int .i64 (n : Int), .bool ok]) ∧ n ≤ s.size ∧ w = w' ∧ (ok = true → ∃ k, k < s.size ∧ (byteAt s k = 110 ∨ byteAt s k = 78))

theorem extract_size (s : ByteArray) : (s.extract 1 s.size).size = s.size - 1 := by simp
theorem byteAt_extract (s : ByteArray) (j : Nat) : byteAt (s.extract 1 s.size) j = byteAt s (j + 1) := by
  unfold byteAt
  by_cases h : j + 1 < s.size
  · rw [dif_pos (by simp; omega), dif_pos h, ByteArray.getElem_extract]
    congr 2
    omega
  · rw [dif_neg (by simp; omega), dif_neg h]

theorem infinity_n {t : ByteArray} {k : Nat} (h : Alike t ⟨#[105, 110, 102, 105, 110, 105, 116, 121]⟩ k) (hk : 3 ≤ k) : byteAt t 1 = 110 ∨ byteAt t 1 = 78 := by
  have e : byteAt ⟨#[105, 110, 102, 105, 110, 105, 116, 121]⟩ 1 = 110 := rfl
  have := h 1 (by omega)
  rw [e] at this
  omega
theorem nan_n {t : ByteArray} {k : Nat} (h : Alike t ⟨#[110, 97, 110]⟩ k) (hk : 3 ≤ k) : byteAt t 0 = 110 ∨ byteAt t 0 = 78 := by
  have e : byteAt ⟨#[110, 97, 110]⟩ 0 = 110 := rfl
  have := h 0 (by omega)
  rw [e] at this
  omega

theorem inf_cases (k : Nat) (hk : k ≤ 8) : (k ≤ 2 ∧ decide ((3 : Int) < (k : Int)) = false ∧ (((k : Nat) : Int) == 3) = false ∧ (((k : Nat) : Int) == 8) = false) ∨ (k = 3) ∨ (3 ≤ k ∧ decide ((3 : Int) < (k : Int)) = true ∧ decide (((k : Nat) : Int) < 8) = true) ∨ (k = 8) := by
  by_cases h1 : k ≤ 2
  · left; exact ⟨h1, by simp; omega, by rw [beq_eq_false_iff_ne]; omega, by rw [beq_eq_false_iff_ne]; omega⟩
  · by_cases h2 : k = 3
    · right; left; exact h2
    · by_cases h3 : k = 8
      · right; right; right; exact h3
      · right; right; left; exact ⟨by omega, by simp; omega, by simp; omega⟩

set_option maxRecDepth 100000 in
set_option maxHeartbeats 4000000 in
theorem special_any (s : ByteArray) (w : World) (hs : s.size ≤ 1000000) : Calls Tryz.prog 78 #[.string s] w (SpecPost s w) := by
  by_cases hn0 : s.size = 0
  · have hn0' : ((s.size : Nat) : Int) = 0 := by omega
    go_enter Tryz.func78, Tryz.ntmps78
    go_wp2_with (fail)
    go_ret3
    exact ⟨0, 0, false, rfl, by omega, rfl, fun h => by cases h⟩
  · have hn1 : (1 : Int) ≤ ((s.size : Nat) : Int) := by omega
    have hnz : (((s.size : Nat) : Int) == 0) = false := by rw [beq_eq_false_iff_ne]; omega
    have h0 : 0 < s.size := by omega
    obtain ⟨x, hx⟩ : ∃ x, byteAt s 0 = x := ⟨_, rfl⟩
    have hx' : (s[0]'h0).toNat = x := (byteAt_eq h0).trans hx
    have p0 : byteAt s 0 = 110 ∨ byteAt s 0 = 78 → ∃ k, k < s.size ∧ (byteAt s k = 110 ∨ byteAt s k = 78) := fun h => ⟨0, h0, h⟩
    have P0 := hide2 p0
    have HS := hide2 hs
    clear p0 hx
    go_enter Tryz.func78, Tryz.ntmps78
    go_wp2_with (fail)
    all_goals try
      go_ret3
      exact ⟨0, 0, false, rfl, by omega, rfl, fun h => by cases h⟩
    · refine (pref_any (s.extract 1 s.size) ⟨#[105, 110, 102, 105, 110, 105, 116, 121]⟩ _ (by rw [extract_size]; have := HS.out; omega) (by decide)).mono ?_
      rintro e w' ⟨k, rfl, hk1, hk2, hal, rfl⟩
      rw [extract_size] at hk1
      have AL := hide2 hal
      have HK : Hid (3 ≤ k → ∃ k, k < s.size ∧ (byteAt s k = 110 ∨ byteAt s k = 78)) := hide2 (fun h => ⟨2, by omega, by rw [← byteAt_extract s 1]; exact infinity_n AL.out h⟩)
      have hk2' : k ≤ 8 := hk2
      clear hal hk2
      rcases inf_cases k hk2' with ⟨c0, c1, c2, c3⟩ | rfl | ⟨c0, c1, c2⟩ | rfl
      · go_wp2_with (fail)
        go_ret3
        exact ⟨0, 0, false, rfl, by omega, rfl, fun h => by cases h⟩
      · go_wp2_with (go_at_call 96; refine (inf_any _ _).mono ?_; rintro e w' ⟨⟨f, rfl⟩, rfl⟩)
        go_ret3
        exact ⟨_, 4, true, rfl, by omega, rfl, fun _ => HK.out (by omega)⟩
      · go_wp2_with (go_at_call 96; refine (inf_any _ _).mono ?_; rintro e w' ⟨⟨f, rfl⟩, rfl⟩)
        go_ret3
        exact ⟨_, 4, true, rfl, by omega, rfl, fun _ => HK.out (by omega)⟩
      · go_wp2_with (go_at_call 96; refine (inf_any _ _).mono ?_; rintro e w' ⟨⟨f, rfl⟩, rfl⟩)
        go_ret3
        exact ⟨_, 9, true, rfl, by omega, rfl, fun _ => HK.out (by omega)⟩
    · refine (pref_any (s.extract 1 s.size) ⟨#[105, 110, 102, 105, 110, 105, 116, 121]⟩ _ (by rw [extract_size]; have := HS.out; omega) (by decide)).mono ?_
      rintro e w' ⟨k, rfl, hk1, hk2, hal, rfl⟩
      rw [extract_size] at hk1
      have AL := hide2 hal
      have HK : Hid (3 ≤ k → ∃ k, k < s.size ∧ (byteAt s k = 110 ∨ byteAt s k = 78)) := hide2 (fun h => ⟨2, by omega, by rw [← byteAt_extract s 1]; exact infinity_n AL.out h⟩)
      have hk2' : k ≤ 8 := hk2
      clear hal hk2
      rcases inf_cases k hk2' with ⟨c0, c1, c2, c3⟩ | rfl | ⟨c0, c1, c2⟩ | rfl
      · go_wp2_with (fail)
        go_ret3
        exact ⟨0, 0, false, rfl, by omega, rfl, fun h => by cases h⟩
      · go_wp2_with (go_at_call 96; refine (inf_any _ _).mono ?_; rintro e w' ⟨⟨f, rfl⟩, rfl⟩)
        go_ret3
        exact ⟨_, 4, true, rfl, by omega, rfl, fun _ => HK.out (by omega)⟩
      · go_wp2_with (go_at_call 96; refine (inf_any _ _).mono ?_; rintro e w' ⟨⟨f, rfl⟩, rfl⟩)
        go_ret3
        exact ⟨_, 4, true, rfl, by omega, rfl, fun _ => HK.out (by omega)⟩
      · go_wp2_with (go_at_call 96; refine (inf_any _ _).mono ?_; rintro e w' ⟨⟨f, rfl⟩, rfl⟩)
        go_ret3
        exact ⟨_, 9, true, rfl, by omega, rfl, fun _ => HK.out (by omega)⟩
    · refine (pref_any s ⟨#[105, 110, 102, 105, 110, 105, 116, 121]⟩ _ HS.out (by decide)).mono ?_
      rintro e w' ⟨k, rfl, hk1, hk2, hal, rfl⟩
      have AL := hide2 hal
      have HK : Hid (3 ≤ k → ∃ k, k < s.size ∧ (byteAt s k = 110 ∨ byteAt s k = 78)) := hide2 (fun h => ⟨1, by omega, infinity_n AL.out h⟩)
      have hk2' : k ≤ 8 := hk2
      clear hal hk2
      rcases inf_cases k hk2' with ⟨c0, c1, c2, c3⟩ | rfl | ⟨c0, c1, c2⟩ | rfl
      · go_wp2_with (fail)
        go_ret3
        exact ⟨0, 0, false, rfl, by omega, rfl, fun h => by cases h⟩
      · go_wp2_with (go_at_call 96; refine (inf_any _ _).mono ?_; rintro e w' ⟨⟨f, rfl⟩, rfl⟩)
        go_ret3
        exact ⟨_, 3, true, rfl, by omega, rfl, fun _ => HK.out (by omega)⟩
      · go_wp2_with (go_at_call 96; refine (inf_any _ _).mono ?_; rintro e w' ⟨⟨f, rfl⟩, rfl⟩)
        go_ret3
        exact ⟨_, 3, true, rfl, by omega, rfl, fun _ => HK.out (by omega)⟩
      · go_wp2_with (go_at_call 96; refine (inf_any _ _).mono ?_; rintro e w' ⟨⟨f, rfl⟩, rfl⟩)
        go_ret3
        exact ⟨_, 8, true, rfl, by omega, rfl, fun _ => HK.out (by omega)⟩
    · refine (pref_any s ⟨#[105, 110, 102, 105, 110, 105, 116, 121]⟩ _ HS.out (by decide)).mono ?_
      rintro e w' ⟨k, rfl, hk1, hk2, hal, rfl⟩
      have AL := hide2 hal
      have HK : Hid (3 ≤ k → ∃ k, k < s.size ∧ (byteAt s k = 110 ∨ byteAt s k = 78)) := hide2 (fun h => ⟨1, by omega, infinity_n AL.out h⟩)
      have hk2' : k ≤ 8 := hk2
      clear hal hk2
      rcases inf_cases k hk2' with ⟨c0, c1, c2, c3⟩ | rfl | ⟨c0, c1, c2⟩ | rfl
      · go_wp2_with (fail)
        go_ret3
        exact ⟨0, 0, false, rfl, by omega, rfl, fun h => by cases h⟩
      · go_wp2_with (go_at_call 96; refine (inf_any _ _).mono ?_; rintro e w' ⟨⟨f, rfl⟩, rfl⟩)
        go_ret3
        exact ⟨_, 3, true, rfl, by omega, rfl, fun _ => HK.out (by omega)⟩
      · go_wp2_with (go_at_call 96; refine (inf_any _ _).mono ?_; rintro e w' ⟨⟨f, rfl⟩, rfl⟩)
        go_ret3
        exact ⟨_, 3, true, rfl, by omega, rfl, fun _ => HK.out (by omega)⟩
      · go_wp2_with (go_at_call 96; refine (inf_any _ _).mono ?_; rintro e w' ⟨⟨f, rfl⟩, rfl⟩)
        go_ret3
        exact ⟨_, 8, true, rfl, by omega, rfl, fun _ => HK.out (by omega)⟩
    · refine (pref_any s ⟨#[110, 97, 110]⟩ _ HS.out (by decide)).mono ?_
      rintro e w' ⟨k, rfl, hk1, hk2, hal, rfl⟩
      have AL := hide2 hal
      have hk2' : k ≤ 3 := hk2
      clear hal hk2
      by_cases h3 : k = 3
      · subst h3
        have HK := hide2 (P0.out (nan_n AL.out (by omega)))
        go_wp2_with (go_at_call 97; refine (nan_any _).mono ?_; rintro e w' ⟨⟨f, rfl⟩, rfl⟩)
        go_ret3
        exact ⟨_, 3, true, rfl, by omega, rfl, fun _ => HK.out⟩
      · have c2 : (((k : Nat) : Int) == 3) = false := by rw [beq_eq_false_iff_ne]; omega
        go_wp2_with (fail)
        go_ret3
        exact ⟨0, 0, false, rfl, by omega, rfl, fun h => by cases h⟩
    · refine (pref_any s ⟨#[110, 97, 110]⟩ _ HS.out (by decide)).mono ?_
      rintro e w' ⟨k, rfl, hk1, hk2, hal, rfl⟩
      have AL := hide2 hal
      have hk2' : k ≤ 3 := hk2
      clear hal hk2
      by_cases h3 : k = 3
      · subst h3
        have HK := hide2 (P0.out (nan_n AL.out (by omega)))
        go_wp2_with (go_at_call 97; refine (nan_any _).mono ?_; rintro e w' ⟨⟨f, rfl⟩, rfl⟩)
        go_ret3
        exact ⟨_, 3, true, rfl, by omega, rfl, fun _ => HK.out⟩
      · have c2 : (((k : Nat) : Int) == 3) = false := by rw [beq_eq_false_iff_ne]; omega
        go_wp2_with (fail)
        go_ret3
        exact ⟨0, 0, false, rfl, by omega, rfl, fun h => by cases h⟩
end Go.Proofs.YtonnmongipaheaaGreatDoor
