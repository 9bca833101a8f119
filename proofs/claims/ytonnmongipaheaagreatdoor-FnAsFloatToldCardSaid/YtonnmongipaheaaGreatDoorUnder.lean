/- internal/strconv.underscoreOK answers. -/
import Derived.Test.YtonnmongipaheaaGreatDoorSpec
import Derived.Deep.LoopGhost
import Derived.Deep.Cut
namespace Go.Proofs.YtonnmongipaheaaGreatDoor
open Go.RowKit
set_option linter.unusedVariables false
set_option linter.unusedSimpArgs false

def lowerB (x : Int) : Int := bits .or .u8 x 32
theorem lower_any (x : Int) (w : World) : Calls Tryz.prog 92 #[.int .u8 x] w (fun e w' => e = .returned (.int .u8 (lowerB x)) ∧ w = w') := by
  go_enter Tryz.func92, Tryz.ntmps92
  go_wp2_with (fail)
  go_ret
  exact ⟨rfl, rfl⟩

/-- Does this code begin with region n? -/
def startsWith (n : Nat) : Code → Bool
  | .region m _ _ => m == n
  | .seq a _ => startsWith n a
  | .block _ c => startsWith n c
  | .loop c => startsWith n c
  | .scope c => startsWith n c
  | _ => false
/-- The code from region n on, where it stands second in a sequence. -/
def restFrom (n : Nat) : Code → Option Code
  | .seq a b => if startsWith n b then some b else match restFrom n a with
    | some c => some c
    | none => restFrom n b
  | .block _ c => restFrom n c
  | .loop c => restFrom n c
  | .scope c => restFrom n c
  | .cond _ a b => match restFrom n a with
    | some c => some c
    | none => restFrom n b
  | _ => none

def YesNo (w : World) (e : Ending) (w' : World) : Prop := ∃ b : Bool, e = .returned (.bool b) ∧ w = w'

noncomputable def underRest : Code := (Tryz.f93.body.bind (restFrom 10)).getD .skip

theorem range_getD {α : Type} (d : α) (l : List α) : l = (List.range l.length).map (fun i => l.getD i d) := by
  apply List.ext_getElem
  · simp
  · intro i h1 h2
    simp [List.getD_eq_getElem?_getD, List.getElem?_eq_getElem h1]

set_option maxRecDepth 1000000 in
theorem act_out94 {a : Act} (hd : a.defers = []) (hs : a.tmps.size = 94) : ∃ g : Nat → Value, (∀ k, g k = a.tmps.getD k undef) ∧ a = ⟨#[g 0, g 1, g 2, g 3, g 4, g 5, g 6, g 7, g 8, g 9, g 10, g 11, g 12, g 13, g 14, g 15, g 16, g 17, g 18, g 19, g 20, g 21, g 22, g 23, g 24, g 25, g 26, g 27, g 28, g 29, g 30, g 31, g 32, g 33, g 34, g 35, g 36, g 37, g 38, g 39, g 40, g 41, g 42, g 43, g 44, g 45, g 46, g 47, g 48, g 49, g 50, g 51, g 52, g 53, g 54, g 55, g 56, g 57, g 58, g 59, g 60, g 61, g 62, g 63, g 64, g 65, g 66, g 67, g 68, g 69, g 70, g 71, g 72, g 73, g 74, g 75, g 76, g 77, g 78, g 79, g 80, g 81, g 82, g 83, g 84, g 85, g 86, g 87, g 88, g 89, g 90, g 91, g 92, g 93], []⟩ := by
  obtain ⟨g, hg⟩ : ∃ g : Nat → Value, ∀ k, g k = a.tmps.getD k undef := ⟨_, fun _ => rfl⟩
  refine ⟨g, hg, ?_⟩
  have h := range_getD undef a.tmps.toList
  cases a with
  | mk t d =>
    subst hd
    simp only at hs h ⊢
    congr 1
    apply Array.toList_inj.1
    rw [h, Array.length_toList, hs]
    have e : (List.range 94).map (fun i => t.toList.getD i undef) = (List.range 94).map g := by
      apply List.map_congr_left
      intro i _
      rw [hg]
      simp [List.getD_eq_getElem?_getD, Array.getD_eq_getD_getElem?]
    rw [e]
    show @Eq (List Value) _ _
    kernel_rfl

def UnderAt (w0 : World) (a : Act) (w : World) : Prop :=
  w0 = w ∧ a.defers = [] ∧ a.tmps.size = 94 ∧ ∃ (s : ByteArray) (saw : Int) (i : Nat) (hex : Bool), s.size ≤ 1000000 ∧ i ≤ 2 ∧ i ≤ s.size ∧ a.tmps.getD 0 undef = .string s ∧ a.tmps.getD 3 undef = .int .i32 saw ∧ a.tmps.getD 4 undef = .int .i64 (i : Int) ∧ a.tmps.getD 5 undef = .bool hex

set_option maxRecDepth 1000000 in
set_option maxHeartbeats 4000000 in
theorem under_rest (w0 : World) (a : Act) (w : World) (h : UnderAt w0 a w) : underRest.wp Tryz.prog (bodyPost Tryz.prog Tryz.f93 (YesNo w0)) a w := by
  obtain ⟨rfl, hde, hsi, s, saw, i0, hex, hs, hi1, hi2, h0, h3, h4, h5⟩ := h
  obtain ⟨g, hg, ha⟩ := act_out94 hde hsi
  have e0 := (hg 0).trans h0
  have e3 := (hg 3).trans h3
  have e4 := (hg 4).trans h4
  have e5 := (hg 5).trans h5
  rw [ha, e0, e3, e4, e5]
  clear hg h0 h3 h4 h5 e0 e3 e4 e5 ha hde hsi
  conv => arg 2; whnf
  go_wp2_with (fail)
  go_loopw [3, 4] (fun sw ii wr => ∃ (saw : Int) (i : Nat), sw = .int .i32 saw ∧ ii = .int .i64 (i : Int) ∧ i ≤ s.size ∧ w0 = wr) (fun _ ii _ => s.size - (intOf ii).toNat)
  case atStart => exact ⟨saw, i0, rfl, rfl, hi2, rfl⟩
  case round =>
    obtain ⟨saw, i, rfl, rfl, hi, rfl⟩ := hrel
    by_cases hlt : i < s.size
    · obtain ⟨x, hx⟩ : ∃ x : Nat, (s[i]'hlt).toNat = x := ⟨_, rfl⟩
      have hlt' : decide (i < s.size) = true := by simpa using hlt
      by_cases hxd : 48 ≤ x ∧ x ≤ 57
      · have k3 : decide ((48 : Int) ≤ ((x : Nat) : Int)) = true := by simp; omega
        have k4 : decide (((x : Nat) : Int) ≤ 57) = true := by simp; omega
        go_wp2_with (go_at_call 92; refine (lower_any _ _).mono ?_; rintro u w9 ⟨rfl, rfl⟩)
        go_roundw
        case rel => exact ⟨48, i + 1, rfl, by go_num, by omega, by first | rfl | trivial⟩
        case measure => simp [intOf]; omega
      · have hsp : decide ((48 : Int) ≤ ((x : Nat) : Int)) = false ∨ (decide ((48 : Int) ≤ ((x : Nat) : Int)) = true ∧ decide (((x : Nat) : Int) ≤ 57) = false) := by
          by_cases h1 : 48 ≤ x
          · right; exact ⟨by simp; omega, by simp; omega⟩
          · left; simp; omega
        have h95 : (((x : Nat) : Int) == 95) = true ∨ (((x : Nat) : Int) == 95) = false := by cases (((x : Nat) : Int) == 95) <;> simp
        have h48 : ((saw : Int) != 48) = true ∨ ((saw : Int) != 48) = false := by cases ((saw : Int) != 48) <;> simp
        have h95' : ((saw : Int) == 95) = true ∨ ((saw : Int) == 95) = false := by cases ((saw : Int) == 95) <;> simp
        have hl1 : decide ((97 : Int) ≤ lowerB (x : Int)) = true ∨ decide ((97 : Int) ≤ lowerB (x : Int)) = false := by cases decide ((97 : Int) ≤ lowerB (x : Int)) <;> simp
        have hl2 : decide (lowerB (x : Int) ≤ 102) = true ∨ decide (lowerB (x : Int) ≤ 102) = false := by cases decide (lowerB (x : Int) ≤ 102) <;> simp
        clear hxd
        cases hex
        · rcases hsp with k3 | ⟨k3, k4⟩
          all_goals rcases h95 with h95 | h95
          all_goals go_wp2_with (go_at_call 92; refine (lower_any _ _).mono ?_; rintro u w9 ⟨rfl, rfl⟩)
          all_goals first
            | (go_ret; exact ⟨_, rfl, rfl⟩)
            | (go_roundw
               case rel => exact ⟨_, i + 1, rfl, by go_num, by omega, by first | rfl | trivial⟩
               case measure => simp [intOf]; omega)
        · rcases hsp with k3 | ⟨k3, k4⟩
          all_goals rcases hl1 with hl1 | hl1
          all_goals rcases hl2 with hl2 | hl2
          all_goals rcases h95 with h95 | h95
          all_goals go_wp2_with (go_at_call 92; refine (lower_any _ _).mono ?_; rintro u w9 ⟨rfl, rfl⟩)
          all_goals first
            | (go_ret; exact ⟨_, rfl, rfl⟩)
            | (go_roundw
               case rel => exact ⟨_, i + 1, rfl, by go_num, by omega, by first | rfl | trivial⟩
               case measure => simp [intOf]; omega)
    · have hlt' : decide (i < s.size) = false := by simpa using hlt
      go_wp2_with (fail)
      go_ret
      exact ⟨_, rfl, rfl⟩

set_option maxRecDepth 1000000 in
set_option maxHeartbeats 4000000 in
theorem under_any (s : ByteArray) (w : World) (hs : s.size ≤ 1000000) : Calls Tryz.prog 93 #[.string s] w (YesNo w) := by
  have HS := hide2 hs
  have key : ∀ (t : ByteArray) (b0 b1 : Bool), True := fun _ _ _ => trivial
  by_cases hn0 : s.size = 0
  · have hn0' : ((s.size : Nat) : Int) = 0 := by omega
    go_enter Tryz.func93, Tryz.ntmps93
    go_upto_region 6 with (fail)
    rename_i K1 hK1 K2 hK2
    have HK1 : ∀ a' w', UnderAt w a' w' → K1 a' w' := fun a' w' h => hK1 a' w' (under_rest w a' w' h)
    clear hK1
    go_wp2_with (fail)
    exact ⟨rfl, rfl, rfl, s, _, 0, _, hs, by omega, by omega, rfl, rfl, rfl, rfl⟩
  · have h0 : 0 < s.size := by omega
    have hn1 : (1 : Int) ≤ ((s.size : Nat) : Int) := by omega
    obtain ⟨x0, hx0⟩ : ∃ x : Nat, (s[0]'h0).toNat = x := ⟨_, rfl⟩
    have hsg : ((((x0 : Nat) : Int) == 45) = true ∨ ((((x0 : Nat) : Int) == 45) = false ∧ (((x0 : Nat) : Int) == 43) = true)) ∨ ((((x0 : Nat) : Int) == 45) = false ∧ (((x0 : Nat) : Int) == 43) = false) := by
      by_cases h1 : x0 = 45
      · left; left; rw [beq_iff_eq]; omega
      · by_cases h2 : x0 = 43
        · left; right; exact ⟨by rw [beq_eq_false_iff_ne]; omega, by rw [beq_iff_eq]; omega⟩
        · right; exact ⟨by rw [beq_eq_false_iff_ne]; omega, by rw [beq_eq_false_iff_ne]; omega⟩
    rcases hsg with hsg | ⟨g1, g2⟩
    · obtain ⟨t, ht⟩ : ∃ t, s.extract 1 s.size = t := ⟨_, rfl⟩
      have hts : t.size + 1 = s.size := by rw [← ht, extract_size]; omega
      have htb : t.size ≤ 1000000 := by omega
      have HT := hide2 ht
      rcases hsg with g1 | ⟨g1, g2⟩
      all_goals
        by_cases h2 : 2 ≤ t.size
        · have h2' : (2 : Int) ≤ ((t.size : Nat) : Int) := by omega
          obtain ⟨x, hx⟩ : ∃ x : Nat, (t[0]'(by omega)).toNat = x := ⟨_, rfl⟩
          obtain ⟨y, hy⟩ : ∃ y : Nat, (t[1]'(by omega)).toNat = y := ⟨_, rfl⟩
          have c1 : (((x : Nat) : Int) == 48) = true ∨ (((x : Nat) : Int) == 48) = false := by cases (((x : Nat) : Int) == 48) <;> simp
          have c2 : (lowerB (y : Int) == 98) = true ∨ (lowerB (y : Int) == 98) = false := by cases (lowerB (y : Int) == 98) <;> simp
          have c3 : (lowerB (y : Int) == 111) = true ∨ (lowerB (y : Int) == 111) = false := by cases (lowerB (y : Int) == 111) <;> simp
          have c4 : (lowerB (y : Int) == 120) = true ∨ (lowerB (y : Int) == 120) = false := by cases (lowerB (y : Int) == 120) <;> simp
          go_enter Tryz.func93, Tryz.ntmps93
          go_upto_region 6 with (fail)
          rename_i K1 hK1 K2 hK2
          have HK1 : ∀ a' w', UnderAt w a' w' → K1 a' w' := fun a' w' h => hK1 a' w' (under_rest w a' w' h)
          clear hK1
          rcases c1 with c1 | c1
          · rcases c2 with c2 | c2
            all_goals rcases c3 with c3 | c3
            all_goals rcases c4 with c4 | c4
            all_goals go_wp2_with (go_at_call 92; refine (lower_any _ _).mono ?_; rintro u w9 ⟨rfl, rfl⟩)
            all_goals first
              | exact ⟨rfl, rfl, rfl, _, _, 2, _, htb, by omega, by omega, rfl, rfl, rfl, rfl⟩
              | exact ⟨rfl, rfl, rfl, _, _, 0, _, htb, by omega, by omega, rfl, rfl, rfl, rfl⟩
          · go_wp2_with (go_at_call 92; refine (lower_any _ _).mono ?_; rintro u w9 ⟨rfl, rfl⟩)
            exact ⟨rfl, rfl, rfl, _, _, 0, _, htb, by omega, by omega, rfl, rfl, rfl, rfl⟩
        · have h2' : ¬ (2 : Int) ≤ ((t.size : Nat) : Int) := by omega
          have h2'' : decide ((2 : Int) ≤ ((t.size : Nat) : Int)) = false := by simp; omega
          go_enter Tryz.func93, Tryz.ntmps93
          go_upto_region 6 with (fail)
          rename_i K1 hK1 K2 hK2
          have HK1 : ∀ a' w', UnderAt w a' w' → K1 a' w' := fun a' w' h => hK1 a' w' (under_rest w a' w' h)
          clear hK1
          go_wp2_with (go_at_call 92; refine (lower_any _ _).mono ?_; rintro u w9 ⟨rfl, rfl⟩)
          exact ⟨rfl, rfl, rfl, _, _, 0, _, htb, by omega, by omega, rfl, rfl, rfl, rfl⟩
    · obtain ⟨t, ht⟩ : ∃ t, s = t := ⟨_, rfl⟩
      subst ht
      have htb : s.size ≤ 1000000 := hs
      by_cases h2 : 2 ≤ s.size
      · have h2' : (2 : Int) ≤ ((s.size : Nat) : Int) := by omega
        obtain ⟨y, hy⟩ : ∃ y : Nat, (s[1]'(by omega)).toNat = y := ⟨_, rfl⟩
        have c1 : (((x0 : Nat) : Int) == 48) = true ∨ (((x0 : Nat) : Int) == 48) = false := by cases (((x0 : Nat) : Int) == 48) <;> simp
        have c2 : (lowerB (y : Int) == 98) = true ∨ (lowerB (y : Int) == 98) = false := by cases (lowerB (y : Int) == 98) <;> simp
        have c3 : (lowerB (y : Int) == 111) = true ∨ (lowerB (y : Int) == 111) = false := by cases (lowerB (y : Int) == 111) <;> simp
        have c4 : (lowerB (y : Int) == 120) = true ∨ (lowerB (y : Int) == 120) = false := by cases (lowerB (y : Int) == 120) <;> simp
        go_enter Tryz.func93, Tryz.ntmps93
        go_upto_region 6 with (fail)
        rename_i K1 hK1 K2 hK2
        have HK1 : ∀ a' w', UnderAt w a' w' → K1 a' w' := fun a' w' h => hK1 a' w' (under_rest w a' w' h)
        clear hK1
        rcases c1 with c1 | c1
        · rcases c2 with c2 | c2
          all_goals rcases c3 with c3 | c3
          all_goals rcases c4 with c4 | c4
          all_goals go_wp2_with (go_at_call 92; refine (lower_any _ _).mono ?_; rintro u w9 ⟨rfl, rfl⟩)
          all_goals first
            | exact ⟨rfl, rfl, rfl, _, _, 2, _, htb, by omega, by omega, rfl, rfl, rfl, rfl⟩
            | exact ⟨rfl, rfl, rfl, _, _, 0, _, htb, by omega, by omega, rfl, rfl, rfl, rfl⟩
        · go_wp2_with (go_at_call 92; refine (lower_any _ _).mono ?_; rintro u w9 ⟨rfl, rfl⟩)
          exact ⟨rfl, rfl, rfl, _, _, 0, _, htb, by omega, by omega, rfl, rfl, rfl, rfl⟩
      · have h2' : ¬ (2 : Int) ≤ ((s.size : Nat) : Int) := by omega
        have h2'' : decide ((2 : Int) ≤ ((s.size : Nat) : Int)) = false := by simp; omega
        go_enter Tryz.func93, Tryz.ntmps93
        go_upto_region 6 with (fail)
        rename_i K1 hK1 K2 hK2
        have HK1 : ∀ a' w', UnderAt w a' w' → K1 a' w' := fun a' w' h => hK1 a' w' (under_rest w a' w' h)
        clear hK1
        go_wp2_with (go_at_call 92; refine (lower_any _ _).mono ?_; rintro u w9 ⟨rfl, rfl⟩)
        exact ⟨rfl, rfl, rfl, _, _, 0, _, htb, by omega, by omega, rfl, rfl, rfl, rfl⟩
end Go.Proofs.YtonnmongipaheaaGreatDoor
