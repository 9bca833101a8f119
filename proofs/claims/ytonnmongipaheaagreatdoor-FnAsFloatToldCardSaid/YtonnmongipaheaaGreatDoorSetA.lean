/- (*internal/strconv.decimal).set returns; what it leaves. -/
import Derived.Test.YtonnmongipaheaaGreatDoorFb1
import Derived.Test.YtonnmongipaheaaGreatDoorUnder
import Derived.StillTailTactics
import Derived.Deep.Cut
namespace Go.Proofs.YtonnmongipaheaaGreatDoor
open Go.RowKit
set_option linter.unusedVariables false
set_option linter.unusedSimpArgs false

def SetPost (b : Nat) (w : World) (x : Ending) (w' : World) : Prop :=
  ∃ ok : Bool, x = .returned (.bool ok) ∧ (∃ (c : Nat → Nat) (nd : Nat) (dp : Int) (ng tr : Bool), Dec w' b c nd dp ng tr ∧ (nd ≠ 0 → DecG w' b c nd dp ng tr) ∧ -1000000 ≤ dp ∧ dp ≤ 1000000) ∧ Only b w w'

def DigW (c : Nat → Nat) (nd : Nat) : Prop := nd ≠ 0 → DigTo c nd ∧ 49 ≤ c 0

theorem DigW.put {c : Nat → Nat} {nd x : Nat} (h : DigW c nd) (h1 : 48 ≤ x ∧ x ≤ 57) (h2 : nd = 0 → x ≠ 48) : DigW (upd c nd x) (nd + 1) := fun _ => by
  refine ⟨fun i hi => ?_, ?_⟩
  · unfold upd
    split
    · exact h1
    · exact (h (by omega)).1 i (by omega)
  · unfold upd
    split
    · have := h2 (by omega); omega
    · exact (h (by omega)).2

theorem SetPost.mk {b : Nat} {w w' : World} {c : Nat → Nat} {nd : Nat} {dp : Int} {ng tr : Bool} (ok : Bool) (hD : Dec w' b c nd dp ng tr) (hW : DigW c nd) (hn : nd ≤ 800) (h1 : -1000000 ≤ dp) (h2 : dp ≤ 1000000) (hO : Only b w w') : SetPost b w (.returned (.bool ok)) w' :=
  ⟨ok, rfl, ⟨c, nd, dp, ng, tr, hD, fun h => ⟨hD, by omega, hn, (hW h).1, (hW h).2⟩, h1, h2⟩, hO⟩


def firstLoop : Code → Option Code
  | .loop c => some c
  | .seq a b => match firstLoop a with
    | some c => some c
    | none => firstLoop b
  | .block _ c => firstLoop c
  | .scope c => firstLoop c
  | .cond _ a b => match firstLoop a with
    | some c => some c
    | none => firstLoop b
  | _ => none
/-- The code behind the first loop. -/
def afterLoop : Code → Option Code
  | .seq a b => match firstLoop a with
    | some _ => some b
    | none => afterLoop b
  | _ => none
noncomputable def setRest : Code := (Tryz.f85.body.bind afterLoop).getD .skip

set_option maxRecDepth 1000000 in
theorem act_out224 {a : Act} (hd : a.defers = []) (hs : a.tmps.size = 224) : ∃ g : Nat → Value, (∀ k, g k = a.tmps.getD k undef) ∧ a = ⟨#[g 0, g 1, g 2, g 3, g 4, g 5, g 6, g 7, g 8, g 9, g 10, g 11, g 12, g 13, g 14, g 15, g 16, g 17, g 18, g 19, g 20, g 21, g 22, g 23, g 24, g 25, g 26, g 27, g 28, g 29, g 30, g 31, g 32, g 33, g 34, g 35, g 36, g 37, g 38, g 39, g 40, g 41, g 42, g 43, g 44, g 45, g 46, g 47, g 48, g 49, g 50, g 51, g 52, g 53, g 54, g 55, g 56, g 57, g 58, g 59, g 60, g 61, g 62, g 63, g 64, g 65, g 66, g 67, g 68, g 69, g 70, g 71, g 72, g 73, g 74, g 75, g 76, g 77, g 78, g 79, g 80, g 81, g 82, g 83, g 84, g 85, g 86, g 87, g 88, g 89, g 90, g 91, g 92, g 93, g 94, g 95, g 96, g 97, g 98, g 99, g 100, g 101, g 102, g 103, g 104, g 105, g 106, g 107, g 108, g 109, g 110, g 111, g 112, g 113, g 114, g 115, g 116, g 117, g 118, g 119, g 120, g 121, g 122, g 123, g 124, g 125, g 126, g 127, g 128, g 129, g 130, g 131, g 132, g 133, g 134, g 135, g 136, g 137, g 138, g 139, g 140, g 141, g 142, g 143, g 144, g 145, g 146, g 147, g 148, g 149, g 150, g 151, g 152, g 153, g 154, g 155, g 156, g 157, g 158, g 159, g 160, g 161, g 162, g 163, g 164, g 165, g 166, g 167, g 168, g 169, g 170, g 171, g 172, g 173, g 174, g 175, g 176, g 177, g 178, g 179, g 180, g 181, g 182, g 183, g 184, g 185, g 186, g 187, g 188, g 189, g 190, g 191, g 192, g 193, g 194, g 195, g 196, g 197, g 198, g 199, g 200, g 201, g 202, g 203, g 204, g 205, g 206, g 207, g 208, g 209, g 210, g 211, g 212, g 213, g 214, g 215, g 216, g 217, g 218, g 219, g 220, g 221, g 222, g 223], []⟩ := by
  obtain ⟨g, hg⟩ : ∃ g : Nat → Value, ∀ k, g k = a.tmps.getD k undef := ⟨_, fun _ => rfl⟩
  refine ⟨g, hg, ?_⟩
  have h := list_range_getD undef a.tmps.toList
  cases a with
  | mk t d =>
    subst hd
    simp only at hs h ⊢
    congr 1
    apply Array.toList_inj.1
    rw [h, Array.length_toList, hs]
    have e : (List.range 224).map (fun i => t.toList.getD i undef) = (List.range 224).map g := by
      apply List.map_congr_left
      intro i _
      rw [hg]
      simp [List.getD_eq_getElem?_getD, Array.getD_eq_getD_getElem?]
    rw [e]
    show @Eq (List Value) _ _
    kernel_rfl

set_option maxRecDepth 1000000 in
set_option maxHeartbeats 8000000 in
theorem after_any (b : Nat) (w0 : World) (s : ByteArray) (hs : s.size ≤ 100000) (a : Act) (w : World) (i : Nat) (a1 a2 : Bool) (c1 : Nat → Nat) (nd : Nat) (dp : Int) (ng1 tr1 : Bool)
    (hde : a.defers = []) (hsi : a.tmps.size = 224) (h0 : a.tmps.getD 0 undef = .pointer (some ⟨b, 0, none⟩)) (h1 : a.tmps.getD 1 undef = .string s) (h4 : a.tmps.getD 4 undef = .bool false) (h5 : a.tmps.getD 5 undef = .int .i64 (i : Int)) (h6 : a.tmps.getD 6 undef = .bool a1) (h7 : a.tmps.getD 7 undef = .bool a2)
    (hi : i ≤ s.size) (hnd : nd ≤ 800) (hd1 : -(i : Int) ≤ dp) (hd2 : dp ≤ 800) (hD' : Dec w b c1 nd dp ng1 tr1) (hW' : DigW c1 nd) (hO' : Only b w0 w) : setRest.wp Tryz.prog (bodyPost Tryz.prog Tryz.f85 (SetPost b w0)) a w := by
  obtain ⟨g, hg, ha⟩ := act_out224 hde hsi
  have e0 := (hg 0).trans h0
  have e1 := (hg 1).trans h1
  have e4 := (hg 4).trans h4
  have e5 := (hg 5).trans h5
  have e6 := (hg 6).trans h6
  have e7 := (hg 7).trans h7
  have q1 := hD'.nd_
  have q2 := hD'.dp_
  have r2 := hD'.free 801
  have hD := hide hD'
  have hW := hide hW'
  have hO := hide hO'
  rw [ha, e0, e1, e4, e5, e6, e7]
  clear hg h0 h1 h4 h5 h6 h7 e0 e1 e4 e5 e6 e7 hD' hW' hO' ha hde hsi
  conv => arg 2; whnf
  by_cases hlt : i < s.size
  · obtain ⟨x, hx⟩ : ∃ x : Nat, (s[i]'hlt).toNat = x := ⟨_, rfl⟩
    have hlt' : decide (i < s.size) = true := by simpa using hlt
    cases a2
    · go_wp2_with (fail)
      go_ret
      exact SetPost.mk _ hD.out hW.out hnd (by omega) (by omega) hO.out
    · have QDP := hide (hD.out.set_dp ((nd : Nat) : Int))
      have q6 := QDP.out.dp_
      have r6 := QDP.out.free 801
      cases a1
      · by_cases hl : (lowerB (x : Int) == 101) = true
        · obtain ⟨i1, hi1⟩ : ∃ i1, i1 = i + 1 := ⟨_, rfl⟩
          have e1 : ((i : Nat) : Int) + 1 = ((i1 : Nat) : Int) := by omega
          by_cases h1 : i1 < s.size
          · have h1' : decide (s.size ≤ i1) = false := by simpa using h1
            obtain ⟨y, hy⟩ : ∃ y : Nat, (s[i1]'h1).toNat = y := ⟨_, rfl⟩
            obtain ⟨i2, hi2⟩ : ∃ i2, i2 = i1 + 1 := ⟨_, rfl⟩
            have e2 : ((i1 : Nat) : Int) + 1 = ((i2 : Nat) : Int) := by omega
            have hsg : (((y : Nat) : Int) == 43) = true ∨ ((((y : Nat) : Int) == 43) = false ∧ (((y : Nat) : Int) == 45) = true) ∨ ((((y : Nat) : Int) == 43) = false ∧ (((y : Nat) : Int) == 45) = false) := by
              by_cases h1 : y = 43
              · left; rw [beq_iff_eq]; omega
              · by_cases h2 : y = 45
                · right; left; exact ⟨by rw [beq_eq_false_iff_ne]; omega, by rw [beq_iff_eq]; omega⟩
                · right; right; exact ⟨by rw [beq_eq_false_iff_ne]; omega, by rw [beq_eq_false_iff_ne]; omega⟩
            have hnz : (((i1 : Nat) : Int) != ((s.size : Nat) : Int)) = true := by rw [bne_iff_ne]; omega
            clear hi1 hi2
            rcases hsg with g1 | ⟨g1, g2⟩ | ⟨g1, g2⟩
            · by_cases h3 : i2 < s.size
              · have h3' : decide (s.size ≤ i2) = false := by simpa using h3
                obtain ⟨z, hz⟩ : ∃ z : Nat, (s[i2]'h3).toNat = z := ⟨_, rfl⟩
                have hnI : (((i2 : Nat) : Int) != ((s.size : Nat) : Int)) = true := by rw [bne_iff_ne]; omega
                have k2 : decide (((z : Nat) : Int) < 48) = true ∨ (decide (((z : Nat) : Int) < 48) = false ∧ decide ((57 : Int) < ((z : Nat) : Int)) = true) ∨ (decide (((z : Nat) : Int) < 48) = false ∧ decide ((57 : Int) < ((z : Nat) : Int)) = false) := by
                  by_cases h1 : z < 48
                  · left; simp; omega
                  · by_cases h2 : 57 < z
                    · right; left; exact ⟨by simp; omega, by simp; omega⟩
                    · right; right; exact ⟨by simp; omega, by simp; omega⟩
                rcases k2 with k2 | ⟨k2, k3⟩ | ⟨k2, k3⟩
                · go_wp2_with (go_at_call 92; refine (lower_any _ _).mono ?_; rintro u w9 ⟨rfl, rfl⟩)
                  go_ret
                  exact SetPost.mk _ QDP.out hW.out hnd (by omega) (by omega) (hO.out.set _ _)
                · go_wp2_with (go_at_call 92; refine (lower_any _ _).mono ?_; rintro u w9 ⟨rfl, rfl⟩)
                  go_ret
                  exact SetPost.mk _ QDP.out hW.out hnd (by omega) (by omega) (hO.out.set _ _)
                · go_wp2_with (go_at_call 92; refine (lower_any _ _).mono ?_; rintro u w9 ⟨rfl, rfl⟩)
                  clear hz k2 k3 hnI
                  go_loopg [5, 9] (s.size - i2) (fun g r e wr3 => ∃ (i : Nat) (y : Int), i + g = s.size ∧ i ≤ s.size ∧ r = .int .i64 (i : Int) ∧ e = .int .i64 y ∧ 0 ≤ y ∧ y ≤ 99999 ∧ (w.setCell ⟨b, 801, none⟩ (.int .i64 ((nd : Nat) : Int))) = wr3)
                  case atStart => exact ⟨i2, 0, by omega, by omega, rfl, rfl, by omega, by omega, rfl⟩
                  case round =>
                    obtain ⟨i, y, hg3, hi3, rfl, rfl, hy0, hy1, rfl⟩ := hrel
                    by_cases hi : i < s.size
                    · obtain ⟨z, hz⟩ : ∃ z : Nat, (s[i]'hi).toNat = z := ⟨_, rfl⟩
                      have hi' : decide (i < s.size) = true := by simpa using hi
                      have hne : (((i : Nat) : Int) != ((s.size : Nat) : Int)) = true := by rw [bne_iff_ne]; omega
                      by_cases hz95 : z = 95
                      · subst hz95
                        go_wp2_with (fail)
                        go_roundg (s.size - (i + 1))
                        case measure => omega
                        case rel => exact ⟨i + 1, y, by omega, by omega, by go_num, rfl, hy0, hy1, by first | rfl | trivial⟩
                      · have k1 : (((z : Nat) : Int) == 95) = false := by rw [beq_eq_false_iff_ne]; omega
                        by_cases hzd : 48 ≤ z ∧ z ≤ 57
                        · have k2 : decide ((48 : Int) ≤ ((z : Nat) : Int)) = true := by simp; omega
                          have k3 : decide (((z : Nat) : Int) ≤ 57) = true := by simp; omega
                          obtain ⟨hz1, hz2⟩ := hzd
                          by_cases hy4 : y < 10000
                          · go_wp2_with (fail)
                            go_roundg (s.size - (i + 1))
                            case measure => omega
                            case rel => exact ⟨i + 1, y * 10 + z - 48, by omega, by omega, by go_num, by go_num, by omega, by omega, by first | rfl | trivial⟩
                          · go_wp2_with (fail)
                            go_roundg (s.size - (i + 1))
                            case measure => omega
                            case rel => exact ⟨i + 1, y, by omega, by omega, by go_num, rfl, hy0, hy1, by first | rfl | trivial⟩
                        · have k2 : decide ((48 : Int) ≤ ((z : Nat) : Int)) = false ∨ (decide ((48 : Int) ≤ ((z : Nat) : Int)) = true ∧ decide (((z : Nat) : Int) ≤ 57) = false) := by
                            by_cases h1 : 48 ≤ z
                            · right; exact ⟨by simp; omega, by simp; omega⟩
                            · left; simp; omega
                          rcases k2 with k2 | ⟨k2, k3⟩
                          all_goals
                            go_wp2_with (fail)
                            go_ret
                            exact SetPost.mk _ (QDP.out.set_dp _) hW.out hnd (by omega) (by omega) ((hO.out.set _ _).set _ _)
                    · have hi' : decide (i < s.size) = false := by simpa using hi
                      have hne : (((i : Nat) : Int) != ((s.size : Nat) : Int)) = false := by simp only [bne_eq_false_iff_eq]; omega
                      go_wp2_with (fail)
                      go_ret
                      exact SetPost.mk _ (QDP.out.set_dp _) hW.out hnd (by omega) (by omega) ((hO.out.set _ _).set _ _)
              · have h3' : decide (s.size ≤ i2) = true := by simp; omega
                go_wp2_with (go_at_call 92; refine (lower_any _ _).mono ?_; rintro u w9 ⟨rfl, rfl⟩)
                go_ret
                exact SetPost.mk _ QDP.out hW.out hnd (by omega) (by omega) (hO.out.set _ _)
            · by_cases h3 : i2 < s.size
              · have h3' : decide (s.size ≤ i2) = false := by simpa using h3
                obtain ⟨z, hz⟩ : ∃ z : Nat, (s[i2]'h3).toNat = z := ⟨_, rfl⟩
                have hnI : (((i2 : Nat) : Int) != ((s.size : Nat) : Int)) = true := by rw [bne_iff_ne]; omega
                have k2 : decide (((z : Nat) : Int) < 48) = true ∨ (decide (((z : Nat) : Int) < 48) = false ∧ decide ((57 : Int) < ((z : Nat) : Int)) = true) ∨ (decide (((z : Nat) : Int) < 48) = false ∧ decide ((57 : Int) < ((z : Nat) : Int)) = false) := by
                  by_cases h1 : z < 48
                  · left; simp; omega
                  · by_cases h2 : 57 < z
                    · right; left; exact ⟨by simp; omega, by simp; omega⟩
                    · right; right; exact ⟨by simp; omega, by simp; omega⟩
                rcases k2 with k2 | ⟨k2, k3⟩ | ⟨k2, k3⟩
                · go_wp2_with (go_at_call 92; refine (lower_any _ _).mono ?_; rintro u w9 ⟨rfl, rfl⟩)
                  go_ret
                  exact SetPost.mk _ QDP.out hW.out hnd (by omega) (by omega) (hO.out.set _ _)
                · go_wp2_with (go_at_call 92; refine (lower_any _ _).mono ?_; rintro u w9 ⟨rfl, rfl⟩)
                  go_ret
                  exact SetPost.mk _ QDP.out hW.out hnd (by omega) (by omega) (hO.out.set _ _)
                · go_wp2_with (go_at_call 92; refine (lower_any _ _).mono ?_; rintro u w9 ⟨rfl, rfl⟩)
                  clear hz k2 k3 hnI
                  go_loopg [5, 9] (s.size - i2) (fun g r e wr3 => ∃ (i : Nat) (y : Int), i + g = s.size ∧ i ≤ s.size ∧ r = .int .i64 (i : Int) ∧ e = .int .i64 y ∧ 0 ≤ y ∧ y ≤ 99999 ∧ (w.setCell ⟨b, 801, none⟩ (.int .i64 ((nd : Nat) : Int))) = wr3)
                  case atStart => exact ⟨i2, 0, by omega, by omega, rfl, rfl, by omega, by omega, rfl⟩
                  case round =>
                    obtain ⟨i, y, hg3, hi3, rfl, rfl, hy0, hy1, rfl⟩ := hrel
                    by_cases hi : i < s.size
                    · obtain ⟨z, hz⟩ : ∃ z : Nat, (s[i]'hi).toNat = z := ⟨_, rfl⟩
                      have hi' : decide (i < s.size) = true := by simpa using hi
                      have hne : (((i : Nat) : Int) != ((s.size : Nat) : Int)) = true := by rw [bne_iff_ne]; omega
                      by_cases hz95 : z = 95
                      · subst hz95
                        go_wp2_with (fail)
                        go_roundg (s.size - (i + 1))
                        case measure => omega
                        case rel => exact ⟨i + 1, y, by omega, by omega, by go_num, rfl, hy0, hy1, by first | rfl | trivial⟩
                      · have k1 : (((z : Nat) : Int) == 95) = false := by rw [beq_eq_false_iff_ne]; omega
                        by_cases hzd : 48 ≤ z ∧ z ≤ 57
                        · have k2 : decide ((48 : Int) ≤ ((z : Nat) : Int)) = true := by simp; omega
                          have k3 : decide (((z : Nat) : Int) ≤ 57) = true := by simp; omega
                          obtain ⟨hz1, hz2⟩ := hzd
                          by_cases hy4 : y < 10000
                          · go_wp2_with (fail)
                            go_roundg (s.size - (i + 1))
                            case measure => omega
                            case rel => exact ⟨i + 1, y * 10 + z - 48, by omega, by omega, by go_num, by go_num, by omega, by omega, by first | rfl | trivial⟩
                          · go_wp2_with (fail)
                            go_roundg (s.size - (i + 1))
                            case measure => omega
                            case rel => exact ⟨i + 1, y, by omega, by omega, by go_num, rfl, hy0, hy1, by first | rfl | trivial⟩
                        · have k2 : decide ((48 : Int) ≤ ((z : Nat) : Int)) = false ∨ (decide ((48 : Int) ≤ ((z : Nat) : Int)) = true ∧ decide (((z : Nat) : Int) ≤ 57) = false) := by
                            by_cases h1 : 48 ≤ z
                            · right; exact ⟨by simp; omega, by simp; omega⟩
                            · left; simp; omega
                          rcases k2 with k2 | ⟨k2, k3⟩
                          all_goals
                            go_wp2_with (fail)
                            go_ret
                            exact SetPost.mk _ (QDP.out.set_dp _) hW.out hnd (by omega) (by omega) ((hO.out.set _ _).set _ _)
                    · have hi' : decide (i < s.size) = false := by simpa using hi
                      have hne : (((i : Nat) : Int) != ((s.size : Nat) : Int)) = false := by simp only [bne_eq_false_iff_eq]; omega
                      go_wp2_with (fail)
                      go_ret
                      exact SetPost.mk _ (QDP.out.set_dp _) hW.out hnd (by omega) (by omega) ((hO.out.set _ _).set _ _)
              · have h3' : decide (s.size ≤ i2) = true := by simp; omega
                go_wp2_with (go_at_call 92; refine (lower_any _ _).mono ?_; rintro u w9 ⟨rfl, rfl⟩)
                go_ret
                exact SetPost.mk _ QDP.out hW.out hnd (by omega) (by omega) (hO.out.set _ _)
            · by_cases h3 : i1 < s.size
              · have h3' : decide (s.size ≤ i1) = false := by simpa using h3
                have hnI : (((i1 : Nat) : Int) != ((s.size : Nat) : Int)) = true := by rw [bne_iff_ne]; omega
                have k2 : decide (((y : Nat) : Int) < 48) = true ∨ (decide (((y : Nat) : Int) < 48) = false ∧ decide ((57 : Int) < ((y : Nat) : Int)) = true) ∨ (decide (((y : Nat) : Int) < 48) = false ∧ decide ((57 : Int) < ((y : Nat) : Int)) = false) := by
                  by_cases h1 : y < 48
                  · left; simp; omega
                  · by_cases h2 : 57 < y
                    · right; left; exact ⟨by simp; omega, by simp; omega⟩
                    · right; right; exact ⟨by simp; omega, by simp; omega⟩
                rcases k2 with k2 | ⟨k2, k3⟩ | ⟨k2, k3⟩
                · go_wp2_with (go_at_call 92; refine (lower_any _ _).mono ?_; rintro u w9 ⟨rfl, rfl⟩)
                  go_ret
                  exact SetPost.mk _ QDP.out hW.out hnd (by omega) (by omega) (hO.out.set _ _)
                · go_wp2_with (go_at_call 92; refine (lower_any _ _).mono ?_; rintro u w9 ⟨rfl, rfl⟩)
                  go_ret
                  exact SetPost.mk _ QDP.out hW.out hnd (by omega) (by omega) (hO.out.set _ _)
                · go_wp2_with (go_at_call 92; refine (lower_any _ _).mono ?_; rintro u w9 ⟨rfl, rfl⟩)
                  clear k2 k3 hnI
                  go_loopg [5, 9] (s.size - i1) (fun g r e wr3 => ∃ (i : Nat) (y : Int), i + g = s.size ∧ i ≤ s.size ∧ r = .int .i64 (i : Int) ∧ e = .int .i64 y ∧ 0 ≤ y ∧ y ≤ 99999 ∧ (w.setCell ⟨b, 801, none⟩ (.int .i64 ((nd : Nat) : Int))) = wr3)
                  case atStart => exact ⟨i1, 0, by omega, by omega, rfl, rfl, by omega, by omega, rfl⟩
                  case round =>
                    obtain ⟨i, y, hg3, hi3, rfl, rfl, hy0, hy1, rfl⟩ := hrel
                    by_cases hi : i < s.size
                    · obtain ⟨z, hz⟩ : ∃ z : Nat, (s[i]'hi).toNat = z := ⟨_, rfl⟩
                      have hi' : decide (i < s.size) = true := by simpa using hi
                      have hne : (((i : Nat) : Int) != ((s.size : Nat) : Int)) = true := by rw [bne_iff_ne]; omega
                      by_cases hz95 : z = 95
                      · subst hz95
                        go_wp2_with (fail)
                        go_roundg (s.size - (i + 1))
                        case measure => omega
                        case rel => exact ⟨i + 1, y, by omega, by omega, by go_num, rfl, hy0, hy1, by first | rfl | trivial⟩
                      · have k1 : (((z : Nat) : Int) == 95) = false := by rw [beq_eq_false_iff_ne]; omega
                        by_cases hzd : 48 ≤ z ∧ z ≤ 57
                        · have k2 : decide ((48 : Int) ≤ ((z : Nat) : Int)) = true := by simp; omega
                          have k3 : decide (((z : Nat) : Int) ≤ 57) = true := by simp; omega
                          obtain ⟨hz1, hz2⟩ := hzd
                          by_cases hy4 : y < 10000
                          · go_wp2_with (fail)
                            go_roundg (s.size - (i + 1))
                            case measure => omega
                            case rel => exact ⟨i + 1, y * 10 + z - 48, by omega, by omega, by go_num, by go_num, by omega, by omega, by first | rfl | trivial⟩
                          · go_wp2_with (fail)
                            go_roundg (s.size - (i + 1))
                            case measure => omega
                            case rel => exact ⟨i + 1, y, by omega, by omega, by go_num, rfl, hy0, hy1, by first | rfl | trivial⟩
                        · have k2 : decide ((48 : Int) ≤ ((z : Nat) : Int)) = false ∨ (decide ((48 : Int) ≤ ((z : Nat) : Int)) = true ∧ decide (((z : Nat) : Int) ≤ 57) = false) := by
                            by_cases h1 : 48 ≤ z
                            · right; exact ⟨by simp; omega, by simp; omega⟩
                            · left; simp; omega
                          rcases k2 with k2 | ⟨k2, k3⟩
                          all_goals
                            go_wp2_with (fail)
                            go_ret
                            exact SetPost.mk _ (QDP.out.set_dp _) hW.out hnd (by omega) (by omega) ((hO.out.set _ _).set _ _)
                    · have hi' : decide (i < s.size) = false := by simpa using hi
                      have hne : (((i : Nat) : Int) != ((s.size : Nat) : Int)) = false := by simp only [bne_eq_false_iff_eq]; omega
                      go_wp2_with (fail)
                      go_ret
                      exact SetPost.mk _ (QDP.out.set_dp _) hW.out hnd (by omega) (by omega) ((hO.out.set _ _).set _ _)
              · exact absurd h1 h3
          · have h1' : decide (s.size ≤ i1) = true := by simp; omega
            clear hi1
            go_wp2_with (go_at_call 92; refine (lower_any _ _).mono ?_; rintro u w9 ⟨rfl, rfl⟩)
            go_ret
            exact SetPost.mk _ QDP.out hW.out hnd (by omega) (by omega) (hO.out.set _ _)
        · have hl' : (lowerB (x : Int) == 101) = false := by simpa using hl
          have hnz : (((i : Nat) : Int) != ((s.size : Nat) : Int)) = true := by rw [bne_iff_ne]; omega
          clear hl
          go_wp2_with (go_at_call 92; refine (lower_any _ _).mono ?_; rintro u w9 ⟨rfl, rfl⟩)
          go_ret
          exact SetPost.mk _ QDP.out hW.out hnd (by omega) (by omega) (hO.out.set _ _)
      · by_cases hl : (lowerB (x : Int) == 101) = true
        · obtain ⟨i1, hi1⟩ : ∃ i1, i1 = i + 1 := ⟨_, rfl⟩
          have e1 : ((i : Nat) : Int) + 1 = ((i1 : Nat) : Int) := by omega
          by_cases h1 : i1 < s.size
          · have h1' : decide (s.size ≤ i1) = false := by simpa using h1
            obtain ⟨y, hy⟩ : ∃ y : Nat, (s[i1]'h1).toNat = y := ⟨_, rfl⟩
            obtain ⟨i2, hi2⟩ : ∃ i2, i2 = i1 + 1 := ⟨_, rfl⟩
            have e2 : ((i1 : Nat) : Int) + 1 = ((i2 : Nat) : Int) := by omega
            have hsg : (((y : Nat) : Int) == 43) = true ∨ ((((y : Nat) : Int) == 43) = false ∧ (((y : Nat) : Int) == 45) = true) ∨ ((((y : Nat) : Int) == 43) = false ∧ (((y : Nat) : Int) == 45) = false) := by
              by_cases h1 : y = 43
              · left; rw [beq_iff_eq]; omega
              · by_cases h2 : y = 45
                · right; left; exact ⟨by rw [beq_eq_false_iff_ne]; omega, by rw [beq_iff_eq]; omega⟩
                · right; right; exact ⟨by rw [beq_eq_false_iff_ne]; omega, by rw [beq_eq_false_iff_ne]; omega⟩
            have hnz : (((i1 : Nat) : Int) != ((s.size : Nat) : Int)) = true := by rw [bne_iff_ne]; omega
            clear hi1 hi2
            rcases hsg with g1 | ⟨g1, g2⟩ | ⟨g1, g2⟩
            · by_cases h3 : i2 < s.size
              · have h3' : decide (s.size ≤ i2) = false := by simpa using h3
                obtain ⟨z, hz⟩ : ∃ z : Nat, (s[i2]'h3).toNat = z := ⟨_, rfl⟩
                have hnI : (((i2 : Nat) : Int) != ((s.size : Nat) : Int)) = true := by rw [bne_iff_ne]; omega
                have k2 : decide (((z : Nat) : Int) < 48) = true ∨ (decide (((z : Nat) : Int) < 48) = false ∧ decide ((57 : Int) < ((z : Nat) : Int)) = true) ∨ (decide (((z : Nat) : Int) < 48) = false ∧ decide ((57 : Int) < ((z : Nat) : Int)) = false) := by
                  by_cases h1 : z < 48
                  · left; simp; omega
                  · by_cases h2 : 57 < z
                    · right; left; exact ⟨by simp; omega, by simp; omega⟩
                    · right; right; exact ⟨by simp; omega, by simp; omega⟩
                rcases k2 with k2 | ⟨k2, k3⟩ | ⟨k2, k3⟩
                · go_wp2_with (go_at_call 92; refine (lower_any _ _).mono ?_; rintro u w9 ⟨rfl, rfl⟩)
                  go_ret
                  exact SetPost.mk _ hD.out hW.out hnd (by omega) (by omega) hO.out
                · go_wp2_with (go_at_call 92; refine (lower_any _ _).mono ?_; rintro u w9 ⟨rfl, rfl⟩)
                  go_ret
                  exact SetPost.mk _ hD.out hW.out hnd (by omega) (by omega) hO.out
                · go_wp2_with (go_at_call 92; refine (lower_any _ _).mono ?_; rintro u w9 ⟨rfl, rfl⟩)
                  clear hz k2 k3 hnI
                  go_loopg [5, 9] (s.size - i2) (fun g r e wr3 => ∃ (i : Nat) (y : Int), i + g = s.size ∧ i ≤ s.size ∧ r = .int .i64 (i : Int) ∧ e = .int .i64 y ∧ 0 ≤ y ∧ y ≤ 99999 ∧ w = wr3)
                  case atStart => exact ⟨i2, 0, by omega, by omega, rfl, rfl, by omega, by omega, rfl⟩
                  case round =>
                    obtain ⟨i, y, hg3, hi3, rfl, rfl, hy0, hy1, rfl⟩ := hrel
                    by_cases hi : i < s.size
                    · obtain ⟨z, hz⟩ : ∃ z : Nat, (s[i]'hi).toNat = z := ⟨_, rfl⟩
                      have hi' : decide (i < s.size) = true := by simpa using hi
                      have hne : (((i : Nat) : Int) != ((s.size : Nat) : Int)) = true := by rw [bne_iff_ne]; omega
                      by_cases hz95 : z = 95
                      · subst hz95
                        go_wp2_with (fail)
                        go_roundg (s.size - (i + 1))
                        case measure => omega
                        case rel => exact ⟨i + 1, y, by omega, by omega, by go_num, rfl, hy0, hy1, by first | rfl | trivial⟩
                      · have k1 : (((z : Nat) : Int) == 95) = false := by rw [beq_eq_false_iff_ne]; omega
                        by_cases hzd : 48 ≤ z ∧ z ≤ 57
                        · have k2 : decide ((48 : Int) ≤ ((z : Nat) : Int)) = true := by simp; omega
                          have k3 : decide (((z : Nat) : Int) ≤ 57) = true := by simp; omega
                          obtain ⟨hz1, hz2⟩ := hzd
                          by_cases hy4 : y < 10000
                          · go_wp2_with (fail)
                            go_roundg (s.size - (i + 1))
                            case measure => omega
                            case rel => exact ⟨i + 1, y * 10 + z - 48, by omega, by omega, by go_num, by go_num, by omega, by omega, by first | rfl | trivial⟩
                          · go_wp2_with (fail)
                            go_roundg (s.size - (i + 1))
                            case measure => omega
                            case rel => exact ⟨i + 1, y, by omega, by omega, by go_num, rfl, hy0, hy1, by first | rfl | trivial⟩
                        · have k2 : decide ((48 : Int) ≤ ((z : Nat) : Int)) = false ∨ (decide ((48 : Int) ≤ ((z : Nat) : Int)) = true ∧ decide (((z : Nat) : Int) ≤ 57) = false) := by
                            by_cases h1 : 48 ≤ z
                            · right; exact ⟨by simp; omega, by simp; omega⟩
                            · left; simp; omega
                          rcases k2 with k2 | ⟨k2, k3⟩
                          all_goals
                            go_wp2_with (fail)
                            go_ret
                            exact SetPost.mk _ (hD.out.set_dp _) hW.out hnd (by omega) (by omega) (hO.out.set _ _)
                    · have hi' : decide (i < s.size) = false := by simpa using hi
                      have hne : (((i : Nat) : Int) != ((s.size : Nat) : Int)) = false := by simp only [bne_eq_false_iff_eq]; omega
                      go_wp2_with (fail)
                      go_ret
                      exact SetPost.mk _ (hD.out.set_dp _) hW.out hnd (by omega) (by omega) (hO.out.set _ _)
              · have h3' : decide (s.size ≤ i2) = true := by simp; omega
                go_wp2_with (go_at_call 92; refine (lower_any _ _).mono ?_; rintro u w9 ⟨rfl, rfl⟩)
                go_ret
                exact SetPost.mk _ hD.out hW.out hnd (by omega) (by omega) hO.out
            · by_cases h3 : i2 < s.size
              · have h3' : decide (s.size ≤ i2) = false := by simpa using h3
                obtain ⟨z, hz⟩ : ∃ z : Nat, (s[i2]'h3).toNat = z := ⟨_, rfl⟩
                have hnI : (((i2 : Nat) : Int) != ((s.size : Nat) : Int)) = true := by rw [bne_iff_ne]; omega
                have k2 : decide (((z : Nat) : Int) < 48) = true ∨ (decide (((z : Nat) : Int) < 48) = false ∧ decide ((57 : Int) < ((z : Nat) : Int)) = true) ∨ (decide (((z : Nat) : Int) < 48) = false ∧ decide ((57 : Int) < ((z : Nat) : Int)) = false) := by
                  by_cases h1 : z < 48
                  · left; simp; omega
                  · by_cases h2 : 57 < z
                    · right; left; exact ⟨by simp; omega, by simp; omega⟩
                    · right; right; exact ⟨by simp; omega, by simp; omega⟩
                rcases k2 with k2 | ⟨k2, k3⟩ | ⟨k2, k3⟩
                · go_wp2_with (go_at_call 92; refine (lower_any _ _).mono ?_; rintro u w9 ⟨rfl, rfl⟩)
                  go_ret
                  exact SetPost.mk _ hD.out hW.out hnd (by omega) (by omega) hO.out
                · go_wp2_with (go_at_call 92; refine (lower_any _ _).mono ?_; rintro u w9 ⟨rfl, rfl⟩)
                  go_ret
                  exact SetPost.mk _ hD.out hW.out hnd (by omega) (by omega) hO.out
                · go_wp2_with (go_at_call 92; refine (lower_any _ _).mono ?_; rintro u w9 ⟨rfl, rfl⟩)
                  clear hz k2 k3 hnI
                  go_loopg [5, 9] (s.size - i2) (fun g r e wr3 => ∃ (i : Nat) (y : Int), i + g = s.size ∧ i ≤ s.size ∧ r = .int .i64 (i : Int) ∧ e = .int .i64 y ∧ 0 ≤ y ∧ y ≤ 99999 ∧ w = wr3)
                  case atStart => exact ⟨i2, 0, by omega, by omega, rfl, rfl, by omega, by omega, rfl⟩
                  case round =>
                    obtain ⟨i, y, hg3, hi3, rfl, rfl, hy0, hy1, rfl⟩ := hrel
                    by_cases hi : i < s.size
                    · obtain ⟨z, hz⟩ : ∃ z : Nat, (s[i]'hi).toNat = z := ⟨_, rfl⟩
                      have hi' : decide (i < s.size) = true := by simpa using hi
                      have hne : (((i : Nat) : Int) != ((s.size : Nat) : Int)) = true := by rw [bne_iff_ne]; omega
                      by_cases hz95 : z = 95
                      · subst hz95
                        go_wp2_with (fail)
                        go_roundg (s.size - (i + 1))
                        case measure => omega
                        case rel => exact ⟨i + 1, y, by omega, by omega, by go_num, rfl, hy0, hy1, by first | rfl | trivial⟩
                      · have k1 : (((z : Nat) : Int) == 95) = false := by rw [beq_eq_false_iff_ne]; omega
                        by_cases hzd : 48 ≤ z ∧ z ≤ 57
                        · have k2 : decide ((48 : Int) ≤ ((z : Nat) : Int)) = true := by simp; omega
                          have k3 : decide (((z : Nat) : Int) ≤ 57) = true := by simp; omega
                          obtain ⟨hz1, hz2⟩ := hzd
                          by_cases hy4 : y < 10000
                          · go_wp2_with (fail)
                            go_roundg (s.size - (i + 1))
                            case measure => omega
                            case rel => exact ⟨i + 1, y * 10 + z - 48, by omega, by omega, by go_num, by go_num, by omega, by omega, by first | rfl | trivial⟩
                          · go_wp2_with (fail)
                            go_roundg (s.size - (i + 1))
                            case measure => omega
                            case rel => exact ⟨i + 1, y, by omega, by omega, by go_num, rfl, hy0, hy1, by first | rfl | trivial⟩
                        · have k2 : decide ((48 : Int) ≤ ((z : Nat) : Int)) = false ∨ (decide ((48 : Int) ≤ ((z : Nat) : Int)) = true ∧ decide (((z : Nat) : Int) ≤ 57) = false) := by
                            by_cases h1 : 48 ≤ z
                            · right; exact ⟨by simp; omega, by simp; omega⟩
                            · left; simp; omega
                          rcases k2 with k2 | ⟨k2, k3⟩
                          all_goals
                            go_wp2_with (fail)
                            go_ret
                            exact SetPost.mk _ (hD.out.set_dp _) hW.out hnd (by omega) (by omega) (hO.out.set _ _)
                    · have hi' : decide (i < s.size) = false := by simpa using hi
                      have hne : (((i : Nat) : Int) != ((s.size : Nat) : Int)) = false := by simp only [bne_eq_false_iff_eq]; omega
                      go_wp2_with (fail)
                      go_ret
                      exact SetPost.mk _ (hD.out.set_dp _) hW.out hnd (by omega) (by omega) (hO.out.set _ _)
              · have h3' : decide (s.size ≤ i2) = true := by simp; omega
                go_wp2_with (go_at_call 92; refine (lower_any _ _).mono ?_; rintro u w9 ⟨rfl, rfl⟩)
                go_ret
                exact SetPost.mk _ hD.out hW.out hnd (by omega) (by omega) hO.out
            · by_cases h3 : i1 < s.size
              · have h3' : decide (s.size ≤ i1) = false := by simpa using h3
                have hnI : (((i1 : Nat) : Int) != ((s.size : Nat) : Int)) = true := by rw [bne_iff_ne]; omega
                have k2 : decide (((y : Nat) : Int) < 48) = true ∨ (decide (((y : Nat) : Int) < 48) = false ∧ decide ((57 : Int) < ((y : Nat) : Int)) = true) ∨ (decide (((y : Nat) : Int) < 48) = false ∧ decide ((57 : Int) < ((y : Nat) : Int)) = false) := by
                  by_cases h1 : y < 48
                  · left; simp; omega
                  · by_cases h2 : 57 < y
                    · right; left; exact ⟨by simp; omega, by simp; omega⟩
                    · right; right; exact ⟨by simp; omega, by simp; omega⟩
                rcases k2 with k2 | ⟨k2, k3⟩ | ⟨k2, k3⟩
                · go_wp2_with (go_at_call 92; refine (lower_any _ _).mono ?_; rintro u w9 ⟨rfl, rfl⟩)
                  go_ret
                  exact SetPost.mk _ hD.out hW.out hnd (by omega) (by omega) hO.out
                · go_wp2_with (go_at_call 92; refine (lower_any _ _).mono ?_; rintro u w9 ⟨rfl, rfl⟩)
                  go_ret
                  exact SetPost.mk _ hD.out hW.out hnd (by omega) (by omega) hO.out
                · go_wp2_with (go_at_call 92; refine (lower_any _ _).mono ?_; rintro u w9 ⟨rfl, rfl⟩)
                  clear k2 k3 hnI
                  go_loopg [5, 9] (s.size - i1) (fun g r e wr3 => ∃ (i : Nat) (y : Int), i + g = s.size ∧ i ≤ s.size ∧ r = .int .i64 (i : Int) ∧ e = .int .i64 y ∧ 0 ≤ y ∧ y ≤ 99999 ∧ w = wr3)
                  case atStart => exact ⟨i1, 0, by omega, by omega, rfl, rfl, by omega, by omega, rfl⟩
                  case round =>
                    obtain ⟨i, y, hg3, hi3, rfl, rfl, hy0, hy1, rfl⟩ := hrel
                    by_cases hi : i < s.size
                    · obtain ⟨z, hz⟩ : ∃ z : Nat, (s[i]'hi).toNat = z := ⟨_, rfl⟩
                      have hi' : decide (i < s.size) = true := by simpa using hi
                      have hne : (((i : Nat) : Int) != ((s.size : Nat) : Int)) = true := by rw [bne_iff_ne]; omega
                      by_cases hz95 : z = 95
                      · subst hz95
                        go_wp2_with (fail)
                        go_roundg (s.size - (i + 1))
                        case measure => omega
                        case rel => exact ⟨i + 1, y, by omega, by omega, by go_num, rfl, hy0, hy1, by first | rfl | trivial⟩
                      · have k1 : (((z : Nat) : Int) == 95) = false := by rw [beq_eq_false_iff_ne]; omega
                        by_cases hzd : 48 ≤ z ∧ z ≤ 57
                        · have k2 : decide ((48 : Int) ≤ ((z : Nat) : Int)) = true := by simp; omega
                          have k3 : decide (((z : Nat) : Int) ≤ 57) = true := by simp; omega
                          obtain ⟨hz1, hz2⟩ := hzd
                          by_cases hy4 : y < 10000
                          · go_wp2_with (fail)
                            go_roundg (s.size - (i + 1))
                            case measure => omega
                            case rel => exact ⟨i + 1, y * 10 + z - 48, by omega, by omega, by go_num, by go_num, by omega, by omega, by first | rfl | trivial⟩
                          · go_wp2_with (fail)
                            go_roundg (s.size - (i + 1))
                            case measure => omega
                            case rel => exact ⟨i + 1, y, by omega, by omega, by go_num, rfl, hy0, hy1, by first | rfl | trivial⟩
                        · have k2 : decide ((48 : Int) ≤ ((z : Nat) : Int)) = false ∨ (decide ((48 : Int) ≤ ((z : Nat) : Int)) = true ∧ decide (((z : Nat) : Int) ≤ 57) = false) := by
                            by_cases h1 : 48 ≤ z
                            · right; exact ⟨by simp; omega, by simp; omega⟩
                            · left; simp; omega
                          rcases k2 with k2 | ⟨k2, k3⟩
                          all_goals
                            go_wp2_with (fail)
                            go_ret
                            exact SetPost.mk _ (hD.out.set_dp _) hW.out hnd (by omega) (by omega) (hO.out.set _ _)
                    · have hi' : decide (i < s.size) = false := by simpa using hi
                      have hne : (((i : Nat) : Int) != ((s.size : Nat) : Int)) = false := by simp only [bne_eq_false_iff_eq]; omega
                      go_wp2_with (fail)
                      go_ret
                      exact SetPost.mk _ (hD.out.set_dp _) hW.out hnd (by omega) (by omega) (hO.out.set _ _)
              · exact absurd h1 h3
          · have h1' : decide (s.size ≤ i1) = true := by simp; omega
            clear hi1
            go_wp2_with (go_at_call 92; refine (lower_any _ _).mono ?_; rintro u w9 ⟨rfl, rfl⟩)
            go_ret
            exact SetPost.mk _ hD.out hW.out hnd (by omega) (by omega) hO.out
        · have hl' : (lowerB (x : Int) == 101) = false := by simpa using hl
          have hnz : (((i : Nat) : Int) != ((s.size : Nat) : Int)) = true := by rw [bne_iff_ne]; omega
          clear hl
          go_wp2_with (go_at_call 92; refine (lower_any _ _).mono ?_; rintro u w9 ⟨rfl, rfl⟩)
          go_ret
          exact SetPost.mk _ hD.out hW.out hnd (by omega) (by omega) hO.out
  · have hne : (((i : Nat) : Int) != ((s.size : Nat) : Int)) = false := by simp only [bne_eq_false_iff_eq]; omega
    have hlt' : decide (i < s.size) = false := by simpa using hlt
    cases a2
    · go_wp2_with (fail)
      go_ret
      exact SetPost.mk _ hD.out hW.out hnd (by omega) (by omega) hO.out
    · cases a1
      · go_wp2_with (fail)
        go_ret
        exact SetPost.mk _ (hD.out.set_dp _) hW.out hnd (by omega) (by omega) (hO.out.set _ _)
      · go_wp2_with (fail)
        go_ret
        exact SetPost.mk _ hD.out hW.out hnd (by omega) (by omega) hO.out

/-- What the first loop hands on. -/
def SetAfter (b : Nat) (w0 : World) (s : ByteArray) (a : Act) (w : World) : Prop :=
  ∃ (i : Nat) (a1 a2 : Bool) (c1 : Nat → Nat) (nd : Nat) (dp : Int) (ng1 tr1 : Bool), a.defers = [] ∧ a.tmps.size = 224 ∧ a.tmps.getD 0 undef = .pointer (some ⟨b, 0, none⟩) ∧ a.tmps.getD 1 undef = .string s ∧ a.tmps.getD 4 undef = .bool false ∧ a.tmps.getD 5 undef = .int .i64 (i : Int) ∧ a.tmps.getD 6 undef = .bool a1 ∧ a.tmps.getD 7 undef = .bool a2 ∧
    i ≤ s.size ∧ nd ≤ 800 ∧ -(i : Int) ≤ dp ∧ dp ≤ 800 ∧ Dec w b c1 nd dp ng1 tr1 ∧ DigW c1 nd ∧ Only b w0 w
theorem SetAfter.go {b : Nat} {w0 : World} {s : ByteArray} (hs : s.size ≤ 100000) {a : Act} {w : World} (h : SetAfter b w0 s a w) : setRest.wp Tryz.prog (bodyPost Tryz.prog Tryz.f85 (SetPost b w0)) a w := by
  obtain ⟨i, a1, a2, c1, nd, dp, ng1, tr1, h1, h2, h3, h4, h5, h6, h7, h8, h9, h10, h11, h12, h13, h14, h15⟩ := h
  exact after_any b w0 s hs a w i a1 a2 c1 nd dp ng1 tr1 h1 h2 h3 h4 h5 h6 h7 h8 h9 h10 h11 h12 h13 h14 h15

end Go.Proofs.YtonnmongipaheaaGreatDoor
