/- slices.Equal at two slices of one number; laws.sameStep. -/
import Derived.Test.YtclnpjelgdoloaaImplDiff
import Derived.Deep.QuietTactic
import Derived.BigQuiet
namespace Go.Proofs.Ytclnpjelgdoloaa
open Go.RowKit Go.Maps
set_option linter.unusedVariables false

/-- Some boolean, true if P; what was there has not turned. -/
def YesIf (P : Prop) (w : World) (e : Ending) (w' : World) : Prop := ∃ r : Bool, e = .returned (.bool r) ∧ (P → r = true) ∧ Below w.heap.size w w'

set_option maxRecDepth 100000 in
theorem equal1_eq (g1 g2 c1 c2 : Nat) (m : Int) (w : World) (h1 : w.cell? ⟨g1, 0, none⟩ = some (.int .i64 m)) (h2 : w.cell? ⟨g2, 0, none⟩ = some (.int .i64 m)) : Calls Try.prog 45 #[.slice (some ⟨g1, 0, none⟩) 1 c1, .slice (some ⟨g2, 0, none⟩) 1 c2] w (BoolPost true w) := by
  have H1 := hid h1
  have H2 := hid h2
  clear h1 h2
  go_enter Try.func45, Try.ntmps45
  go_wp2_with (fail)
  go_loopw [13] (fun k wr => ∃ kk : Nat, k = .int .i64 kk ∧ kk ≤ 1 ∧ Below w.heap.size w wr) (fun k _ => 1 - (intOf k).toNat)
  case atStart => exact ⟨0, rfl, by omega, Below.refl _ _⟩
  case round =>
    obtain ⟨kk, rfl, hkk, hbel⟩ := hrel
    have BW := hid hbel
    have c1 := (hbel.cell (p := ⟨g1, 0, none⟩) (World.block_lt_of_cell? w _ H1.out)).trans H1.out
    have c2 := (hbel.cell (p := ⟨g2, 0, none⟩) (World.block_lt_of_cell? w _ H2.out)).trans H2.out
    clear hbel
    by_cases hlt : kk < 1
    · obtain rfl : kk = 0 := by omega
      go_wp2_with (fail)
      go_quiet (fail)
      go_wp2_with (fail)
      go_roundw
      case rel => exact ⟨1, rfl, by omega, below_drewN BW.out _⟩
      case measure => simp [intOf]
    · go_wp2_with (fail)
      go_ret
      exact ⟨rfl, BW.out⟩

set_option maxRecDepth 100000 in
theorem equal1_ne (g1 g2 c1 c2 : Nat) (m n : Int) (hne : (m == n) = false) (w : World) (h1 : w.cell? ⟨g1, 0, none⟩ = some (.int .i64 m)) (h2 : w.cell? ⟨g2, 0, none⟩ = some (.int .i64 n)) : Calls Try.prog 45 #[.slice (some ⟨g1, 0, none⟩) 1 c1, .slice (some ⟨g2, 0, none⟩) 1 c2] w (BoolPost false w) := by
  have H1 := hid h1
  have H2 := hid h2
  clear h1 h2
  go_enter Try.func45, Try.ntmps45
  go_wp2_with (fail)
  go_loopw [13] (fun k wr => k = .int .i64 0 ∧ Below w.heap.size w wr) (fun k _ => 0)
  case atStart => exact ⟨rfl, Below.refl _ _⟩
  case round =>
    obtain ⟨rfl, hbel⟩ := hrel
    have BW := hid hbel
    have c1 := (hbel.cell (p := ⟨g1, 0, none⟩) (World.block_lt_of_cell? w _ H1.out)).trans H1.out
    have c2 := (hbel.cell (p := ⟨g2, 0, none⟩) (World.block_lt_of_cell? w _ H2.out)).trans H2.out
    clear hbel
    go_wp2_with (fail)
    go_quiet (fail)
    go_wp2_with (fail)
    go_ret
    exact ⟨rfl, below_drewN BW.out _⟩

theorem StepRow.lenEq {w : World} {B : Nat} {s : Option Step} {r : List Value} (h : StepRow w B s r) : r.length = 13 := by cases h <;> rfl

theorem StepRow.one {w : World} {B : Nat} {s : Option Step} {r : List Value} (h : StepRow w B s r) : ∀ u ∈ r, u.oneCell' = true := by
  cases h <;> exact fragRow_one _ _ _ _ _

theorem boxes_below (w : World) (X Y : Obj) : Below w.heap.size w ((w.alloc X).alloc Y) := ((Below.refl _ _).alloc (Nat.le_refl _) _).alloc (by simp) _

theorem cell_at0 {w : World} {g : Nat} {x : Value} {e : TypeId} (h : w.heap[g]? = some (.cells #[x] e (0, 0))) : w.cell? ⟨g, 0, none⟩ = some x := (cell_of_row _ g 0 _ e (0, 0) h).trans rfl

set_option maxRecDepth 100000 in
set_option maxHeartbeats 2000000 in
theorem sameStep_any {w : World} {B B' : Nat} {s1 s2 : Option Step} {r1 r2 : List Value} (h1 : StepRow w B s1 r1) (h2 : StepRow w B' s2 r2) : Calls Try.prog 31 #[.agg r1.toArray, .agg r2.toArray] w (YesIf (s1 = s2 ∧ s1 ≠ none) w) := by
  have HB := hid (fun X Y => boxes_below w X Y)
  cases h1
  case wild =>
    cases h2
    all_goals
      unfold fragRow
      go_enter Try.func31, Try.ntmps31
      go_wp2_with (fail)
      go_ret
      exact ⟨_, rfl, fun h => absurd rfl h.2, HB.out _ _⟩
  case key s =>
    cases h2
    case key s' =>
      unfold fragRow
      rcases he : (s.toList == s'.toList) with _ | _
      all_goals
        go_enter Try.func31, Try.ntmps31
        go_wp2_with (fail)
        go_ret
      · exact ⟨_, rfl, fun h => absurd (by have := h.1; simpa using this) (toList_beq_false he), HB.out _ _⟩
      · exact ⟨_, rfl, fun _ => rfl, HB.out _ _⟩
    all_goals
      unfold fragRow
      go_enter Try.func31, Try.ntmps31
      go_wp2_with (fail)
      go_ret
      exact ⟨_, rfl, fun h => absurd h.1 (by simp), HB.out _ _⟩
  case idx n g hg hc =>
    have HC := hid hc
    clear hc
    cases h2
    case idx n' g' hg' hc' =>
      unfold fragRow
      have HC' := hid hc'
      clear hc'
      by_cases he : (n : Int) = (n' : Int)
      · have hn : n = n' := by omega
        subst hn
        clear he
        go_enter Try.func31, Try.ntmps31
        go_wp2_with (go_at_call 45; refine (equal1_eq g g' _ _ (n : Int) _ ((( HB.out _ _).cell (p := ⟨g, 0, none⟩) (lt_of_block HC.out)).trans (cell_at0 HC.out)) (((HB.out _ _).cell (p := ⟨g', 0, none⟩) (lt_of_block HC'.out)).trans (cell_at0 HC'.out))).mono ?_; rintro e w2 ⟨rfl, hb⟩; have H2 := hid hb; clear hb)
        go_ret
        exact ⟨_, rfl, fun _ => rfl, (HB.out _ _).trans (H2.out.mono (HB.out _ _).size)⟩
      · have hne : ((n : Int) == (n' : Int)) = false := by rw [beq_eq_false_iff_ne]; exact he
        have HE := hid he
        have HNE := hid hne
        clear he hne
        go_enter Try.func31, Try.ntmps31
        go_wp2_with (go_at_call 45; refine (equal1_ne g g' _ _ (n : Int) (n' : Int) HNE.out _ ((( HB.out _ _).cell (p := ⟨g, 0, none⟩) (lt_of_block HC.out)).trans (cell_at0 HC.out)) (((HB.out _ _).cell (p := ⟨g', 0, none⟩) (lt_of_block HC'.out)).trans (cell_at0 HC'.out))).mono ?_; rintro e w2 ⟨rfl, hb⟩; have H2 := hid hb; clear hb)
        go_ret
        exact ⟨_, rfl, fun h => absurd (by have := h.1; simp at this; omega) HE.out, (HB.out _ _).trans (H2.out.mono (HB.out _ _).size)⟩
    all_goals
      unfold fragRow
      go_enter Try.func31, Try.ntmps31
      go_wp2_with (fail)
      go_ret
      exact ⟨_, rfl, fun h => absurd h.1 (by simp), HB.out _ _⟩
end Go.Proofs.Ytclnpjelgdoloaa
