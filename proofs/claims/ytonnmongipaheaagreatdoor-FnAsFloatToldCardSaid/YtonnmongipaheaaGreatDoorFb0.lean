/- internal/strconv.floatBits: the scope with two labels; what stands behind them. -/
import Derived.Test.YtonnmongipaheaaGreatDoorShift
import Derived.ScopeJumps
import Derived.WalkMore
namespace Go.Proofs.YtonnmongipaheaaGreatDoor
open Go.RowKit
set_option linter.unusedVariables false
set_option linter.unusedSimpArgs false

/-- As Q; by a goto to label 0: J0; to label 1: J1; by any other goto: no way out. -/
def Exit.two (J0 J1 : Act → World → Prop) (Q : Exit → Act → World → Prop) : Exit → Act → World → Prop
  | .goto 0, a, w => J0 a w
  | .goto 1, a, w => J1 a w
  | .goto _, _, _ => False
  | e, a, w => Q e a w

theorem wp_scope_two {P : Program} {a : Act} {w : World} {Q : Exit → Act → World → Prop} {c r0 r1 : Code} (J0 J1 : Act → World → Prop) (h0 : findLabel c 0 = some r0) (h1 : findLabel c 1 = some r1) (hQ : ∀ l a w, ¬ Q (.goto l) a w)
    (first : c.wp P (Exit.two J0 J1 Q) a w) (p0 : ∀ a w, J0 a w → r0.wp P Q a w) (p1 : ∀ a w, J1 a w → r1.wp P Q a w) : (Code.scope c).wp P Q a w := by
  intro b k cs
  have key : ∀ (l : Nat) (rest : Code), findLabel c l = some rest → ∀ a w, rest.wp P Q a w → ∃ e a' w', Q e a' w' ∧ Arrives P (lone (b.at a (.code rest :: .inScope c :: k)) cs w) b k cs e a' w' := by
    intro l rest hf a w hp
    obtain ⟨e, a₁, w₁, hq, harr⟩ := hp b (.inScope c :: k) cs
    cases e with
    | normal => exact ⟨.normal, a₁, w₁, hq, Steps.trans harr (.one step_inScope)⟩
    | exit id => exact ⟨.exit id, a₁, w₁, hq, fun k' hk => harr k' (by simp [exitTo, hk])⟩
    | goto l' => exact absurd hq (hQ _ _ _)
    | ret => exact ⟨_, a₁, w₁, hq, harr⟩
    | panic ch => exact ⟨_, a₁, w₁, hq, harr⟩
    | outgrown => exact ⟨_, a₁, w₁, hq, harr⟩
  obtain ⟨e, a₁, w₁, hq, harr⟩ := first b (.inScope c :: k) cs
  cases e with
  | normal => exact ⟨.normal, a₁, w₁, hq, .head step_scope (Steps.trans harr (.one step_inScope))⟩
  | exit id => exact ⟨.exit id, a₁, w₁, hq, fun k' hk => .head step_scope (harr k' (by simp [exitTo, hk]))⟩
  | goto l' =>
    match l', hq, harr with
    | 0, hq, harr =>
      obtain ⟨e₂, a₂, w₂, hq₂, harr₂⟩ := key 0 r0 h0 a₁ w₁ (p0 _ _ hq)
      exact ⟨e₂, a₂, w₂, hq₂, .of_steps (.head step_scope (harr _ (by simp [gotoIn, h0]))) harr₂⟩
    | 1, hq, harr =>
      obtain ⟨e₂, a₂, w₂, hq₂, harr₂⟩ := key 1 r1 h1 a₁ w₁ (p1 _ _ hq)
      exact ⟨e₂, a₂, w₂, hq₂, .of_steps (.head step_scope (harr _ (by simp [gotoIn, h1]))) harr₂⟩
    | l + 2, hq, harr => exact absurd hq (by intro h; exact h)
  | ret => exact ⟨_, a₁, w₁, hq, .of_steps (.one step_scope) harr⟩
  | panic ch => exact ⟨_, a₁, w₁, hq, .of_steps (.one step_scope) harr⟩
  | outgrown => exact ⟨_, a₁, w₁, hq, .of_steps (.one step_scope) harr⟩

noncomputable def fbBody : Code := match Tryz.f86.body with
  | some (.seq _ (.scope c)) => c
  | _ => .skip
noncomputable def fbOut : Code := (findLabel fbBody 0).getD .skip
noncomputable def fbOver : Code := (findLabel fbBody 1).getD .skip

theorem list_range_getD {α : Type} (d : α) (l : List α) : l = (List.range l.length).map (fun i => l.getD i d) := by
  apply List.ext_getElem
  · simp
  · intro i h1 h2
    simp [List.getD_eq_getElem?_getD, List.getElem?_eq_getElem h1]

set_option maxRecDepth 1000000 in
theorem act_out {a : Act} (hd : a.defers = []) (hs : a.tmps.size = 243) : ∃ g : Nat → Value, (∀ k, g k = a.tmps.getD k undef) ∧ a = ⟨#[g 0, g 1, g 2, g 3, g 4, g 5, g 6, g 7, g 8, g 9, g 10, g 11, g 12, g 13, g 14, g 15, g 16, g 17, g 18, g 19, g 20, g 21, g 22, g 23, g 24, g 25, g 26, g 27, g 28, g 29, g 30, g 31, g 32, g 33, g 34, g 35, g 36, g 37, g 38, g 39, g 40, g 41, g 42, g 43, g 44, g 45, g 46, g 47, g 48, g 49, g 50, g 51, g 52, g 53, g 54, g 55, g 56, g 57, g 58, g 59, g 60, g 61, g 62, g 63, g 64, g 65, g 66, g 67, g 68, g 69, g 70, g 71, g 72, g 73, g 74, g 75, g 76, g 77, g 78, g 79, g 80, g 81, g 82, g 83, g 84, g 85, g 86, g 87, g 88, g 89, g 90, g 91, g 92, g 93, g 94, g 95, g 96, g 97, g 98, g 99, g 100, g 101, g 102, g 103, g 104, g 105, g 106, g 107, g 108, g 109, g 110, g 111, g 112, g 113, g 114, g 115, g 116, g 117, g 118, g 119, g 120, g 121, g 122, g 123, g 124, g 125, g 126, g 127, g 128, g 129, g 130, g 131, g 132, g 133, g 134, g 135, g 136, g 137, g 138, g 139, g 140, g 141, g 142, g 143, g 144, g 145, g 146, g 147, g 148, g 149, g 150, g 151, g 152, g 153, g 154, g 155, g 156, g 157, g 158, g 159, g 160, g 161, g 162, g 163, g 164, g 165, g 166, g 167, g 168, g 169, g 170, g 171, g 172, g 173, g 174, g 175, g 176, g 177, g 178, g 179, g 180, g 181, g 182, g 183, g 184, g 185, g 186, g 187, g 188, g 189, g 190, g 191, g 192, g 193, g 194, g 195, g 196, g 197, g 198, g 199, g 200, g 201, g 202, g 203, g 204, g 205, g 206, g 207, g 208, g 209, g 210, g 211, g 212, g 213, g 214, g 215, g 216, g 217, g 218, g 219, g 220, g 221, g 222, g 223, g 224, g 225, g 226, g 227, g 228, g 229, g 230, g 231, g 232, g 233, g 234, g 235, g 236, g 237, g 238, g 239, g 240, g 241, g 242], []⟩ := by
  obtain ⟨g, hg⟩ : ∃ g : Nat → Value, ∀ k, g k = a.tmps.getD k undef := ⟨_, fun _ => rfl⟩
  refine ⟨g, hg, ?_⟩
  have h := list_range_getD undef a.tmps.toList
  cases a with
  | mk t d =>
    subst hd
    simp only at hs h ⊢
    congr 1
    apply Array.toList_inj.1
    rw [h, Array.length_toList, hs]
    have e : (List.range 243).map (fun i => t.toList.getD i undef) = (List.range 243).map g := by
      apply List.map_congr_left
      intro i _
      rw [hg]
      simp [List.getD_eq_getElem?_getD, Array.getD_eq_getD_getElem?]
    rw [e]
    show @Eq (List Value) _ _
    kernel_rfl

/-- What holds wherever floatBits jumps to one of its labels. -/
structure AtOver (b : Nat) (ng : Bool) (W0 : World) (B : Nat) (a : Act) (w : World) : Prop where
  defers : a.defers = []
  size : a.tmps.size = 243
  s0 : a.tmps.getD 0 undef = .pointer (some ⟨b, 0, none⟩)
  s1 : a.tmps.getD 1 undef = .pointer (some ⟨5, 0, none⟩)
  dec : ∃ c nd dp tr, Dec w b c nd dp ng tr
  tab : Tab B w
  only : Only b W0 w
structure AtOut (b : Nat) (ng : Bool) (W0 : World) (B : Nat) (a : Act) (w : World) : Prop extends AtOver b ng W0 B a w where
  s5 : ∃ ov : Bool, a.tmps.getD 5 undef = .bool ov
  s6 : ∃ e : Int, a.tmps.getD 6 undef = .int .i64 e
  s7 : ∃ m : Int, a.tmps.getD 7 undef = .int .u64 m

def BitsPost (b : Nat) (w : World) (x : Ending) (w' : World) : Prop := ∃ (m : Int) (ov : Bool), x = .returned (.tuple #[.int .u64 m, .bool ov]) ∧ Only b w w'

set_option maxRecDepth 1000000 in
set_option maxHeartbeats 4000000 in
theorem out_part (b : Nat) (ng : Bool) (W0 : World) (B : Nat) (a : Act) (w : World) (h : AtOut b ng W0 B a w) : fbOut.wp Tryz.prog (bodyPost Tryz.prog Tryz.f86 (BitsPost b W0)) a w := by
  obtain ⟨g, hg, ha⟩ := act_out h.defers h.size
  have e0 := (hg 0).trans h.s0
  have e1 := (hg 1).trans h.s1
  obtain ⟨ov, h5⟩ := h.s5
  obtain ⟨e, h6⟩ := h.s6
  obtain ⟨m, h7⟩ := h.s7
  have e5 := (hg 5).trans h5
  have e6 := (hg 6).trans h6
  have e7 := (hg 7).trans h7
  obtain ⟨c, nd, dp, tr, hdec⟩ := h.dec
  have y1 := hdec.ng_
  have t0 := h.tab.inf0
  have t1 := h.tab.inf1
  have t2 := h.tab.inf2
  have HO := hide h.only
  rw [ha, e0, e1, e5, e6, e7]
  clear hg h5 h6 h7 e0 e1 e5 e6 e7 hdec h ha
  conv => arg 2; whnf
  cases ng
  · go_wp2_with (fail)
    go_quiet (fail)
    go_wp2_with (fail)
    go_ret2
    exact ⟨_, _, rfl, HO.out.drewN _⟩
  · go_wp2_with (fail)
    go_quiet (fail)
    go_wp2_with (fail)
    go_quiet (fail)
    go_wp2_with (fail)
    go_ret2
    exact ⟨_, _, rfl, (HO.out.drewN _).drewN _⟩

set_option maxRecDepth 1000000 in
set_option maxHeartbeats 4000000 in
theorem over_part (b : Nat) (ng : Bool) (W0 : World) (B : Nat) (a : Act) (w : World) (h : AtOver b ng W0 B a w) : fbOver.wp Tryz.prog (bodyPost Tryz.prog Tryz.f86 (BitsPost b W0)) a w := by
  obtain ⟨g, hg, ha⟩ := act_out h.defers h.size
  have e0 := (hg 0).trans h.s0
  have e1 := (hg 1).trans h.s1
  obtain ⟨c, nd, dp, tr, hdec⟩ := h.dec
  have y1 := hdec.ng_
  have t0 := h.tab.inf0
  have t1 := h.tab.inf1
  have t2 := h.tab.inf2
  have HO := hide h.only
  rw [ha, e0, e1]
  clear hg e0 e1 hdec h ha
  conv => arg 2; whnf
  cases ng
  · go_wp2_with (fail)
    go_quiet (fail)
    go_wp2_with (fail)
    go_step3
    go_wp2_with (fail)
    go_quiet (fail)
    go_wp2_with (fail)
    go_ret2
    exact ⟨_, _, rfl, HO.out.drewN _⟩
  · go_wp2_with (fail)
    go_quiet (fail)
    go_wp2_with (fail)
    go_step3
    go_wp2_with (fail)
    go_quiet (fail)
    go_wp2_with (fail)
    go_quiet (fail)
    go_wp2_with (fail)
    go_ret2
    exact ⟨_, _, rfl, (HO.out.drewN _).drewN _⟩
end Go.Proofs.YtonnmongipaheaaGreatDoor
