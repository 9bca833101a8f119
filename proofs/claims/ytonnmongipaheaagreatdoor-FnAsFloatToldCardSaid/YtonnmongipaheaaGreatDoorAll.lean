/- laws.FnAsFloatTold returns true, at every value and every row of floats. -/
import Derived.Test.YtonnmongipaheaaGreatDoorTold
import Derived.Test.YtonnmongipaheaaGreatDoorTold2
namespace Go.Proofs.YtonnmongipaheaaGreatDoor
open Go.RowKit
set_option linter.unusedVariables false
set_option linter.unusedSimpArgs false

theorem order_nan {x : Nat} (h : ¬ Same1 x) (y : Nat) : FloatKind.f64.format.order x y = none := by
  have h1 : FloatKind.f64.format.order x x ≠ some Ordering.eq := fun e => h (by unfold Same1; rw [e]; rfl)
  show (Ieee.double.read x).order (Ieee.double.read y) = none
  have h2 : (Ieee.double.read x).order (Ieee.double.read x) ≠ some Ordering.eq := h1
  cases hr : Ieee.double.read x with
  | number s m p => rw [hr] at h2; exact absurd (by simp [Ieee.Datum.order]) h2
  | infinity s => rw [hr] at h2; exact absurd (by simp [Ieee.Datum.order]) h2
  | _ => simp [Ieee.Datum.order]

theorem sized_same {x c : Nat} (h : (FloatKind.f64.format.order (sizeF x) c == some Ordering.lt) = true ∨ (FloatKind.f64.format.order (sizeF x) c == some Ordering.eq) = true) : Same1 x := by
  by_cases hs : Same1 x
  · exact hs
  · have h0 := order_nan hs 0
    have e : sizeF x = x := by unfold sizeF; rw [h0]; rfl
    rw [e, order_nan hs c] at h
    rcases h with h | h <;> cases h

theorem three (x : Nat) : ((FloatKind.f64.format.order (sizeF x) 9214871658872686752 == some Ordering.lt) = true ∧ Same1 x) ∨ ((FloatKind.f64.format.order (sizeF x) 9214871658872686752 == some Ordering.lt) = false ∧ (FloatKind.f64.format.order (sizeF x) 9214871658872686752 == some Ordering.eq) = true ∧ Same1 x) ∨ ((FloatKind.f64.format.order (sizeF x) 9214871658872686752 == some Ordering.lt) = false ∧ (FloatKind.f64.format.order (sizeF x) 9214871658872686752 == some Ordering.eq) = false) := by
  cases h1 : (FloatKind.f64.format.order (sizeF x) 9214871658872686752 == some Ordering.lt) with
  | true => exact .inl ⟨rfl, sized_same (.inl h1)⟩
  | false =>
    cases h2 : (FloatKind.f64.format.order (sizeF x) 9214871658872686752 == some Ordering.eq) with
    | true => exact .inr (.inl ⟨rfl, rfl, sized_same (.inr h2)⟩)
    | false => exact .inr (.inr ⟨rfl, rfl⟩)

theorem kinds4 (k : Int) : k = 4 ∨ k = 3 ∨ k = 5 ∨ (k ≠ 3 ∧ k ≠ 4 ∧ k ≠ 5) := by omega

theorem few_any (B : Nat) (t : V) (v d : Value) (w : World) (n x0 x1 : Nat) (hrep : Rep w v t) (hd : Dfs w d n x0 x1) (hT : Tab B w) (hB : B ≤ w.heap.size) (hE : ErrTab w) : Calls Tryz.prog 3 #[v, d] w (BoolPost true w) := by
  cases hd with
  | nought ad c hc =>
    rcases kinds4 t.k with hk | hk | hk | ⟨k3, k4, k5⟩
    · exact told_0_flo_ B t v w ad c hrep hc hT hB hE hk
    · exact told_0_int_ B t v w ad c hrep hc hT hB hE hk
    · exact told_0_str_ B t v w ad c hrep hc hT hB hE hk
    · exact told_0_oth_ B t v w ad c hrep hc hT hB hE k3 k4 k5
  | one g o c x0 hc h1 hx =>
    rcases three x0 with ⟨l, s⟩ | ⟨l, e, s⟩ | ⟨l, e⟩
    · rcases kinds4 t.k with hk | hk | hk | ⟨k3, k4, k5⟩
      · exact told_1_flo_a B t v w g o c x0 hrep hc h1 hx hT hB hE l s hk
      · exact told_1_int_a B t v w g o c x0 hrep hc h1 hx hT hB hE l s hk
      · exact told_1_str_a B t v w g o c x0 hrep hc h1 hx hT hB hE l s hk
      · exact told_1_oth_a B t v w g o c x0 hrep hc h1 hx hT hB hE l s k3 k4 k5
    · rcases kinds4 t.k with hk | hk | hk | ⟨k3, k4, k5⟩
      · exact told_1_flo_b B t v w g o c x0 hrep hc h1 hx hT hB hE l e s hk
      · exact told_1_int_b B t v w g o c x0 hrep hc h1 hx hT hB hE l e s hk
      · exact told_1_str_b B t v w g o c x0 hrep hc h1 hx hT hB hE l e s hk
      · exact told_1_oth_b B t v w g o c x0 hrep hc h1 hx hT hB hE l e s k3 k4 k5
    · exact told_1_bad_c B t v w g o c x0 hrep hc h1 hx hT hB hE l e
  | two g o c x0 x1 hc h1 hx hy =>
    rcases three x0 with ⟨l, s⟩ | ⟨l, e, s⟩ | ⟨l, e⟩
    · rcases three x1 with ⟨l', s'⟩ | ⟨l', e', s'⟩ | ⟨l', e'⟩
      · rcases kinds4 t.k with hk | hk | hk | ⟨k3, k4, k5⟩
        · exact told_2_flo_aa B t v w g o c x0 x1 hrep hc h1 hx hy hT hB hE l l' s s' hk
        · exact told_2_int_aa B t v w g o c x0 x1 hrep hc h1 hx hy hT hB hE l l' s s' hk
        · exact told_2_str_aa B t v w g o c x0 x1 hrep hc h1 hx hy hT hB hE l l' s s' hk
        · exact told_2_oth_aa B t v w g o c x0 x1 hrep hc h1 hx hy hT hB hE l l' s s' k3 k4 k5
      · rcases kinds4 t.k with hk | hk | hk | ⟨k3, k4, k5⟩
        · exact told_2_flo_ab B t v w g o c x0 x1 hrep hc h1 hx hy hT hB hE l l' e' s s' hk
        · exact told_2_int_ab B t v w g o c x0 x1 hrep hc h1 hx hy hT hB hE l l' e' s s' hk
        · exact told_2_str_ab B t v w g o c x0 x1 hrep hc h1 hx hy hT hB hE l l' e' s s' hk
        · exact told_2_oth_ab B t v w g o c x0 x1 hrep hc h1 hx hy hT hB hE l l' e' s s' k3 k4 k5
      · exact told_2_bad_ac B t v w g o c x0 x1 hrep hc h1 hx hy hT hB hE l l' e'
    · rcases three x1 with ⟨l', s'⟩ | ⟨l', e', s'⟩ | ⟨l', e'⟩
      · rcases kinds4 t.k with hk | hk | hk | ⟨k3, k4, k5⟩
        · exact told_2_flo_ba B t v w g o c x0 x1 hrep hc h1 hx hy hT hB hE l e l' s s' hk
        · exact told_2_int_ba B t v w g o c x0 x1 hrep hc h1 hx hy hT hB hE l e l' s s' hk
        · exact told_2_str_ba B t v w g o c x0 x1 hrep hc h1 hx hy hT hB hE l e l' s s' hk
        · exact told_2_oth_ba B t v w g o c x0 x1 hrep hc h1 hx hy hT hB hE l e l' s s' k3 k4 k5
      · rcases kinds4 t.k with hk | hk | hk | ⟨k3, k4, k5⟩
        · exact told_2_flo_bb B t v w g o c x0 x1 hrep hc h1 hx hy hT hB hE l e l' e' s s' hk
        · exact told_2_int_bb B t v w g o c x0 x1 hrep hc h1 hx hy hT hB hE l e l' e' s s' hk
        · exact told_2_str_bb B t v w g o c x0 x1 hrep hc h1 hx hy hT hB hE l e l' e' s s' hk
        · exact told_2_oth_bb B t v w g o c x0 x1 hrep hc h1 hx hy hT hB hE l e l' e' s s' k3 k4 k5
      · exact told_2_bad_bc B t v w g o c x0 x1 hrep hc h1 hx hy hT hB hE l e l' e'
    · exact told_2_bad_c B t v w g o c x0 x1 hrep hc h1 hx hy hT hB hE l e

set_option maxRecDepth 100000 in
set_option maxHeartbeats 1000000 in
/-- More than two defaults: true at once. -/
theorem many_any (t : V) (v : Value) (w : World) (ad : Option Addr) (n c : Nat) (hn : 2 < n) (hnc : n ≤ c) (hc : c ≤ 9223372036854775807) (hrep : Rep w v t) : Calls Tryz.prog 3 #[v, .slice ad n c] w (BoolPost true w) := by
  obtain ⟨la, ka, lc, kc, cs, ho⟩ := hrep.open_
  obtain rfl := ho.eq
  obtain ⟨X, hX⟩ : ∃ X, X = #[Value.int .i64 t.k, .int .i64 t.n, .float .f64 t.f, .string t.s, .slice la t.l.length lc, .slice ka t.keys.length kc] := ⟨_, rfl⟩
  have hXs : Hid (X.size = 6) := hid (by rw [hX]; rfl)
  rw [← hX] at hrep ⊢
  have HR := hid hrep
  clear hrep ho hX
  have g2 : decide ((2 : Int) < (n : Int)) = true := by simp; omega
  have R0 : Hid (Rep (w.alloc (.cells X 26)) (.agg X) t) := hid (HR.out.kept ((Below.refl _ w).alloc (Nat.le_refl _) _))
  have G0 : Hid ((w.alloc (.cells X 26)).heap[w.heap.size]? = some (.cells X 26)) := hid (heap_alloc_new w _)
  have B0 : Hid (Below (w.heap.size + 1) (w.alloc (.cells X 26)) (w.alloc (.cells X 26))) := hid (Below.refl _ _)
  obtain ⟨big, hbig⟩ : ∃ b, decide ((2147483647 : Int) < (n : Int)) = b := ⟨_, rfl⟩
  cases big
  all_goals
    go_enter Tryz.func3, Tryz.ntmps3
    go_wp2_with (first
      | (refine wpList_loadBox rfl (.tmp 2) rfl w.heap.size rfl X hXs.out (by first | exact G0.out | exact box_block B1.out | exact box_block B2.out) ?_)
      | (go_at_call 4; refine (fits1_any t _ _ R0.out).mono ?_; rintro e w1 ⟨b, rfl, hb⟩; have B1 := hid (box_trans B0.out hb); have R1 := hid (R0.out.kept hb); clear hb; cases b)
      | (go_at_call 5; refine (given_any t _ _ R1.out).mono ?_; rintro e w2 ⟨b2, rfl, hb0, hb⟩; have B2 := hid (box_trans B1.out hb); have R2 := hid (R1.out.kept hb); have H2 := hid hb0; clear hb0 hb; cases b2))
    all_goals (go_ret; first | exact ⟨rfl, box_below B2.out⟩ | exact ⟨rfl, box_below B1.out⟩)
end Go.Proofs.YtonnmongipaheaaGreatDoor
