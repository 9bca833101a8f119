/- impl.Fits; laws.fitsOne; laws.FnFitsDiff: the walk. -/
import Derived.Test.YtclnpjelgdoloaaMat2
import Derived.Test.YtclnpjelgdoloaaTurned
namespace Go.Proofs.Ytclnpjelgdoloaa
open Go.RowKit Go.Maps
set_option linter.unusedVariables false

def FitsPost (a b : V) (w : World) (e : Ending) (w' : World) : Prop := ∃ r : Bool, e = .returned (.tuple #[.bool r, .bool false]) ∧ (r = true ↔ Mf 150 a b) ∧ Below w.heap.size w w'

set_option maxRecDepth 100000 in
set_option maxHeartbeats 4000000 in
theorem fits_any (a b : V) (va vb : Value) (w : World) (ra : Rep w va a) (rb : Rep w vb b) (fa : Fine a) (fb : Fine b) : Calls Try.prog 13 #[va, vb] w (FitsPost a b w) := by
  obtain ⟨x0, x1, x2, x3, x4, x5, rfl⟩ := ra.six
  obtain ⟨y0, y1, y2, y3, y4, y5, rfl⟩ := rb.six
  have T0 := hid (Two.new w #[x0, x1, x2, x3, x4, x5] #[y0, y1, y2, y3, y4, y5])
  have bb : Below w.heap.size w ((w.alloc (.cells #[x0, x1, x2, x3, x4, x5] 26)).alloc (.cells #[y0, y1, y2, y3, y4, y5] 26)) := ((Below.refl _ _).alloc (Nat.le_refl _) _).alloc (by simp) _
  have B0 := hid bb
  have RA := hid ra
  have RB := hid rb
  have FA := hid fa
  have FB := hid fb
  clear ra rb fa fb bb
  go_enter Try.func13, Try.ntmps13
  go_wp2_with (first
    | (refine wpList_loadBox rfl (.tmp 2) rfl w.heap.size rfl #[x0, x1, x2, x3, x4, x5] rfl (by first | exact T0.out.1 | exact T1.out.1 | exact T2.out.1 | exact T3.out.1) ?_)
    | (refine wpList_loadBox rfl (.tmp 3) rfl (w.heap.size + 1) rfl #[y0, y1, y2, y3, y4, y5] rfl (by first | exact T0.out.2 | exact T1.out.2 | exact T2.out.2 | exact T3.out.2) ?_)
    | (go_at_call_of 21 (Value.agg #[x0, x1, x2, x3, x4, x5]); refine (right_any _ a _ _ (Nat.le_refl _) (RA.out.kept B0.out) FA.out).mono ?_; rintro e w1 ⟨rfl, hb⟩; have T1 := hid (T0.out.below hb); have B1 := hid (B0.out.trans (hb.mono B0.out.size)); clear hb)
    | (go_at_call_of 21 (Value.agg #[y0, y1, y2, y3, y4, y5]); refine (right_any _ b _ _ (Nat.le_refl _) (RB.out.kept B1.out) FB.out).mono ?_; rintro e w2 ⟨rfl, hb⟩; have T2 := hid (T1.out.below hb); have B2 := hid (B1.out.trans (hb.mono B1.out.size)); clear hb)
    | (go_at_call_of 22 (Value.agg #[x0, x1, x2, x3, x4, x5]); refine (big_any _ a _ _ (Nat.le_refl _) (RA.out.kept B2.out) FA.out).mono ?_; rintro e w3 ⟨rfl, hb⟩; have T3 := hid (T2.out.below hb); have B3 := hid (B2.out.trans (hb.mono B2.out.size)); clear hb)
    | (go_at_call_of 22 (Value.agg #[y0, y1, y2, y3, y4, y5]); refine (big_any _ b _ _ (Nat.le_refl _) (RB.out.kept B3.out) FB.out).mono ?_; rintro e w4 ⟨rfl, hb⟩; have T4 := hid (T3.out.below hb); have B4 := hid (B3.out.trans (hb.mono B3.out.size)); clear hb))
  have RAd : Hid (Rep w4.drew (.agg #[x0, x1, x2, x3, x4, x5]) a) := hid ((RA.out.kept B4.out).kept (Below.refl _ _).drew)
  have RBd : Hid (Rep w4.drew (.agg #[y0, y1, y2, y3, y4, y5]) b) := hid ((RB.out.kept B4.out).kept (Below.refl _ _).drew)
  have BD : Hid (Below w.heap.size w w4.drew) := hid B4.out.drew
  have S0 : Hid (Two w.heap.size #[x0, x1, x2, x3, x4, x5] #[y0, y1, y2, y3, y4, y5] w4.drew) := hid T4.out
  go_region_held3 (fun w' => w'.cell? ⟨w.heap.size, 0, none⟩ = some x0 ∧ w'.cell? ⟨w.heap.size, 1, none⟩ = some x1 ∧ w'.cell? ⟨w.heap.size, 2, none⟩ = some x2 ∧ w'.cell? ⟨w.heap.size, 3, none⟩ = some x3 ∧ w'.cell? ⟨w.heap.size, 4, none⟩ = some x4 ∧ w'.cell? ⟨w.heap.size, 5, none⟩ = some x5 ∧
      w'.cell? ⟨w.heap.size + 1, 0, none⟩ = some y0 ∧ w'.cell? ⟨w.heap.size + 1, 1, none⟩ = some y1 ∧ w'.cell? ⟨w.heap.size + 1, 2, none⟩ = some y2 ∧ w'.cell? ⟨w.heap.size + 1, 3, none⟩ = some y3 ∧ w'.cell? ⟨w.heap.size + 1, 4, none⟩ = some y4 ∧ w'.cell? ⟨w.heap.size + 1, 5, none⟩ = some y5)
    (first | exact S0.out.cells | exact SA.out.cells | exact SB.out.cells | exact SC.out.cells)
    (first
      | (go_at_call_of 25 (Value.agg #[x0, x1, x2, x3, x4, x5]); refine (plain_any _ a _ _ (Nat.le_refl _) (by first | exact RAd.out | exact RAd.out.kept BB.out) FA.out).mono ?_; rintro e wa ⟨xa, rfl, hx, hb⟩; have XA := hid hx; have BA := hid hb; clear hx hb; have SA := hid ((by first | exact S0.out | exact SB.out : Two w.heap.size #[x0, x1, x2, x3, x4, x5] #[y0, y1, y2, y3, y4, y5] _).below BA.out))
      | (go_at_call_of 25 (Value.agg #[y0, y1, y2, y3, y4, y5]); refine (plain_any _ b _ _ (Nat.le_refl _) (by first | exact RBd.out | exact RBd.out.kept BA.out) FB.out).mono ?_; rintro e wb ⟨xb, rfl, hx, hb⟩; have XB := hid hx; have BB := hid hb; clear hx hb; have SB := hid ((by first | exact S0.out | exact SA.out : Two w.heap.size #[x0, x1, x2, x3, x4, x5] #[y0, y1, y2, y3, y4, y5] _).below BB.out))
      | (go_at_call 32; (first
        | (refine (match_any 150 a b xa xb wb (Nat.le_refl _) FA.out.wt FB.out.wt FA.out.wh FB.out.wh (XA.out.kept (Above.of_below BB.out)) XB.out).mono ?_; have BW : Hid (Below w.heap.size w wb) := hid ((BD.out.trans (BA.out.mono BD.out.size)).trans (BB.out.mono (Nat.le_trans BD.out.size BA.out.size))); have SW := SB)
        | (refine (match_any 150 a b xa xb wa (Nat.le_refl _) FA.out.wt FB.out.wt FA.out.wh FB.out.wh XA.out (XB.out.kept (Above.of_below BA.out))).mono ?_; have BW : Hid (Below w.heap.size w wa) := hid ((BD.out.trans (BB.out.mono BD.out.size)).trans (BA.out.mono (Nat.le_trans BD.out.size BB.out.size))); have SW := SA)); rintro e w5 ⟨r, rfl, hr, h3⟩; have HR := hid hr; have B5 : Hid (Below w.heap.size w w5) := hid (BW.out.trans (h3.mono BW.out.size)); have SC := hid (SW.out.below h3); clear hr h3))
  all_goals go_wp2_with (fail)
  all_goals go_ret2
  all_goals exact ⟨r, rfl, HR.out, B5.out⟩

theorem fine_int (n : Int) : Fine (intV n) := by
  refine ⟨?_, ?_, ?_, ?_, ?_⟩
  · simp [intV, V.wt, V.wtl, ksum]
  · simp [intV, V.cl]
  · simp [intV, V.wh]
  · simp [intV, V.has]
  · simp [intV, V.has]

theorem mf_int (n : Int) : Mf 150 (intV n) (intV n) := by
  rw [Mf_flat _ (by simp [intV, V.k]) (by simp [intV, V.k])]
  exact Ds_self _

set_option maxRecDepth 100000 in
theorem fitsOne_any (w : World) : Calls Try.prog 14 #[] w (BoolPost true w) := by
  go_enter Try.func14, Try.ntmps14
  go_wp2_with (fail)
  refine (integer_any 1 (by unfold isI64; omega) _).mono ?_
  rintro e w1 ⟨v1, rfl, hr, hb⟩
  have R1 := hid hr
  have B1 := hid hb
  clear hr hb
  go_wp2_with (fail)
  refine (integer_any 1 (by unfold isI64; omega) _).mono ?_
  rintro e w2 ⟨v2, rfl, hr, hb⟩
  have R2 := hid hr
  have B2 := hid hb
  clear hr hb
  go_wp2_with (fail)
  refine (fits_any (intV 1) (intV 1) v1 v2 w2 (R1.out.kept B2.out) R2.out (fine_int 1) (fine_int 1)).mono ?_
  rintro e w3 ⟨r, rfl, hr, hb⟩
  obtain rfl := hr.2 (mf_int 1)
  have B3 := hid hb
  clear hr hb
  go_wp2_with (fail)
  go_ret
  exact ⟨rfl, (B1.out.trans (B2.out.mono B1.out.size)).trans (B3.out.mono (Nat.le_trans B1.out.size B2.out.size))⟩

set_option maxRecDepth 100000 in
set_option maxHeartbeats 4000000 in
theorem fitsDiff_any (a b : V) (va vb : Value) (w : World) (ra : Rep w va a) (rb : Rep w vb b) : Calls Try.prog 4 #[va, vb] w (BoolPost true w) := by
  obtain ⟨x0, x1, x2, x3, x4, x5, rfl⟩ := ra.six
  obtain ⟨y0, y1, y2, y3, y4, y5, rfl⟩ := rb.six
  have T0 := hid (Two.new w #[x0, x1, x2, x3, x4, x5] #[y0, y1, y2, y3, y4, y5])
  have bb : Below w.heap.size w ((w.alloc (.cells #[x0, x1, x2, x3, x4, x5] 26)).alloc (.cells #[y0, y1, y2, y3, y4, y5] 26)) := ((Below.refl _ _).alloc (Nat.le_refl _) _).alloc (by simp) _
  have B0 := hid bb
  have RA := hid ra
  have RB := hid rb
  clear ra rb bb
  go_enter Try.func4, Try.ntmps4
  go_wp2_with (first
    | (refine wpList_loadBox rfl (.tmp 2) rfl w.heap.size rfl #[x0, x1, x2, x3, x4, x5] rfl (by first | exact T0.out.1 | exact T2.out.1 | exact T4.out.1) ?_)
    | (refine wpList_loadBox rfl (.tmp 3) rfl (w.heap.size + 1) rfl #[y0, y1, y2, y3, y4, y5] rfl (by first | exact T1.out.2 | exact T3.out.2 | exact T4.out.2) ?_)
    | (go_at_call_of 5 (Value.agg #[x0, x1, x2, x3, x4, x5]); refine (fits1_any a _ _ (RA.out.kept B0.out)).mono ?_; rintro e w1 ⟨r1, rfl, hb⟩; have T1 := hid (T0.out.below hb); have B1 := hid (B0.out.trans (hb.mono B0.out.size)); clear hb; cases r1)
    | (go_at_call_of 5 (Value.agg #[y0, y1, y2, y3, y4, y5]); refine (fits1_any b _ _ (RB.out.kept B1.out)).mono ?_; rintro e w2 ⟨r2, rfl, hb⟩; have T2 := hid (T1.out.below hb); have B2 := hid (B1.out.trans (hb.mono B1.out.size)); clear hb; cases r2)
    | (go_at_call_of 6 (Value.agg #[x0, x1, x2, x3, x4, x5]); refine (plainData_any a _ _ (RA.out.kept B2.out)).mono ?_; rintro e w3 ⟨r3, rfl, hf, hb⟩; have FA := hid hf; have T3 := hid (T2.out.below hb); have B3 := hid (B2.out.trans (hb.mono B2.out.size)); clear hf hb; cases r3)
    | (go_at_call_of 6 (Value.agg #[y0, y1, y2, y3, y4, y5]); refine (plainData_any b _ _ (RB.out.kept B3.out)).mono ?_; rintro e w4 ⟨r4, rfl, hf, hb⟩; have FB := hid hf; have T4 := hid (T3.out.below hb); have B4 := hid (B3.out.trans (hb.mono B3.out.size)); clear hf hb; cases r4)
    | (go_at_call 7; refine (differs_any _).mono ?_; rintro e wd ⟨rfl, hb⟩; have BD := hid hb; clear hb))
  · go_ret
    first | exact ⟨rfl, B1.out⟩ | exact ⟨rfl, B2.out⟩ | exact ⟨rfl, B4.out.trans (BD.out.mono B4.out.size)⟩ | exact ⟨rfl, B3.out.trans (BD.out.mono B3.out.size)⟩
  · go_ret
    first | exact ⟨rfl, B1.out⟩ | exact ⟨rfl, B2.out⟩ | exact ⟨rfl, B4.out.trans (BD.out.mono B4.out.size)⟩ | exact ⟨rfl, B3.out.trans (BD.out.mono B3.out.size)⟩
  · go_ret
    first | exact ⟨rfl, B1.out⟩ | exact ⟨rfl, B2.out⟩ | exact ⟨rfl, B4.out.trans (BD.out.mono B4.out.size)⟩ | exact ⟨rfl, B3.out.trans (BD.out.mono B3.out.size)⟩
  · go_ret
    first | exact ⟨rfl, B1.out⟩ | exact ⟨rfl, B2.out⟩ | exact ⟨rfl, B4.out.trans (BD.out.mono B4.out.size)⟩ | exact ⟨rfl, B3.out.trans (BD.out.mono B3.out.size)⟩
  refine (fits_any a b _ _ w4 (RA.out.kept B4.out) (RB.out.kept B4.out) (FA.out rfl) (FB.out rfl)).mono ?_
  rintro e w5 ⟨rx, rfl, hr, hb⟩
  have HX := hid hr
  have T5 := hid (T4.out.below hb)
  have B5 := hid (B4.out.trans (hb.mono B4.out.size))
  clear hr hb
  go_wp2_with (first
    | (refine wpList_loadBox rfl (.tmp 2) rfl w.heap.size rfl #[x0, x1, x2, x3, x4, x5] rfl T5.out.1 ?_)
    | (refine wpList_loadBox rfl (.tmp 3) rfl (w.heap.size + 1) rfl #[y0, y1, y2, y3, y4, y5] rfl T5.out.2 ?_))
  refine (fits_any b a _ _ w5 (RB.out.kept B5.out) (RA.out.kept B5.out) (FB.out rfl) (FA.out rfl)).mono ?_
  rintro e w6 ⟨ry, rfl, hr, hb⟩
  have HY := hid hr
  have T6 := hid (T5.out.below hb)
  have B6 := hid (B5.out.trans (hb.mono B5.out.size))
  clear hr hb
  go_wp2_with (first
    | (refine wpList_loadBox rfl (.tmp 2) rfl w.heap.size rfl #[x0, x1, x2, x3, x4, x5] rfl T6.out.1 ?_)
    | (refine wpList_loadBox rfl (.tmp 3) rfl (w.heap.size + 1) rfl #[y0, y1, y2, y3, y4, y5] rfl T6.out.2 ?_))
  refine (implDiff_any a b _ _ w6 (RA.out.kept B6.out) (RB.out.kept B6.out) (FA.out rfl) (FB.out rfl)).mono ?_
  intro e w7 hpost
  obtain ⟨ad, cap, us, ps, rfl, had, hp, hl, hg, hb⟩ := hpost.got
  have B7 := hid (B6.out.trans (hb.mono B6.out.size))
  have key : (rx = true ∧ ry = true) ↔ us.length = 0 := by
    rw [HX.out, HY.out, Mf_both 150 a b (FA.out rfl).wh (FB.out rfl).wh, hl, hp.length_eq, List.length_eq_zero_iff]
  have KEY := hid key
  clear hpost had hp hl hg hb key
  by_cases h0 : us.length = 0
  · obtain ⟨rfl, rfl⟩ := KEY.out.2 h0
    rw [h0]
    clear h0
    go_wp2_with (first
      | (go_at_call 7; refine (differs_any _).mono ?_; rintro e w8 ⟨rfl, hb⟩; have B8 := hid hb; clear hb)
      | (go_at_call 14; refine (fitsOne_any _).mono ?_; rintro e w9 ⟨rfl, hb⟩; have B9 := hid hb; clear hb))
    go_ret
    exact ⟨rfl, (B7.out.trans (B8.out.mono B7.out.size)).trans (B9.out.mono (Nat.le_trans B7.out.size B8.out.size))⟩
  · have t1 : ((us.length : Int) == 0) = false := by rw [beq_eq_false_iff_ne]; omega
    have hxy : (rx && ry) = false := by
      rcases e : (rx && ry) with _ | _
      · rfl
      · rw [Bool.and_eq_true] at e
        exact absurd (KEY.out.1 e) h0
    clear h0 KEY HX HY
    rcases rx with _ | _ <;> rcases ry with _ | _
    case true.true => simp at hxy
    all_goals
      clear hxy
      go_wp2_with (first
        | (go_at_call 7; refine (differs_any _).mono ?_; rintro e w8 ⟨rfl, hb⟩; have B8 := hid hb; clear hb)
        | (go_at_call 14; refine (fitsOne_any _).mono ?_; rintro e w9 ⟨rfl, hb⟩; have B9 := hid hb; clear hb))
      go_ret
      exact ⟨rfl, (B7.out.trans (B8.out.mono B7.out.size)).trans (B9.out.mono (Nat.le_trans B7.out.size B8.out.size))⟩
end Go.Proofs.Ytclnpjelgdoloaa
