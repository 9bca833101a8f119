/- laws.FnAsFloatTold: it returns true (printed by wip/told.py). -/
import Derived.Test.YtonnmongipaheaaGreatDoorAsF
import Derived.Test.YtonnmongipaheaaGreatDoorFloat
namespace Go.Proofs.YtonnmongipaheaaGreatDoor
open Go.RowKit
set_option linter.unusedVariables false
set_option linter.unusedSimpArgs false

def Same1 (x : Nat) : Prop := (FloatKind.f64.format.order x x == some Ordering.eq) = true

set_option maxRecDepth 100000 in
set_option maxHeartbeats 4000000 in
theorem told_0_flo_ (B : Nat) (t : V) (v : Value) (w : World) (ad : Option Addr) (c : Nat) (hrep : Rep w v t) (hc : c ≤ 9223372036854775807) (hT : Tab B w) (hB : B ≤ w.heap.size) (hE : ErrTab w) (hk : t.k = 4) : Calls Tryz.prog 3 #[v, .slice ad 0 c] w (BoolPost true w) := by
  have hd : Dfs w (.slice ad 0 c) 0 0 0 := .nought ad c hc
  obtain ⟨la, ka, lc, kc, cs, ho⟩ := hrep.open_
  obtain rfl := ho.eq
  obtain ⟨X, hX⟩ : ∃ X, X = #[Value.int .i64 t.k, .int .i64 t.n, .float .f64 t.f, .string t.s, .slice la t.l.length lc, .slice ka t.keys.length kc] := ⟨_, rfl⟩
  have hXs : Hid (X.size = 6) := hid (by rw [hX]; rfl)
  have C0 : Hid (X[0]? = some (.int .i64 t.k)) := hid (by rw [hX]; rfl)
  have C1 : Hid (X[1]? = some (.int .i64 t.n)) := hid (by rw [hX]; rfl)
  have C2 : Hid (X[2]? = some (.float .f64 t.f)) := hid (by rw [hX]; rfl)
  have C3 : Hid (X[3]? = some (.string t.s)) := hid (by rw [hX]; rfl)
  rw [← hX] at hrep ⊢
  have HR := hid hrep
  have HD := hid hd
  have HK := hid hk
  have HT := hid hT
  have HB := hid hB
  have HE := hid hE
  clear hrep ho hX hd hT hB hE hk
  have R0 : Hid (Rep (w.alloc (.cells X 26)) (.agg X) t) := hid (HR.out.kept ((Below.refl _ w).alloc (Nat.le_refl _) _))
  have G0 : Hid ((w.alloc (.cells X 26)).heap[w.heap.size]? = some (.cells X 26)) := hid (heap_alloc_new w _)
  have B0 : Hid (Below (w.heap.size + 1) (w.alloc (.cells X 26)) (w.alloc (.cells X 26))) := hid (Below.refl _ _)
  go_enter Tryz.func3, Tryz.ntmps3
  go_wp2_with (first
    | (refine wpList_loadBox rfl (.tmp 2) rfl w.heap.size rfl X hXs.out (by first | exact G0.out | exact box_block B1.out | exact box_block B2.out) ?_)
    | (go_at_call 4; refine (fits1_any t _ _ R0.out).mono ?_; rintro e w1 ⟨b, rfl, hb⟩; have B1 := hid (box_trans B0.out hb); have R1 := hid (R0.out.kept hb); clear hb; cases b)
    | (go_at_call 5; refine (given_any t _ _ R1.out).mono ?_; rintro e w2 ⟨b2, rfl, hb0, hb⟩; have B2 := hid (box_trans B1.out hb); have R2 := hid (R1.out.kept hb); have H2 := hid hb0; clear hb0 hb; cases b2))
  all_goals try (go_ret; first | exact ⟨rfl, box_below B2.out⟩ | exact ⟨rfl, box_below B1.out⟩)
  have H3 : Hid (Light t) := hid (H2.out rfl)
  refine wp_loop_rounds 1 ?_
  rw [rounds_succ]
  go_wp2_with (refine wpList_loadBox rfl (.tmp 2) rfl w.heap.size rfl X hXs.out (by exact box_block B2.out) ?_)
  refine (asFloat_any B t _ _ _ _ _ _ R2.out H3.out (HD.out.kept (box_below B2.out)) (HT.out.below ((box_below B2.out).mono HB.out)) (by have := (box_below B2.out).size; have := HB.out; omega) (HE.out.below (box_below B2.out))).mono ?_
  rintro e w4 ⟨f, rfl, ha, hb⟩
  have B4 := hid (box_trans B2.out hb)
  have HA := hid ha
  clear ha hb
  have cN : w4.cell? ⟨w.heap.size, 1, none⟩ = some (.int .i64 t.n) := box_cell B4.out 1 _ C1.out
  have cF : w4.cell? ⟨w.heap.size, 2, none⟩ = some (.float .f64 t.f) := box_cell B4.out 2 _ C2.out
  have cS : w4.cell? ⟨w.heap.size, 3, none⟩ = some (.string t.s) := box_cell B4.out 3 _ C3.out
  have cK : w4.cell? ⟨w.heap.size, 0, none⟩ = some (.int .i64 4) := (box_cell B4.out 0 _ C0.out).trans (by rw [HK.out])
  have hf : f = t.f := HA.out.1 HK.out
  subst hf
  have hq : (FloatKind.f64.format.order (t.f) (t.f) == some Ordering.eq) = true := by have := ((lite_fine _ t (Nat.le_refl _) H3.out).fin HK.out).1; unfold nanB at this; simpa using this
  go_wp2_with (go_at_call 11; refine (becomes_any _).mono ?_; rintro e w5 ⟨rfl, hb⟩; have B5 := hid (box_trans B4.out hb); clear hb)
  go_ret
  exact ⟨rfl, box_below B5.out⟩

set_option maxRecDepth 100000 in
set_option maxHeartbeats 4000000 in
theorem told_0_int_ (B : Nat) (t : V) (v : Value) (w : World) (ad : Option Addr) (c : Nat) (hrep : Rep w v t) (hc : c ≤ 9223372036854775807) (hT : Tab B w) (hB : B ≤ w.heap.size) (hE : ErrTab w) (hk : t.k = 3) : Calls Tryz.prog 3 #[v, .slice ad 0 c] w (BoolPost true w) := by
  have hd : Dfs w (.slice ad 0 c) 0 0 0 := .nought ad c hc
  obtain ⟨la, ka, lc, kc, cs, ho⟩ := hrep.open_
  obtain rfl := ho.eq
  obtain ⟨X, hX⟩ : ∃ X, X = #[Value.int .i64 t.k, .int .i64 t.n, .float .f64 t.f, .string t.s, .slice la t.l.length lc, .slice ka t.keys.length kc] := ⟨_, rfl⟩
  have hXs : Hid (X.size = 6) := hid (by rw [hX]; rfl)
  have C0 : Hid (X[0]? = some (.int .i64 t.k)) := hid (by rw [hX]; rfl)
  have C1 : Hid (X[1]? = some (.int .i64 t.n)) := hid (by rw [hX]; rfl)
  have C2 : Hid (X[2]? = some (.float .f64 t.f)) := hid (by rw [hX]; rfl)
  have C3 : Hid (X[3]? = some (.string t.s)) := hid (by rw [hX]; rfl)
  rw [← hX] at hrep ⊢
  have HR := hid hrep
  have HD := hid hd
  have HK := hid hk
  have HT := hid hT
  have HB := hid hB
  have HE := hid hE
  clear hrep ho hX hd hT hB hE hk
  have R0 : Hid (Rep (w.alloc (.cells X 26)) (.agg X) t) := hid (HR.out.kept ((Below.refl _ w).alloc (Nat.le_refl _) _))
  have G0 : Hid ((w.alloc (.cells X 26)).heap[w.heap.size]? = some (.cells X 26)) := hid (heap_alloc_new w _)
  have B0 : Hid (Below (w.heap.size + 1) (w.alloc (.cells X 26)) (w.alloc (.cells X 26))) := hid (Below.refl _ _)
  go_enter Tryz.func3, Tryz.ntmps3
  go_wp2_with (first
    | (refine wpList_loadBox rfl (.tmp 2) rfl w.heap.size rfl X hXs.out (by first | exact G0.out | exact box_block B1.out | exact box_block B2.out) ?_)
    | (go_at_call 4; refine (fits1_any t _ _ R0.out).mono ?_; rintro e w1 ⟨b, rfl, hb⟩; have B1 := hid (box_trans B0.out hb); have R1 := hid (R0.out.kept hb); clear hb; cases b)
    | (go_at_call 5; refine (given_any t _ _ R1.out).mono ?_; rintro e w2 ⟨b2, rfl, hb0, hb⟩; have B2 := hid (box_trans B1.out hb); have R2 := hid (R1.out.kept hb); have H2 := hid hb0; clear hb0 hb; cases b2))
  all_goals try (go_ret; first | exact ⟨rfl, box_below B2.out⟩ | exact ⟨rfl, box_below B1.out⟩)
  have H3 : Hid (Light t) := hid (H2.out rfl)
  refine wp_loop_rounds 1 ?_
  rw [rounds_succ]
  go_wp2_with (refine wpList_loadBox rfl (.tmp 2) rfl w.heap.size rfl X hXs.out (by exact box_block B2.out) ?_)
  refine (asFloat_any B t _ _ _ _ _ _ R2.out H3.out (HD.out.kept (box_below B2.out)) (HT.out.below ((box_below B2.out).mono HB.out)) (by have := (box_below B2.out).size; have := HB.out; omega) (HE.out.below (box_below B2.out))).mono ?_
  rintro e w4 ⟨f, rfl, ha, hb⟩
  have B4 := hid (box_trans B2.out hb)
  have HA := hid ha
  clear ha hb
  have cN : w4.cell? ⟨w.heap.size, 1, none⟩ = some (.int .i64 t.n) := box_cell B4.out 1 _ C1.out
  have cF : w4.cell? ⟨w.heap.size, 2, none⟩ = some (.float .f64 t.f) := box_cell B4.out 2 _ C2.out
  have cS : w4.cell? ⟨w.heap.size, 3, none⟩ = some (.string t.s) := box_cell B4.out 3 _ C3.out
  have cK : w4.cell? ⟨w.heap.size, 0, none⟩ = some (.int .i64 3) := (box_cell B4.out 0 _ C0.out).trans (by rw [HK.out])
  have hf : f = floatOfInt .f64 t.n := HA.out.2.2.1 HK.out (by omega)
  subst hf
  have hq : (FloatKind.f64.format.order (floatOfInt .f64 t.n) (floatOfInt .f64 t.n) == some Ordering.eq) = true := by rw [good_eq (ofInt_good t.n)]; rfl
  go_wp2_with (go_at_call 11; refine (becomes_any _).mono ?_; rintro e w5 ⟨rfl, hb⟩; have B5 := hid (box_trans B4.out hb); clear hb)
  go_ret
  exact ⟨rfl, box_below B5.out⟩

set_option maxRecDepth 100000 in
set_option maxHeartbeats 4000000 in
theorem told_0_str_ (B : Nat) (t : V) (v : Value) (w : World) (ad : Option Addr) (c : Nat) (hrep : Rep w v t) (hc : c ≤ 9223372036854775807) (hT : Tab B w) (hB : B ≤ w.heap.size) (hE : ErrTab w) (hk : t.k = 5) : Calls Tryz.prog 3 #[v, .slice ad 0 c] w (BoolPost true w) := by
  have hd : Dfs w (.slice ad 0 c) 0 0 0 := .nought ad c hc
  obtain ⟨la, ka, lc, kc, cs, ho⟩ := hrep.open_
  obtain rfl := ho.eq
  obtain ⟨X, hX⟩ : ∃ X, X = #[Value.int .i64 t.k, .int .i64 t.n, .float .f64 t.f, .string t.s, .slice la t.l.length lc, .slice ka t.keys.length kc] := ⟨_, rfl⟩
  have hXs : Hid (X.size = 6) := hid (by rw [hX]; rfl)
  have C0 : Hid (X[0]? = some (.int .i64 t.k)) := hid (by rw [hX]; rfl)
  have C1 : Hid (X[1]? = some (.int .i64 t.n)) := hid (by rw [hX]; rfl)
  have C2 : Hid (X[2]? = some (.float .f64 t.f)) := hid (by rw [hX]; rfl)
  have C3 : Hid (X[3]? = some (.string t.s)) := hid (by rw [hX]; rfl)
  rw [← hX] at hrep ⊢
  have HR := hid hrep
  have HD := hid hd
  have HK := hid hk
  have HT := hid hT
  have HB := hid hB
  have HE := hid hE
  clear hrep ho hX hd hT hB hE hk
  have R0 : Hid (Rep (w.alloc (.cells X 26)) (.agg X) t) := hid (HR.out.kept ((Below.refl _ w).alloc (Nat.le_refl _) _))
  have G0 : Hid ((w.alloc (.cells X 26)).heap[w.heap.size]? = some (.cells X 26)) := hid (heap_alloc_new w _)
  have B0 : Hid (Below (w.heap.size + 1) (w.alloc (.cells X 26)) (w.alloc (.cells X 26))) := hid (Below.refl _ _)
  go_enter Tryz.func3, Tryz.ntmps3
  go_wp2_with (first
    | (refine wpList_loadBox rfl (.tmp 2) rfl w.heap.size rfl X hXs.out (by first | exact G0.out | exact box_block B1.out | exact box_block B2.out) ?_)
    | (go_at_call 4; refine (fits1_any t _ _ R0.out).mono ?_; rintro e w1 ⟨b, rfl, hb⟩; have B1 := hid (box_trans B0.out hb); have R1 := hid (R0.out.kept hb); clear hb; cases b)
    | (go_at_call 5; refine (given_any t _ _ R1.out).mono ?_; rintro e w2 ⟨b2, rfl, hb0, hb⟩; have B2 := hid (box_trans B1.out hb); have R2 := hid (R1.out.kept hb); have H2 := hid hb0; clear hb0 hb; cases b2))
  all_goals try (go_ret; first | exact ⟨rfl, box_below B2.out⟩ | exact ⟨rfl, box_below B1.out⟩)
  have H3 : Hid (Light t) := hid (H2.out rfl)
  refine wp_loop_rounds 1 ?_
  rw [rounds_succ]
  go_wp2_with (refine wpList_loadBox rfl (.tmp 2) rfl w.heap.size rfl X hXs.out (by exact box_block B2.out) ?_)
  refine (asFloat_any B t _ _ _ _ _ _ R2.out H3.out (HD.out.kept (box_below B2.out)) (HT.out.below ((box_below B2.out).mono HB.out)) (by have := (box_below B2.out).size; have := HB.out; omega) (HE.out.below (box_below B2.out))).mono ?_
  rintro e w4 ⟨f, rfl, ha, hb⟩
  have B4 := hid (box_trans B2.out hb)
  have HA := hid ha
  clear ha hb
  have cN : w4.cell? ⟨w.heap.size, 1, none⟩ = some (.int .i64 t.n) := box_cell B4.out 1 _ C1.out
  have cF : w4.cell? ⟨w.heap.size, 2, none⟩ = some (.float .f64 t.f) := box_cell B4.out 2 _ C2.out
  have cS : w4.cell? ⟨w.heap.size, 3, none⟩ = some (.string t.s) := box_cell B4.out 3 _ C3.out
  have cK : w4.cell? ⟨w.heap.size, 0, none⟩ = some (.int .i64 5) := (box_cell B4.out 0 _ C0.out).trans (by rw [HK.out])
  have HS : Hid (t.s.size ≤ 1000000) := hid (by have := H3.out.wt; rw [V.wt_eq t] at this; omega)
  go_wp2_with (fail)
  refine (numeral_any t.s _ HS.out).mono ?_
  rintro e w6 ⟨⟨b, rfl, hb⟩, rfl⟩
  have HNM := hid hb
  clear hb
  cases b
  · go_wp2_with (fail)
    refine (numberless_any t.s _ HS.out).mono ?_
    rintro e w6 ⟨⟨b, rfl, hb⟩, rfl⟩
    have HNL := hid hb
    clear hb
    cases b
    · go_wp2_with (fail)
      go_ret
      exact ⟨rfl, box_below B4.out⟩
    · have hf : f = 0 := (HA.out.2.2.2.1 HK.out (by omega)).2 (HNL.out rfl)
      subst hf
      have hq : (FloatKind.f64.format.order (0) (0) == some Ordering.eq) = true := by decide
      go_wp2_with (go_at_call 11; refine (becomes_any _).mono ?_; rintro e w5 ⟨rfl, hb⟩; have B5 := hid (box_trans B4.out hb); clear hb)
      go_ret
      exact ⟨rfl, box_below B5.out⟩
  · obtain ⟨ng, j, L, hns⟩ := HNM.out rfl
    have HNS := hid hns
    clear hns
    obtain ⟨M, hM⟩ : ∃ M, numI t.s ng j L = M := ⟨_, rfl⟩
    have hf : f = floatOfInt .f64 M := by rw [← hM]; exact (HA.out.2.2.2.1 HK.out (by omega)).1 ng j L HNS.out
    subst hf
    have hq : (FloatKind.f64.format.order (floatOfInt .f64 M) (floatOfInt .f64 M) == some Ordering.eq) = true := by rw [good_eq (ofInt_good M)]; rfl
    have HOF : Hid (Calls Tryz.prog 9 #[.string t.s] w4 (fun e w' => e = .returned (.int .i64 M) ∧ w4 = w')) := hid (hM ▸ numeralOf_any t.s ng j L w4 HNS.out)
    clear hM
    go_wp2_with (first
      | (go_at_call 9; refine HOF.out.mono ?_; rintro e w7 ⟨rfl, rfl⟩)
      | (go_at_call 11; refine (becomes_any _).mono ?_; rintro e w5 ⟨rfl, hb⟩; have B5 := hid (box_trans B4.out hb); clear hb))
    go_ret
    exact ⟨rfl, box_below B5.out⟩

set_option maxRecDepth 100000 in
set_option maxHeartbeats 4000000 in
theorem told_0_oth_ (B : Nat) (t : V) (v : Value) (w : World) (ad : Option Addr) (c : Nat) (hrep : Rep w v t) (hc : c ≤ 9223372036854775807) (hT : Tab B w) (hB : B ≤ w.heap.size) (hE : ErrTab w) (k3 : t.k ≠ 3) (k4 : t.k ≠ 4) (k5 : t.k ≠ 5) : Calls Tryz.prog 3 #[v, .slice ad 0 c] w (BoolPost true w) := by
  have hd : Dfs w (.slice ad 0 c) 0 0 0 := .nought ad c hc
  obtain ⟨la, ka, lc, kc, cs, ho⟩ := hrep.open_
  obtain rfl := ho.eq
  obtain ⟨X, hX⟩ : ∃ X, X = #[Value.int .i64 t.k, .int .i64 t.n, .float .f64 t.f, .string t.s, .slice la t.l.length lc, .slice ka t.keys.length kc] := ⟨_, rfl⟩
  have hXs : Hid (X.size = 6) := hid (by rw [hX]; rfl)
  have C0 : Hid (X[0]? = some (.int .i64 t.k)) := hid (by rw [hX]; rfl)
  have C1 : Hid (X[1]? = some (.int .i64 t.n)) := hid (by rw [hX]; rfl)
  have C2 : Hid (X[2]? = some (.float .f64 t.f)) := hid (by rw [hX]; rfl)
  have C3 : Hid (X[3]? = some (.string t.s)) := hid (by rw [hX]; rfl)
  rw [← hX] at hrep ⊢
  have HR := hid hrep
  have HD := hid hd
  have HK := hid (And.intro k3 (And.intro k4 k5))
  have HT := hid hT
  have HB := hid hB
  have HE := hid hE
  clear hrep ho hX hd hT hB hE k3 k4 k5
  have R0 : Hid (Rep (w.alloc (.cells X 26)) (.agg X) t) := hid (HR.out.kept ((Below.refl _ w).alloc (Nat.le_refl _) _))
  have G0 : Hid ((w.alloc (.cells X 26)).heap[w.heap.size]? = some (.cells X 26)) := hid (heap_alloc_new w _)
  have B0 : Hid (Below (w.heap.size + 1) (w.alloc (.cells X 26)) (w.alloc (.cells X 26))) := hid (Below.refl _ _)
  go_enter Tryz.func3, Tryz.ntmps3
  go_wp2_with (first
    | (refine wpList_loadBox rfl (.tmp 2) rfl w.heap.size rfl X hXs.out (by first | exact G0.out | exact box_block B1.out | exact box_block B2.out) ?_)
    | (go_at_call 4; refine (fits1_any t _ _ R0.out).mono ?_; rintro e w1 ⟨b, rfl, hb⟩; have B1 := hid (box_trans B0.out hb); have R1 := hid (R0.out.kept hb); clear hb; cases b)
    | (go_at_call 5; refine (given_any t _ _ R1.out).mono ?_; rintro e w2 ⟨b2, rfl, hb0, hb⟩; have B2 := hid (box_trans B1.out hb); have R2 := hid (R1.out.kept hb); have H2 := hid hb0; clear hb0 hb; cases b2))
  all_goals try (go_ret; first | exact ⟨rfl, box_below B2.out⟩ | exact ⟨rfl, box_below B1.out⟩)
  have H3 : Hid (Light t) := hid (H2.out rfl)
  refine wp_loop_rounds 1 ?_
  rw [rounds_succ]
  go_wp2_with (refine wpList_loadBox rfl (.tmp 2) rfl w.heap.size rfl X hXs.out (by exact box_block B2.out) ?_)
  refine (asFloat_any B t _ _ _ _ _ _ R2.out H3.out (HD.out.kept (box_below B2.out)) (HT.out.below ((box_below B2.out).mono HB.out)) (by have := (box_below B2.out).size; have := HB.out; omega) (HE.out.below (box_below B2.out))).mono ?_
  rintro e w4 ⟨f, rfl, ha, hb⟩
  have B4 := hid (box_trans B2.out hb)
  have HA := hid ha
  clear ha hb
  have cN : w4.cell? ⟨w.heap.size, 1, none⟩ = some (.int .i64 t.n) := box_cell B4.out 1 _ C1.out
  have cF : w4.cell? ⟨w.heap.size, 2, none⟩ = some (.float .f64 t.f) := box_cell B4.out 2 _ C2.out
  have cS : w4.cell? ⟨w.heap.size, 3, none⟩ = some (.string t.s) := box_cell B4.out 3 _ C3.out
  have cK : w4.cell? ⟨w.heap.size, 0, none⟩ = some (.int .i64 t.k) := box_cell B4.out 0 _ C0.out
  have e4 : (t.k == 4) = false := by rw [beq_eq_false_iff_ne]; exact HK.out.2.1
  have e3 : (t.k == 3) = false := by rw [beq_eq_false_iff_ne]; exact HK.out.1
  have e5 : (t.k == 5) = false := by rw [beq_eq_false_iff_ne]; exact HK.out.2.2
  have n4 : (t.k != 4) = true := by rw [bne, e4]; rfl
  have hf : f = 0 := HA.out.2.2.2.2 HK.out.1 HK.out.2.1 HK.out.2.2 (by omega)
  subst hf
  have hq : (FloatKind.f64.format.order (0) (0) == some Ordering.eq) = true := by decide
  go_wp2_with (go_at_call 11; refine (becomes_any _).mono ?_; rintro e w5 ⟨rfl, hb⟩; have B5 := hid (box_trans B4.out hb); clear hb)
  go_ret
  exact ⟨rfl, box_below B5.out⟩

set_option maxRecDepth 100000 in
set_option maxHeartbeats 4000000 in
theorem told_1_bad_c (B : Nat) (t : V) (v : Value) (w : World) (g o c x0 : Nat) (hrep : Rep w v t) (hc : c ≤ 9223372036854775807) (h1 : 1 ≤ c) (hx : w.cell? ⟨g, o, none⟩ = some (.float .f64 x0)) (hT : Tab B w) (hB : B ≤ w.heap.size) (hE : ErrTab w) (lx0 : (FloatKind.f64.format.order (sizeF x0) 9214871658872686752 == some Ordering.lt) = false) (ex0 : (FloatKind.f64.format.order (sizeF x0) 9214871658872686752 == some Ordering.eq) = false) : Calls Tryz.prog 3 #[v, .slice (some ⟨g, o, none⟩) 1 c] w (BoolPost true w) := by
  have hd : Dfs w (.slice (some ⟨g, o, none⟩) 1 c) 1 x0 0 := .one g o c x0 hc h1 hx
  obtain ⟨la, ka, lc, kc, cs, ho⟩ := hrep.open_
  obtain rfl := ho.eq
  obtain ⟨X, hX⟩ : ∃ X, X = #[Value.int .i64 t.k, .int .i64 t.n, .float .f64 t.f, .string t.s, .slice la t.l.length lc, .slice ka t.keys.length kc] := ⟨_, rfl⟩
  have hXs : Hid (X.size = 6) := hid (by rw [hX]; rfl)
  have C0 : Hid (X[0]? = some (.int .i64 t.k)) := hid (by rw [hX]; rfl)
  have C1 : Hid (X[1]? = some (.int .i64 t.n)) := hid (by rw [hX]; rfl)
  have C2 : Hid (X[2]? = some (.float .f64 t.f)) := hid (by rw [hX]; rfl)
  have C3 : Hid (X[3]? = some (.string t.s)) := hid (by rw [hX]; rfl)
  rw [← hX] at hrep ⊢
  have HR := hid hrep
  have HD := hid hd
  have HX := hid hx
  have HT := hid hT
  have HB := hid hB
  have HE := hid hE
  clear hrep ho hX hd hT hB hE hx
  have R0 : Hid (Rep (w.alloc (.cells X 26)) (.agg X) t) := hid (HR.out.kept ((Below.refl _ w).alloc (Nat.le_refl _) _))
  have G0 : Hid ((w.alloc (.cells X 26)).heap[w.heap.size]? = some (.cells X 26)) := hid (heap_alloc_new w _)
  have B0 : Hid (Below (w.heap.size + 1) (w.alloc (.cells X 26)) (w.alloc (.cells X 26))) := hid (Below.refl _ _)
  go_enter Tryz.func3, Tryz.ntmps3
  go_wp2_with (first
    | (refine wpList_loadBox rfl (.tmp 2) rfl w.heap.size rfl X hXs.out (by first | exact G0.out | exact box_block B1.out | exact box_block B2.out) ?_)
    | (go_at_call 4; refine (fits1_any t _ _ R0.out).mono ?_; rintro e w1 ⟨b, rfl, hb⟩; have B1 := hid (box_trans B0.out hb); have R1 := hid (R0.out.kept hb); clear hb; cases b)
    | (go_at_call 5; refine (given_any t _ _ R1.out).mono ?_; rintro e w2 ⟨b2, rfl, hb0, hb⟩; have B2 := hid (box_trans B1.out hb); have R2 := hid (R1.out.kept hb); have H2 := hid hb0; clear hb0 hb; cases b2))
  all_goals try (go_ret; first | exact ⟨rfl, box_below B2.out⟩ | exact ⟨rfl, box_below B1.out⟩)
  have hx' : w2.cell? ⟨g, o, none⟩ = some (.float .f64 x0) := ((box_below B2.out).cell (World.block_lt_of_cell? w _ HX.out)).trans HX.out
  have H3 : Hid (Light t) := hid (H2.out rfl)
  refine wp_loop_rounds 2 ?_
  rw [rounds_succ]
  go_wp2_with (go_at_call 6; refine (sized_any _ _).mono ?_; rintro e w3 ⟨rfl, rfl⟩)
  go_ret
  exact ⟨rfl, box_below B2.out⟩

set_option maxRecDepth 100000 in
set_option maxHeartbeats 4000000 in
theorem told_1_flo_a (B : Nat) (t : V) (v : Value) (w : World) (g o c x0 : Nat) (hrep : Rep w v t) (hc : c ≤ 9223372036854775807) (h1 : 1 ≤ c) (hx : w.cell? ⟨g, o, none⟩ = some (.float .f64 x0)) (hT : Tab B w) (hB : B ≤ w.heap.size) (hE : ErrTab w) (lx0 : (FloatKind.f64.format.order (sizeF x0) 9214871658872686752 == some Ordering.lt) = true) (s0 : Same1 x0) (hk : t.k = 4) : Calls Tryz.prog 3 #[v, .slice (some ⟨g, o, none⟩) 1 c] w (BoolPost true w) := by
  have hd : Dfs w (.slice (some ⟨g, o, none⟩) 1 c) 1 x0 0 := .one g o c x0 hc h1 hx
  obtain ⟨la, ka, lc, kc, cs, ho⟩ := hrep.open_
  obtain rfl := ho.eq
  obtain ⟨X, hX⟩ : ∃ X, X = #[Value.int .i64 t.k, .int .i64 t.n, .float .f64 t.f, .string t.s, .slice la t.l.length lc, .slice ka t.keys.length kc] := ⟨_, rfl⟩
  have hXs : Hid (X.size = 6) := hid (by rw [hX]; rfl)
  have C0 : Hid (X[0]? = some (.int .i64 t.k)) := hid (by rw [hX]; rfl)
  have C1 : Hid (X[1]? = some (.int .i64 t.n)) := hid (by rw [hX]; rfl)
  have C2 : Hid (X[2]? = some (.float .f64 t.f)) := hid (by rw [hX]; rfl)
  have C3 : Hid (X[3]? = some (.string t.s)) := hid (by rw [hX]; rfl)
  rw [← hX] at hrep ⊢
  have HR := hid hrep
  have HD := hid hd
  have HX := hid hx
  have S0 := hid s0
  have HK := hid hk
  have HT := hid hT
  have HB := hid hB
  have HE := hid hE
  clear hrep ho hX hd hT hB hE hx s0 hk
  have R0 : Hid (Rep (w.alloc (.cells X 26)) (.agg X) t) := hid (HR.out.kept ((Below.refl _ w).alloc (Nat.le_refl _) _))
  have G0 : Hid ((w.alloc (.cells X 26)).heap[w.heap.size]? = some (.cells X 26)) := hid (heap_alloc_new w _)
  have B0 : Hid (Below (w.heap.size + 1) (w.alloc (.cells X 26)) (w.alloc (.cells X 26))) := hid (Below.refl _ _)
  go_enter Tryz.func3, Tryz.ntmps3
  go_wp2_with (first
    | (refine wpList_loadBox rfl (.tmp 2) rfl w.heap.size rfl X hXs.out (by first | exact G0.out | exact box_block B1.out | exact box_block B2.out) ?_)
    | (go_at_call 4; refine (fits1_any t _ _ R0.out).mono ?_; rintro e w1 ⟨b, rfl, hb⟩; have B1 := hid (box_trans B0.out hb); have R1 := hid (R0.out.kept hb); clear hb; cases b)
    | (go_at_call 5; refine (given_any t _ _ R1.out).mono ?_; rintro e w2 ⟨b2, rfl, hb0, hb⟩; have B2 := hid (box_trans B1.out hb); have R2 := hid (R1.out.kept hb); have H2 := hid hb0; clear hb0 hb; cases b2))
  all_goals try (go_ret; first | exact ⟨rfl, box_below B2.out⟩ | exact ⟨rfl, box_below B1.out⟩)
  have hx' : w2.cell? ⟨g, o, none⟩ = some (.float .f64 x0) := ((box_below B2.out).cell (World.block_lt_of_cell? w _ HX.out)).trans HX.out
  have H3 : Hid (Light t) := hid (H2.out rfl)
  refine wp_loop_rounds 2 ?_
  rw [rounds_succ]
  go_wp2_with (go_at_call 6; refine (sized_any _ _).mono ?_; rintro e w3 ⟨rfl, rfl⟩)
  rw [rounds_succ]
  go_wp2_with (refine wpList_loadBox rfl (.tmp 2) rfl w.heap.size rfl X hXs.out (by exact box_block B2.out) ?_)
  refine (asFloat_any B t _ _ _ _ _ _ R2.out H3.out (HD.out.kept (box_below B2.out)) (HT.out.below ((box_below B2.out).mono HB.out)) (by have := (box_below B2.out).size; have := HB.out; omega) (HE.out.below (box_below B2.out))).mono ?_
  rintro e w4 ⟨f, rfl, ha, hb⟩
  have B4 := hid (box_trans B2.out hb)
  have HA := hid ha
  clear ha hb hx'
  have cN : w4.cell? ⟨w.heap.size, 1, none⟩ = some (.int .i64 t.n) := box_cell B4.out 1 _ C1.out
  have cF : w4.cell? ⟨w.heap.size, 2, none⟩ = some (.float .f64 t.f) := box_cell B4.out 2 _ C2.out
  have cS : w4.cell? ⟨w.heap.size, 3, none⟩ = some (.string t.s) := box_cell B4.out 3 _ C3.out
  have hx' : w4.cell? ⟨g, o, none⟩ = some (.float .f64 x0) := ((box_below B4.out).cell (World.block_lt_of_cell? w _ HX.out)).trans HX.out
  have cK : w4.cell? ⟨w.heap.size, 0, none⟩ = some (.int .i64 4) := (box_cell B4.out 0 _ C0.out).trans (by rw [HK.out])
  have hf : f = t.f := HA.out.1 HK.out
  subst hf
  have hq : (FloatKind.f64.format.order (t.f) (t.f) == some Ordering.eq) = true := by have := ((lite_fine _ t (Nat.le_refl _) H3.out).fin HK.out).1; unfold nanB at this; simpa using this
  go_wp2_with (go_at_call 11; refine (becomes_any _).mono ?_; rintro e w5 ⟨rfl, hb⟩; have B5 := hid (box_trans B4.out hb); clear hb)
  go_ret
  exact ⟨rfl, box_below B5.out⟩

set_option maxRecDepth 100000 in
set_option maxHeartbeats 4000000 in
theorem told_1_int_a (B : Nat) (t : V) (v : Value) (w : World) (g o c x0 : Nat) (hrep : Rep w v t) (hc : c ≤ 9223372036854775807) (h1 : 1 ≤ c) (hx : w.cell? ⟨g, o, none⟩ = some (.float .f64 x0)) (hT : Tab B w) (hB : B ≤ w.heap.size) (hE : ErrTab w) (lx0 : (FloatKind.f64.format.order (sizeF x0) 9214871658872686752 == some Ordering.lt) = true) (s0 : Same1 x0) (hk : t.k = 3) : Calls Tryz.prog 3 #[v, .slice (some ⟨g, o, none⟩) 1 c] w (BoolPost true w) := by
  have hd : Dfs w (.slice (some ⟨g, o, none⟩) 1 c) 1 x0 0 := .one g o c x0 hc h1 hx
  obtain ⟨la, ka, lc, kc, cs, ho⟩ := hrep.open_
  obtain rfl := ho.eq
  obtain ⟨X, hX⟩ : ∃ X, X = #[Value.int .i64 t.k, .int .i64 t.n, .float .f64 t.f, .string t.s, .slice la t.l.length lc, .slice ka t.keys.length kc] := ⟨_, rfl⟩
  have hXs : Hid (X.size = 6) := hid (by rw [hX]; rfl)
  have C0 : Hid (X[0]? = some (.int .i64 t.k)) := hid (by rw [hX]; rfl)
  have C1 : Hid (X[1]? = some (.int .i64 t.n)) := hid (by rw [hX]; rfl)
  have C2 : Hid (X[2]? = some (.float .f64 t.f)) := hid (by rw [hX]; rfl)
  have C3 : Hid (X[3]? = some (.string t.s)) := hid (by rw [hX]; rfl)
  rw [← hX] at hrep ⊢
  have HR := hid hrep
  have HD := hid hd
  have HX := hid hx
  have S0 := hid s0
  have HK := hid hk
  have HT := hid hT
  have HB := hid hB
  have HE := hid hE
  clear hrep ho hX hd hT hB hE hx s0 hk
  have R0 : Hid (Rep (w.alloc (.cells X 26)) (.agg X) t) := hid (HR.out.kept ((Below.refl _ w).alloc (Nat.le_refl _) _))
  have G0 : Hid ((w.alloc (.cells X 26)).heap[w.heap.size]? = some (.cells X 26)) := hid (heap_alloc_new w _)
  have B0 : Hid (Below (w.heap.size + 1) (w.alloc (.cells X 26)) (w.alloc (.cells X 26))) := hid (Below.refl _ _)
  go_enter Tryz.func3, Tryz.ntmps3
  go_wp2_with (first
    | (refine wpList_loadBox rfl (.tmp 2) rfl w.heap.size rfl X hXs.out (by first | exact G0.out | exact box_block B1.out | exact box_block B2.out) ?_)
    | (go_at_call 4; refine (fits1_any t _ _ R0.out).mono ?_; rintro e w1 ⟨b, rfl, hb⟩; have B1 := hid (box_trans B0.out hb); have R1 := hid (R0.out.kept hb); clear hb; cases b)
    | (go_at_call 5; refine (given_any t _ _ R1.out).mono ?_; rintro e w2 ⟨b2, rfl, hb0, hb⟩; have B2 := hid (box_trans B1.out hb); have R2 := hid (R1.out.kept hb); have H2 := hid hb0; clear hb0 hb; cases b2))
  all_goals try (go_ret; first | exact ⟨rfl, box_below B2.out⟩ | exact ⟨rfl, box_below B1.out⟩)
  have hx' : w2.cell? ⟨g, o, none⟩ = some (.float .f64 x0) := ((box_below B2.out).cell (World.block_lt_of_cell? w _ HX.out)).trans HX.out
  have H3 : Hid (Light t) := hid (H2.out rfl)
  refine wp_loop_rounds 2 ?_
  rw [rounds_succ]
  go_wp2_with (go_at_call 6; refine (sized_any _ _).mono ?_; rintro e w3 ⟨rfl, rfl⟩)
  rw [rounds_succ]
  go_wp2_with (refine wpList_loadBox rfl (.tmp 2) rfl w.heap.size rfl X hXs.out (by exact box_block B2.out) ?_)
  refine (asFloat_any B t _ _ _ _ _ _ R2.out H3.out (HD.out.kept (box_below B2.out)) (HT.out.below ((box_below B2.out).mono HB.out)) (by have := (box_below B2.out).size; have := HB.out; omega) (HE.out.below (box_below B2.out))).mono ?_
  rintro e w4 ⟨f, rfl, ha, hb⟩
  have B4 := hid (box_trans B2.out hb)
  have HA := hid ha
  clear ha hb hx'
  have cN : w4.cell? ⟨w.heap.size, 1, none⟩ = some (.int .i64 t.n) := box_cell B4.out 1 _ C1.out
  have cF : w4.cell? ⟨w.heap.size, 2, none⟩ = some (.float .f64 t.f) := box_cell B4.out 2 _ C2.out
  have cS : w4.cell? ⟨w.heap.size, 3, none⟩ = some (.string t.s) := box_cell B4.out 3 _ C3.out
  have hx' : w4.cell? ⟨g, o, none⟩ = some (.float .f64 x0) := ((box_below B4.out).cell (World.block_lt_of_cell? w _ HX.out)).trans HX.out
  have cK : w4.cell? ⟨w.heap.size, 0, none⟩ = some (.int .i64 3) := (box_cell B4.out 0 _ C0.out).trans (by rw [HK.out])
  have hf : f = floatOfInt .f64 t.n := HA.out.2.2.1 HK.out (by omega)
  subst hf
  have hq : (FloatKind.f64.format.order (floatOfInt .f64 t.n) (floatOfInt .f64 t.n) == some Ordering.eq) = true := by rw [good_eq (ofInt_good t.n)]; rfl
  go_wp2_with (go_at_call 11; refine (becomes_any _).mono ?_; rintro e w5 ⟨rfl, hb⟩; have B5 := hid (box_trans B4.out hb); clear hb)
  go_ret
  exact ⟨rfl, box_below B5.out⟩

set_option maxRecDepth 100000 in
set_option maxHeartbeats 4000000 in
theorem told_1_str_a (B : Nat) (t : V) (v : Value) (w : World) (g o c x0 : Nat) (hrep : Rep w v t) (hc : c ≤ 9223372036854775807) (h1 : 1 ≤ c) (hx : w.cell? ⟨g, o, none⟩ = some (.float .f64 x0)) (hT : Tab B w) (hB : B ≤ w.heap.size) (hE : ErrTab w) (lx0 : (FloatKind.f64.format.order (sizeF x0) 9214871658872686752 == some Ordering.lt) = true) (s0 : Same1 x0) (hk : t.k = 5) : Calls Tryz.prog 3 #[v, .slice (some ⟨g, o, none⟩) 1 c] w (BoolPost true w) := by
  have hd : Dfs w (.slice (some ⟨g, o, none⟩) 1 c) 1 x0 0 := .one g o c x0 hc h1 hx
  obtain ⟨la, ka, lc, kc, cs, ho⟩ := hrep.open_
  obtain rfl := ho.eq
  obtain ⟨X, hX⟩ : ∃ X, X = #[Value.int .i64 t.k, .int .i64 t.n, .float .f64 t.f, .string t.s, .slice la t.l.length lc, .slice ka t.keys.length kc] := ⟨_, rfl⟩
  have hXs : Hid (X.size = 6) := hid (by rw [hX]; rfl)
  have C0 : Hid (X[0]? = some (.int .i64 t.k)) := hid (by rw [hX]; rfl)
  have C1 : Hid (X[1]? = some (.int .i64 t.n)) := hid (by rw [hX]; rfl)
  have C2 : Hid (X[2]? = some (.float .f64 t.f)) := hid (by rw [hX]; rfl)
  have C3 : Hid (X[3]? = some (.string t.s)) := hid (by rw [hX]; rfl)
  rw [← hX] at hrep ⊢
  have HR := hid hrep
  have HD := hid hd
  have HX := hid hx
  have S0 := hid s0
  have HK := hid hk
  have HT := hid hT
  have HB := hid hB
  have HE := hid hE
  clear hrep ho hX hd hT hB hE hx s0 hk
  have R0 : Hid (Rep (w.alloc (.cells X 26)) (.agg X) t) := hid (HR.out.kept ((Below.refl _ w).alloc (Nat.le_refl _) _))
  have G0 : Hid ((w.alloc (.cells X 26)).heap[w.heap.size]? = some (.cells X 26)) := hid (heap_alloc_new w _)
  have B0 : Hid (Below (w.heap.size + 1) (w.alloc (.cells X 26)) (w.alloc (.cells X 26))) := hid (Below.refl _ _)
  go_enter Tryz.func3, Tryz.ntmps3
  go_wp2_with (first
    | (refine wpList_loadBox rfl (.tmp 2) rfl w.heap.size rfl X hXs.out (by first | exact G0.out | exact box_block B1.out | exact box_block B2.out) ?_)
    | (go_at_call 4; refine (fits1_any t _ _ R0.out).mono ?_; rintro e w1 ⟨b, rfl, hb⟩; have B1 := hid (box_trans B0.out hb); have R1 := hid (R0.out.kept hb); clear hb; cases b)
    | (go_at_call 5; refine (given_any t _ _ R1.out).mono ?_; rintro e w2 ⟨b2, rfl, hb0, hb⟩; have B2 := hid (box_trans B1.out hb); have R2 := hid (R1.out.kept hb); have H2 := hid hb0; clear hb0 hb; cases b2))
  all_goals try (go_ret; first | exact ⟨rfl, box_below B2.out⟩ | exact ⟨rfl, box_below B1.out⟩)
  have hx' : w2.cell? ⟨g, o, none⟩ = some (.float .f64 x0) := ((box_below B2.out).cell (World.block_lt_of_cell? w _ HX.out)).trans HX.out
  have H3 : Hid (Light t) := hid (H2.out rfl)
  refine wp_loop_rounds 2 ?_
  rw [rounds_succ]
  go_wp2_with (go_at_call 6; refine (sized_any _ _).mono ?_; rintro e w3 ⟨rfl, rfl⟩)
  rw [rounds_succ]
  go_wp2_with (refine wpList_loadBox rfl (.tmp 2) rfl w.heap.size rfl X hXs.out (by exact box_block B2.out) ?_)
  refine (asFloat_any B t _ _ _ _ _ _ R2.out H3.out (HD.out.kept (box_below B2.out)) (HT.out.below ((box_below B2.out).mono HB.out)) (by have := (box_below B2.out).size; have := HB.out; omega) (HE.out.below (box_below B2.out))).mono ?_
  rintro e w4 ⟨f, rfl, ha, hb⟩
  have B4 := hid (box_trans B2.out hb)
  have HA := hid ha
  clear ha hb hx'
  have cN : w4.cell? ⟨w.heap.size, 1, none⟩ = some (.int .i64 t.n) := box_cell B4.out 1 _ C1.out
  have cF : w4.cell? ⟨w.heap.size, 2, none⟩ = some (.float .f64 t.f) := box_cell B4.out 2 _ C2.out
  have cS : w4.cell? ⟨w.heap.size, 3, none⟩ = some (.string t.s) := box_cell B4.out 3 _ C3.out
  have hx' : w4.cell? ⟨g, o, none⟩ = some (.float .f64 x0) := ((box_below B4.out).cell (World.block_lt_of_cell? w _ HX.out)).trans HX.out
  have cK : w4.cell? ⟨w.heap.size, 0, none⟩ = some (.int .i64 5) := (box_cell B4.out 0 _ C0.out).trans (by rw [HK.out])
  have HS : Hid (t.s.size ≤ 1000000) := hid (by have := H3.out.wt; rw [V.wt_eq t] at this; omega)
  go_wp2_with (fail)
  refine (numeral_any t.s _ HS.out).mono ?_
  rintro e w6 ⟨⟨b, rfl, hb⟩, rfl⟩
  have HNM := hid hb
  clear hb
  cases b
  · go_wp2_with (fail)
    refine (numberless_any t.s _ HS.out).mono ?_
    rintro e w6 ⟨⟨b, rfl, hb⟩, rfl⟩
    have HNL := hid hb
    clear hb
    cases b
    · go_wp2_with (fail)
      go_ret
      exact ⟨rfl, box_below B4.out⟩
    · have hf : f = x0 := (HA.out.2.2.2.1 HK.out (by omega)).2 (HNL.out rfl)
      subst hf
      have hq : (FloatKind.f64.format.order (f) (f) == some Ordering.eq) = true := S0.out
      go_wp2_with (go_at_call 11; refine (becomes_any _).mono ?_; rintro e w5 ⟨rfl, hb⟩; have B5 := hid (box_trans B4.out hb); clear hb)
      go_ret
      exact ⟨rfl, box_below B5.out⟩
  · obtain ⟨ng, j, L, hns⟩ := HNM.out rfl
    have HNS := hid hns
    clear hns
    obtain ⟨M, hM⟩ : ∃ M, numI t.s ng j L = M := ⟨_, rfl⟩
    have hf : f = floatOfInt .f64 M := by rw [← hM]; exact (HA.out.2.2.2.1 HK.out (by omega)).1 ng j L HNS.out
    subst hf
    have hq : (FloatKind.f64.format.order (floatOfInt .f64 M) (floatOfInt .f64 M) == some Ordering.eq) = true := by rw [good_eq (ofInt_good M)]; rfl
    have HOF : Hid (Calls Tryz.prog 9 #[.string t.s] w4 (fun e w' => e = .returned (.int .i64 M) ∧ w4 = w')) := hid (hM ▸ numeralOf_any t.s ng j L w4 HNS.out)
    clear hM
    go_wp2_with (first
      | (go_at_call 9; refine HOF.out.mono ?_; rintro e w7 ⟨rfl, rfl⟩)
      | (go_at_call 11; refine (becomes_any _).mono ?_; rintro e w5 ⟨rfl, hb⟩; have B5 := hid (box_trans B4.out hb); clear hb))
    go_ret
    exact ⟨rfl, box_below B5.out⟩

set_option maxRecDepth 100000 in
set_option maxHeartbeats 4000000 in
theorem told_1_oth_a (B : Nat) (t : V) (v : Value) (w : World) (g o c x0 : Nat) (hrep : Rep w v t) (hc : c ≤ 9223372036854775807) (h1 : 1 ≤ c) (hx : w.cell? ⟨g, o, none⟩ = some (.float .f64 x0)) (hT : Tab B w) (hB : B ≤ w.heap.size) (hE : ErrTab w) (lx0 : (FloatKind.f64.format.order (sizeF x0) 9214871658872686752 == some Ordering.lt) = true) (s0 : Same1 x0) (k3 : t.k ≠ 3) (k4 : t.k ≠ 4) (k5 : t.k ≠ 5) : Calls Tryz.prog 3 #[v, .slice (some ⟨g, o, none⟩) 1 c] w (BoolPost true w) := by
  have hd : Dfs w (.slice (some ⟨g, o, none⟩) 1 c) 1 x0 0 := .one g o c x0 hc h1 hx
  obtain ⟨la, ka, lc, kc, cs, ho⟩ := hrep.open_
  obtain rfl := ho.eq
  obtain ⟨X, hX⟩ : ∃ X, X = #[Value.int .i64 t.k, .int .i64 t.n, .float .f64 t.f, .string t.s, .slice la t.l.length lc, .slice ka t.keys.length kc] := ⟨_, rfl⟩
  have hXs : Hid (X.size = 6) := hid (by rw [hX]; rfl)
  have C0 : Hid (X[0]? = some (.int .i64 t.k)) := hid (by rw [hX]; rfl)
  have C1 : Hid (X[1]? = some (.int .i64 t.n)) := hid (by rw [hX]; rfl)
  have C2 : Hid (X[2]? = some (.float .f64 t.f)) := hid (by rw [hX]; rfl)
  have C3 : Hid (X[3]? = some (.string t.s)) := hid (by rw [hX]; rfl)
  rw [← hX] at hrep ⊢
  have HR := hid hrep
  have HD := hid hd
  have HX := hid hx
  have S0 := hid s0
  have HK := hid (And.intro k3 (And.intro k4 k5))
  have HT := hid hT
  have HB := hid hB
  have HE := hid hE
  clear hrep ho hX hd hT hB hE hx s0 k3 k4 k5
  have R0 : Hid (Rep (w.alloc (.cells X 26)) (.agg X) t) := hid (HR.out.kept ((Below.refl _ w).alloc (Nat.le_refl _) _))
  have G0 : Hid ((w.alloc (.cells X 26)).heap[w.heap.size]? = some (.cells X 26)) := hid (heap_alloc_new w _)
  have B0 : Hid (Below (w.heap.size + 1) (w.alloc (.cells X 26)) (w.alloc (.cells X 26))) := hid (Below.refl _ _)
  go_enter Tryz.func3, Tryz.ntmps3
  go_wp2_with (first
    | (refine wpList_loadBox rfl (.tmp 2) rfl w.heap.size rfl X hXs.out (by first | exact G0.out | exact box_block B1.out | exact box_block B2.out) ?_)
    | (go_at_call 4; refine (fits1_any t _ _ R0.out).mono ?_; rintro e w1 ⟨b, rfl, hb⟩; have B1 := hid (box_trans B0.out hb); have R1 := hid (R0.out.kept hb); clear hb; cases b)
    | (go_at_call 5; refine (given_any t _ _ R1.out).mono ?_; rintro e w2 ⟨b2, rfl, hb0, hb⟩; have B2 := hid (box_trans B1.out hb); have R2 := hid (R1.out.kept hb); have H2 := hid hb0; clear hb0 hb; cases b2))
  all_goals try (go_ret; first | exact ⟨rfl, box_below B2.out⟩ | exact ⟨rfl, box_below B1.out⟩)
  have hx' : w2.cell? ⟨g, o, none⟩ = some (.float .f64 x0) := ((box_below B2.out).cell (World.block_lt_of_cell? w _ HX.out)).trans HX.out
  have H3 : Hid (Light t) := hid (H2.out rfl)
  refine wp_loop_rounds 2 ?_
  rw [rounds_succ]
  go_wp2_with (go_at_call 6; refine (sized_any _ _).mono ?_; rintro e w3 ⟨rfl, rfl⟩)
  rw [rounds_succ]
  go_wp2_with (refine wpList_loadBox rfl (.tmp 2) rfl w.heap.size rfl X hXs.out (by exact box_block B2.out) ?_)
  refine (asFloat_any B t _ _ _ _ _ _ R2.out H3.out (HD.out.kept (box_below B2.out)) (HT.out.below ((box_below B2.out).mono HB.out)) (by have := (box_below B2.out).size; have := HB.out; omega) (HE.out.below (box_below B2.out))).mono ?_
  rintro e w4 ⟨f, rfl, ha, hb⟩
  have B4 := hid (box_trans B2.out hb)
  have HA := hid ha
  clear ha hb hx'
  have cN : w4.cell? ⟨w.heap.size, 1, none⟩ = some (.int .i64 t.n) := box_cell B4.out 1 _ C1.out
  have cF : w4.cell? ⟨w.heap.size, 2, none⟩ = some (.float .f64 t.f) := box_cell B4.out 2 _ C2.out
  have cS : w4.cell? ⟨w.heap.size, 3, none⟩ = some (.string t.s) := box_cell B4.out 3 _ C3.out
  have hx' : w4.cell? ⟨g, o, none⟩ = some (.float .f64 x0) := ((box_below B4.out).cell (World.block_lt_of_cell? w _ HX.out)).trans HX.out
  have cK : w4.cell? ⟨w.heap.size, 0, none⟩ = some (.int .i64 t.k) := box_cell B4.out 0 _ C0.out
  have e4 : (t.k == 4) = false := by rw [beq_eq_false_iff_ne]; exact HK.out.2.1
  have e3 : (t.k == 3) = false := by rw [beq_eq_false_iff_ne]; exact HK.out.1
  have e5 : (t.k == 5) = false := by rw [beq_eq_false_iff_ne]; exact HK.out.2.2
  have n4 : (t.k != 4) = true := by rw [bne, e4]; rfl
  have hf : f = x0 := HA.out.2.2.2.2 HK.out.1 HK.out.2.1 HK.out.2.2 (by omega)
  subst hf
  have hq : (FloatKind.f64.format.order (f) (f) == some Ordering.eq) = true := S0.out
  go_wp2_with (go_at_call 11; refine (becomes_any _).mono ?_; rintro e w5 ⟨rfl, hb⟩; have B5 := hid (box_trans B4.out hb); clear hb)
  go_ret
  exact ⟨rfl, box_below B5.out⟩

set_option maxRecDepth 100000 in
set_option maxHeartbeats 4000000 in
theorem told_1_flo_b (B : Nat) (t : V) (v : Value) (w : World) (g o c x0 : Nat) (hrep : Rep w v t) (hc : c ≤ 9223372036854775807) (h1 : 1 ≤ c) (hx : w.cell? ⟨g, o, none⟩ = some (.float .f64 x0)) (hT : Tab B w) (hB : B ≤ w.heap.size) (hE : ErrTab w) (lx0 : (FloatKind.f64.format.order (sizeF x0) 9214871658872686752 == some Ordering.lt) = false) (ex0 : (FloatKind.f64.format.order (sizeF x0) 9214871658872686752 == some Ordering.eq) = true) (s0 : Same1 x0) (hk : t.k = 4) : Calls Tryz.prog 3 #[v, .slice (some ⟨g, o, none⟩) 1 c] w (BoolPost true w) := by
  have hd : Dfs w (.slice (some ⟨g, o, none⟩) 1 c) 1 x0 0 := .one g o c x0 hc h1 hx
  obtain ⟨la, ka, lc, kc, cs, ho⟩ := hrep.open_
  obtain rfl := ho.eq
  obtain ⟨X, hX⟩ : ∃ X, X = #[Value.int .i64 t.k, .int .i64 t.n, .float .f64 t.f, .string t.s, .slice la t.l.length lc, .slice ka t.keys.length kc] := ⟨_, rfl⟩
  have hXs : Hid (X.size = 6) := hid (by rw [hX]; rfl)
  have C0 : Hid (X[0]? = some (.int .i64 t.k)) := hid (by rw [hX]; rfl)
  have C1 : Hid (X[1]? = some (.int .i64 t.n)) := hid (by rw [hX]; rfl)
  have C2 : Hid (X[2]? = some (.float .f64 t.f)) := hid (by rw [hX]; rfl)
  have C3 : Hid (X[3]? = some (.string t.s)) := hid (by rw [hX]; rfl)
  rw [← hX] at hrep ⊢
  have HR := hid hrep
  have HD := hid hd
  have HX := hid hx
  have S0 := hid s0
  have HK := hid hk
  have HT := hid hT
  have HB := hid hB
  have HE := hid hE
  clear hrep ho hX hd hT hB hE hx s0 hk
  have R0 : Hid (Rep (w.alloc (.cells X 26)) (.agg X) t) := hid (HR.out.kept ((Below.refl _ w).alloc (Nat.le_refl _) _))
  have G0 : Hid ((w.alloc (.cells X 26)).heap[w.heap.size]? = some (.cells X 26)) := hid (heap_alloc_new w _)
  have B0 : Hid (Below (w.heap.size + 1) (w.alloc (.cells X 26)) (w.alloc (.cells X 26))) := hid (Below.refl _ _)
  go_enter Tryz.func3, Tryz.ntmps3
  go_wp2_with (first
    | (refine wpList_loadBox rfl (.tmp 2) rfl w.heap.size rfl X hXs.out (by first | exact G0.out | exact box_block B1.out | exact box_block B2.out) ?_)
    | (go_at_call 4; refine (fits1_any t _ _ R0.out).mono ?_; rintro e w1 ⟨b, rfl, hb⟩; have B1 := hid (box_trans B0.out hb); have R1 := hid (R0.out.kept hb); clear hb; cases b)
    | (go_at_call 5; refine (given_any t _ _ R1.out).mono ?_; rintro e w2 ⟨b2, rfl, hb0, hb⟩; have B2 := hid (box_trans B1.out hb); have R2 := hid (R1.out.kept hb); have H2 := hid hb0; clear hb0 hb; cases b2))
  all_goals try (go_ret; first | exact ⟨rfl, box_below B2.out⟩ | exact ⟨rfl, box_below B1.out⟩)
  have hx' : w2.cell? ⟨g, o, none⟩ = some (.float .f64 x0) := ((box_below B2.out).cell (World.block_lt_of_cell? w _ HX.out)).trans HX.out
  have H3 : Hid (Light t) := hid (H2.out rfl)
  refine wp_loop_rounds 2 ?_
  rw [rounds_succ]
  go_wp2_with (go_at_call 6; refine (sized_any _ _).mono ?_; rintro e w3 ⟨rfl, rfl⟩)
  rw [rounds_succ]
  go_wp2_with (refine wpList_loadBox rfl (.tmp 2) rfl w.heap.size rfl X hXs.out (by exact box_block B2.out) ?_)
  refine (asFloat_any B t _ _ _ _ _ _ R2.out H3.out (HD.out.kept (box_below B2.out)) (HT.out.below ((box_below B2.out).mono HB.out)) (by have := (box_below B2.out).size; have := HB.out; omega) (HE.out.below (box_below B2.out))).mono ?_
  rintro e w4 ⟨f, rfl, ha, hb⟩
  have B4 := hid (box_trans B2.out hb)
  have HA := hid ha
  clear ha hb hx'
  have cN : w4.cell? ⟨w.heap.size, 1, none⟩ = some (.int .i64 t.n) := box_cell B4.out 1 _ C1.out
  have cF : w4.cell? ⟨w.heap.size, 2, none⟩ = some (.float .f64 t.f) := box_cell B4.out 2 _ C2.out
  have cS : w4.cell? ⟨w.heap.size, 3, none⟩ = some (.string t.s) := box_cell B4.out 3 _ C3.out
  have hx' : w4.cell? ⟨g, o, none⟩ = some (.float .f64 x0) := ((box_below B4.out).cell (World.block_lt_of_cell? w _ HX.out)).trans HX.out
  have cK : w4.cell? ⟨w.heap.size, 0, none⟩ = some (.int .i64 4) := (box_cell B4.out 0 _ C0.out).trans (by rw [HK.out])
  have hf : f = t.f := HA.out.1 HK.out
  subst hf
  have hq : (FloatKind.f64.format.order (t.f) (t.f) == some Ordering.eq) = true := by have := ((lite_fine _ t (Nat.le_refl _) H3.out).fin HK.out).1; unfold nanB at this; simpa using this
  go_wp2_with (go_at_call 11; refine (becomes_any _).mono ?_; rintro e w5 ⟨rfl, hb⟩; have B5 := hid (box_trans B4.out hb); clear hb)
  go_ret
  exact ⟨rfl, box_below B5.out⟩

set_option maxRecDepth 100000 in
set_option maxHeartbeats 4000000 in
theorem told_1_int_b (B : Nat) (t : V) (v : Value) (w : World) (g o c x0 : Nat) (hrep : Rep w v t) (hc : c ≤ 9223372036854775807) (h1 : 1 ≤ c) (hx : w.cell? ⟨g, o, none⟩ = some (.float .f64 x0)) (hT : Tab B w) (hB : B ≤ w.heap.size) (hE : ErrTab w) (lx0 : (FloatKind.f64.format.order (sizeF x0) 9214871658872686752 == some Ordering.lt) = false) (ex0 : (FloatKind.f64.format.order (sizeF x0) 9214871658872686752 == some Ordering.eq) = true) (s0 : Same1 x0) (hk : t.k = 3) : Calls Tryz.prog 3 #[v, .slice (some ⟨g, o, none⟩) 1 c] w (BoolPost true w) := by
  have hd : Dfs w (.slice (some ⟨g, o, none⟩) 1 c) 1 x0 0 := .one g o c x0 hc h1 hx
  obtain ⟨la, ka, lc, kc, cs, ho⟩ := hrep.open_
  obtain rfl := ho.eq
  obtain ⟨X, hX⟩ : ∃ X, X = #[Value.int .i64 t.k, .int .i64 t.n, .float .f64 t.f, .string t.s, .slice la t.l.length lc, .slice ka t.keys.length kc] := ⟨_, rfl⟩
  have hXs : Hid (X.size = 6) := hid (by rw [hX]; rfl)
  have C0 : Hid (X[0]? = some (.int .i64 t.k)) := hid (by rw [hX]; rfl)
  have C1 : Hid (X[1]? = some (.int .i64 t.n)) := hid (by rw [hX]; rfl)
  have C2 : Hid (X[2]? = some (.float .f64 t.f)) := hid (by rw [hX]; rfl)
  have C3 : Hid (X[3]? = some (.string t.s)) := hid (by rw [hX]; rfl)
  rw [← hX] at hrep ⊢
  have HR := hid hrep
  have HD := hid hd
  have HX := hid hx
  have S0 := hid s0
  have HK := hid hk
  have HT := hid hT
  have HB := hid hB
  have HE := hid hE
  clear hrep ho hX hd hT hB hE hx s0 hk
  have R0 : Hid (Rep (w.alloc (.cells X 26)) (.agg X) t) := hid (HR.out.kept ((Below.refl _ w).alloc (Nat.le_refl _) _))
  have G0 : Hid ((w.alloc (.cells X 26)).heap[w.heap.size]? = some (.cells X 26)) := hid (heap_alloc_new w _)
  have B0 : Hid (Below (w.heap.size + 1) (w.alloc (.cells X 26)) (w.alloc (.cells X 26))) := hid (Below.refl _ _)
  go_enter Tryz.func3, Tryz.ntmps3
  go_wp2_with (first
    | (refine wpList_loadBox rfl (.tmp 2) rfl w.heap.size rfl X hXs.out (by first | exact G0.out | exact box_block B1.out | exact box_block B2.out) ?_)
    | (go_at_call 4; refine (fits1_any t _ _ R0.out).mono ?_; rintro e w1 ⟨b, rfl, hb⟩; have B1 := hid (box_trans B0.out hb); have R1 := hid (R0.out.kept hb); clear hb; cases b)
    | (go_at_call 5; refine (given_any t _ _ R1.out).mono ?_; rintro e w2 ⟨b2, rfl, hb0, hb⟩; have B2 := hid (box_trans B1.out hb); have R2 := hid (R1.out.kept hb); have H2 := hid hb0; clear hb0 hb; cases b2))
  all_goals try (go_ret; first | exact ⟨rfl, box_below B2.out⟩ | exact ⟨rfl, box_below B1.out⟩)
  have hx' : w2.cell? ⟨g, o, none⟩ = some (.float .f64 x0) := ((box_below B2.out).cell (World.block_lt_of_cell? w _ HX.out)).trans HX.out
  have H3 : Hid (Light t) := hid (H2.out rfl)
  refine wp_loop_rounds 2 ?_
  rw [rounds_succ]
  go_wp2_with (go_at_call 6; refine (sized_any _ _).mono ?_; rintro e w3 ⟨rfl, rfl⟩)
  rw [rounds_succ]
  go_wp2_with (refine wpList_loadBox rfl (.tmp 2) rfl w.heap.size rfl X hXs.out (by exact box_block B2.out) ?_)
  refine (asFloat_any B t _ _ _ _ _ _ R2.out H3.out (HD.out.kept (box_below B2.out)) (HT.out.below ((box_below B2.out).mono HB.out)) (by have := (box_below B2.out).size; have := HB.out; omega) (HE.out.below (box_below B2.out))).mono ?_
  rintro e w4 ⟨f, rfl, ha, hb⟩
  have B4 := hid (box_trans B2.out hb)
  have HA := hid ha
  clear ha hb hx'
  have cN : w4.cell? ⟨w.heap.size, 1, none⟩ = some (.int .i64 t.n) := box_cell B4.out 1 _ C1.out
  have cF : w4.cell? ⟨w.heap.size, 2, none⟩ = some (.float .f64 t.f) := box_cell B4.out 2 _ C2.out
  have cS : w4.cell? ⟨w.heap.size, 3, none⟩ = some (.string t.s) := box_cell B4.out 3 _ C3.out
  have hx' : w4.cell? ⟨g, o, none⟩ = some (.float .f64 x0) := ((box_below B4.out).cell (World.block_lt_of_cell? w _ HX.out)).trans HX.out
  have cK : w4.cell? ⟨w.heap.size, 0, none⟩ = some (.int .i64 3) := (box_cell B4.out 0 _ C0.out).trans (by rw [HK.out])
  have hf : f = floatOfInt .f64 t.n := HA.out.2.2.1 HK.out (by omega)
  subst hf
  have hq : (FloatKind.f64.format.order (floatOfInt .f64 t.n) (floatOfInt .f64 t.n) == some Ordering.eq) = true := by rw [good_eq (ofInt_good t.n)]; rfl
  go_wp2_with (go_at_call 11; refine (becomes_any _).mono ?_; rintro e w5 ⟨rfl, hb⟩; have B5 := hid (box_trans B4.out hb); clear hb)
  go_ret
  exact ⟨rfl, box_below B5.out⟩

set_option maxRecDepth 100000 in
set_option maxHeartbeats 4000000 in
theorem told_1_str_b (B : Nat) (t : V) (v : Value) (w : World) (g o c x0 : Nat) (hrep : Rep w v t) (hc : c ≤ 9223372036854775807) (h1 : 1 ≤ c) (hx : w.cell? ⟨g, o, none⟩ = some (.float .f64 x0)) (hT : Tab B w) (hB : B ≤ w.heap.size) (hE : ErrTab w) (lx0 : (FloatKind.f64.format.order (sizeF x0) 9214871658872686752 == some Ordering.lt) = false) (ex0 : (FloatKind.f64.format.order (sizeF x0) 9214871658872686752 == some Ordering.eq) = true) (s0 : Same1 x0) (hk : t.k = 5) : Calls Tryz.prog 3 #[v, .slice (some ⟨g, o, none⟩) 1 c] w (BoolPost true w) := by
  have hd : Dfs w (.slice (some ⟨g, o, none⟩) 1 c) 1 x0 0 := .one g o c x0 hc h1 hx
  obtain ⟨la, ka, lc, kc, cs, ho⟩ := hrep.open_
  obtain rfl := ho.eq
  obtain ⟨X, hX⟩ : ∃ X, X = #[Value.int .i64 t.k, .int .i64 t.n, .float .f64 t.f, .string t.s, .slice la t.l.length lc, .slice ka t.keys.length kc] := ⟨_, rfl⟩
  have hXs : Hid (X.size = 6) := hid (by rw [hX]; rfl)
  have C0 : Hid (X[0]? = some (.int .i64 t.k)) := hid (by rw [hX]; rfl)
  have C1 : Hid (X[1]? = some (.int .i64 t.n)) := hid (by rw [hX]; rfl)
  have C2 : Hid (X[2]? = some (.float .f64 t.f)) := hid (by rw [hX]; rfl)
  have C3 : Hid (X[3]? = some (.string t.s)) := hid (by rw [hX]; rfl)
  rw [← hX] at hrep ⊢
  have HR := hid hrep
  have HD := hid hd
  have HX := hid hx
  have S0 := hid s0
  have HK := hid hk
  have HT := hid hT
  have HB := hid hB
  have HE := hid hE
  clear hrep ho hX hd hT hB hE hx s0 hk
  have R0 : Hid (Rep (w.alloc (.cells X 26)) (.agg X) t) := hid (HR.out.kept ((Below.refl _ w).alloc (Nat.le_refl _) _))
  have G0 : Hid ((w.alloc (.cells X 26)).heap[w.heap.size]? = some (.cells X 26)) := hid (heap_alloc_new w _)
  have B0 : Hid (Below (w.heap.size + 1) (w.alloc (.cells X 26)) (w.alloc (.cells X 26))) := hid (Below.refl _ _)
  go_enter Tryz.func3, Tryz.ntmps3
  go_wp2_with (first
    | (refine wpList_loadBox rfl (.tmp 2) rfl w.heap.size rfl X hXs.out (by first | exact G0.out | exact box_block B1.out | exact box_block B2.out) ?_)
    | (go_at_call 4; refine (fits1_any t _ _ R0.out).mono ?_; rintro e w1 ⟨b, rfl, hb⟩; have B1 := hid (box_trans B0.out hb); have R1 := hid (R0.out.kept hb); clear hb; cases b)
    | (go_at_call 5; refine (given_any t _ _ R1.out).mono ?_; rintro e w2 ⟨b2, rfl, hb0, hb⟩; have B2 := hid (box_trans B1.out hb); have R2 := hid (R1.out.kept hb); have H2 := hid hb0; clear hb0 hb; cases b2))
  all_goals try (go_ret; first | exact ⟨rfl, box_below B2.out⟩ | exact ⟨rfl, box_below B1.out⟩)
  have hx' : w2.cell? ⟨g, o, none⟩ = some (.float .f64 x0) := ((box_below B2.out).cell (World.block_lt_of_cell? w _ HX.out)).trans HX.out
  have H3 : Hid (Light t) := hid (H2.out rfl)
  refine wp_loop_rounds 2 ?_
  rw [rounds_succ]
  go_wp2_with (go_at_call 6; refine (sized_any _ _).mono ?_; rintro e w3 ⟨rfl, rfl⟩)
  rw [rounds_succ]
  go_wp2_with (refine wpList_loadBox rfl (.tmp 2) rfl w.heap.size rfl X hXs.out (by exact box_block B2.out) ?_)
  refine (asFloat_any B t _ _ _ _ _ _ R2.out H3.out (HD.out.kept (box_below B2.out)) (HT.out.below ((box_below B2.out).mono HB.out)) (by have := (box_below B2.out).size; have := HB.out; omega) (HE.out.below (box_below B2.out))).mono ?_
  rintro e w4 ⟨f, rfl, ha, hb⟩
  have B4 := hid (box_trans B2.out hb)
  have HA := hid ha
  clear ha hb hx'
  have cN : w4.cell? ⟨w.heap.size, 1, none⟩ = some (.int .i64 t.n) := box_cell B4.out 1 _ C1.out
  have cF : w4.cell? ⟨w.heap.size, 2, none⟩ = some (.float .f64 t.f) := box_cell B4.out 2 _ C2.out
  have cS : w4.cell? ⟨w.heap.size, 3, none⟩ = some (.string t.s) := box_cell B4.out 3 _ C3.out
  have hx' : w4.cell? ⟨g, o, none⟩ = some (.float .f64 x0) := ((box_below B4.out).cell (World.block_lt_of_cell? w _ HX.out)).trans HX.out
  have cK : w4.cell? ⟨w.heap.size, 0, none⟩ = some (.int .i64 5) := (box_cell B4.out 0 _ C0.out).trans (by rw [HK.out])
  have HS : Hid (t.s.size ≤ 1000000) := hid (by have := H3.out.wt; rw [V.wt_eq t] at this; omega)
  go_wp2_with (fail)
  refine (numeral_any t.s _ HS.out).mono ?_
  rintro e w6 ⟨⟨b, rfl, hb⟩, rfl⟩
  have HNM := hid hb
  clear hb
  cases b
  · go_wp2_with (fail)
    refine (numberless_any t.s _ HS.out).mono ?_
    rintro e w6 ⟨⟨b, rfl, hb⟩, rfl⟩
    have HNL := hid hb
    clear hb
    cases b
    · go_wp2_with (fail)
      go_ret
      exact ⟨rfl, box_below B4.out⟩
    · have hf : f = x0 := (HA.out.2.2.2.1 HK.out (by omega)).2 (HNL.out rfl)
      subst hf
      have hq : (FloatKind.f64.format.order (f) (f) == some Ordering.eq) = true := S0.out
      go_wp2_with (go_at_call 11; refine (becomes_any _).mono ?_; rintro e w5 ⟨rfl, hb⟩; have B5 := hid (box_trans B4.out hb); clear hb)
      go_ret
      exact ⟨rfl, box_below B5.out⟩
  · obtain ⟨ng, j, L, hns⟩ := HNM.out rfl
    have HNS := hid hns
    clear hns
    obtain ⟨M, hM⟩ : ∃ M, numI t.s ng j L = M := ⟨_, rfl⟩
    have hf : f = floatOfInt .f64 M := by rw [← hM]; exact (HA.out.2.2.2.1 HK.out (by omega)).1 ng j L HNS.out
    subst hf
    have hq : (FloatKind.f64.format.order (floatOfInt .f64 M) (floatOfInt .f64 M) == some Ordering.eq) = true := by rw [good_eq (ofInt_good M)]; rfl
    have HOF : Hid (Calls Tryz.prog 9 #[.string t.s] w4 (fun e w' => e = .returned (.int .i64 M) ∧ w4 = w')) := hid (hM ▸ numeralOf_any t.s ng j L w4 HNS.out)
    clear hM
    go_wp2_with (first
      | (go_at_call 9; refine HOF.out.mono ?_; rintro e w7 ⟨rfl, rfl⟩)
      | (go_at_call 11; refine (becomes_any _).mono ?_; rintro e w5 ⟨rfl, hb⟩; have B5 := hid (box_trans B4.out hb); clear hb))
    go_ret
    exact ⟨rfl, box_below B5.out⟩

set_option maxRecDepth 100000 in
set_option maxHeartbeats 4000000 in
theorem told_1_oth_b (B : Nat) (t : V) (v : Value) (w : World) (g o c x0 : Nat) (hrep : Rep w v t) (hc : c ≤ 9223372036854775807) (h1 : 1 ≤ c) (hx : w.cell? ⟨g, o, none⟩ = some (.float .f64 x0)) (hT : Tab B w) (hB : B ≤ w.heap.size) (hE : ErrTab w) (lx0 : (FloatKind.f64.format.order (sizeF x0) 9214871658872686752 == some Ordering.lt) = false) (ex0 : (FloatKind.f64.format.order (sizeF x0) 9214871658872686752 == some Ordering.eq) = true) (s0 : Same1 x0) (k3 : t.k ≠ 3) (k4 : t.k ≠ 4) (k5 : t.k ≠ 5) : Calls Tryz.prog 3 #[v, .slice (some ⟨g, o, none⟩) 1 c] w (BoolPost true w) := by
  have hd : Dfs w (.slice (some ⟨g, o, none⟩) 1 c) 1 x0 0 := .one g o c x0 hc h1 hx
  obtain ⟨la, ka, lc, kc, cs, ho⟩ := hrep.open_
  obtain rfl := ho.eq
  obtain ⟨X, hX⟩ : ∃ X, X = #[Value.int .i64 t.k, .int .i64 t.n, .float .f64 t.f, .string t.s, .slice la t.l.length lc, .slice ka t.keys.length kc] := ⟨_, rfl⟩
  have hXs : Hid (X.size = 6) := hid (by rw [hX]; rfl)
  have C0 : Hid (X[0]? = some (.int .i64 t.k)) := hid (by rw [hX]; rfl)
  have C1 : Hid (X[1]? = some (.int .i64 t.n)) := hid (by rw [hX]; rfl)
  have C2 : Hid (X[2]? = some (.float .f64 t.f)) := hid (by rw [hX]; rfl)
  have C3 : Hid (X[3]? = some (.string t.s)) := hid (by rw [hX]; rfl)
  rw [← hX] at hrep ⊢
  have HR := hid hrep
  have HD := hid hd
  have HX := hid hx
  have S0 := hid s0
  have HK := hid (And.intro k3 (And.intro k4 k5))
  have HT := hid hT
  have HB := hid hB
  have HE := hid hE
  clear hrep ho hX hd hT hB hE hx s0 k3 k4 k5
  have R0 : Hid (Rep (w.alloc (.cells X 26)) (.agg X) t) := hid (HR.out.kept ((Below.refl _ w).alloc (Nat.le_refl _) _))
  have G0 : Hid ((w.alloc (.cells X 26)).heap[w.heap.size]? = some (.cells X 26)) := hid (heap_alloc_new w _)
  have B0 : Hid (Below (w.heap.size + 1) (w.alloc (.cells X 26)) (w.alloc (.cells X 26))) := hid (Below.refl _ _)
  go_enter Tryz.func3, Tryz.ntmps3
  go_wp2_with (first
    | (refine wpList_loadBox rfl (.tmp 2) rfl w.heap.size rfl X hXs.out (by first | exact G0.out | exact box_block B1.out | exact box_block B2.out) ?_)
    | (go_at_call 4; refine (fits1_any t _ _ R0.out).mono ?_; rintro e w1 ⟨b, rfl, hb⟩; have B1 := hid (box_trans B0.out hb); have R1 := hid (R0.out.kept hb); clear hb; cases b)
    | (go_at_call 5; refine (given_any t _ _ R1.out).mono ?_; rintro e w2 ⟨b2, rfl, hb0, hb⟩; have B2 := hid (box_trans B1.out hb); have R2 := hid (R1.out.kept hb); have H2 := hid hb0; clear hb0 hb; cases b2))
  all_goals try (go_ret; first | exact ⟨rfl, box_below B2.out⟩ | exact ⟨rfl, box_below B1.out⟩)
  have hx' : w2.cell? ⟨g, o, none⟩ = some (.float .f64 x0) := ((box_below B2.out).cell (World.block_lt_of_cell? w _ HX.out)).trans HX.out
  have H3 : Hid (Light t) := hid (H2.out rfl)
  refine wp_loop_rounds 2 ?_
  rw [rounds_succ]
  go_wp2_with (go_at_call 6; refine (sized_any _ _).mono ?_; rintro e w3 ⟨rfl, rfl⟩)
  rw [rounds_succ]
  go_wp2_with (refine wpList_loadBox rfl (.tmp 2) rfl w.heap.size rfl X hXs.out (by exact box_block B2.out) ?_)
  refine (asFloat_any B t _ _ _ _ _ _ R2.out H3.out (HD.out.kept (box_below B2.out)) (HT.out.below ((box_below B2.out).mono HB.out)) (by have := (box_below B2.out).size; have := HB.out; omega) (HE.out.below (box_below B2.out))).mono ?_
  rintro e w4 ⟨f, rfl, ha, hb⟩
  have B4 := hid (box_trans B2.out hb)
  have HA := hid ha
  clear ha hb hx'
  have cN : w4.cell? ⟨w.heap.size, 1, none⟩ = some (.int .i64 t.n) := box_cell B4.out 1 _ C1.out
  have cF : w4.cell? ⟨w.heap.size, 2, none⟩ = some (.float .f64 t.f) := box_cell B4.out 2 _ C2.out
  have cS : w4.cell? ⟨w.heap.size, 3, none⟩ = some (.string t.s) := box_cell B4.out 3 _ C3.out
  have hx' : w4.cell? ⟨g, o, none⟩ = some (.float .f64 x0) := ((box_below B4.out).cell (World.block_lt_of_cell? w _ HX.out)).trans HX.out
  have cK : w4.cell? ⟨w.heap.size, 0, none⟩ = some (.int .i64 t.k) := box_cell B4.out 0 _ C0.out
  have e4 : (t.k == 4) = false := by rw [beq_eq_false_iff_ne]; exact HK.out.2.1
  have e3 : (t.k == 3) = false := by rw [beq_eq_false_iff_ne]; exact HK.out.1
  have e5 : (t.k == 5) = false := by rw [beq_eq_false_iff_ne]; exact HK.out.2.2
  have n4 : (t.k != 4) = true := by rw [bne, e4]; rfl
  have hf : f = x0 := HA.out.2.2.2.2 HK.out.1 HK.out.2.1 HK.out.2.2 (by omega)
  subst hf
  have hq : (FloatKind.f64.format.order (f) (f) == some Ordering.eq) = true := S0.out
  go_wp2_with (go_at_call 11; refine (becomes_any _).mono ?_; rintro e w5 ⟨rfl, hb⟩; have B5 := hid (box_trans B4.out hb); clear hb)
  go_ret
  exact ⟨rfl, box_below B5.out⟩

end Go.Proofs.YtonnmongipaheaaGreatDoor
