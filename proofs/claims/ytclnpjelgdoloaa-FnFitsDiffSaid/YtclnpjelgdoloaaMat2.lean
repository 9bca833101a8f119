/- alt.Match at any two values of plain data. -/
import Derived.Test.YtclnpjelgdoloaaMat1
import Derived.Test.YtclnpjelgdoloaaMf
import Derived.Test.YtclnpjelgdoloaaDiffAny
namespace Go.Proofs.Ytclnpjelgdoloaa
open Go.RowKit Go.Maps
set_option linter.unusedVariables false

/-- The answer is whether P. -/
def Decides (P : Prop) (w : World) (e : Ending) (w' : World) : Prop := ∃ r : Bool, e = .returned (.bool r) ∧ (r = true ↔ P) ∧ Below w.heap.size w w'

theorem IsBool.flat {r : Bool} {P : Prop} {w w' : World} {e : Ending} (h : IsBool r w e w') (hP : r = true ↔ P) : Decides P w e w' := by
  obtain ⟨rfl, rfl⟩ := h
  exact ⟨r, rfl, hP, Below.refl _ _⟩

theorem match_flat {B B' : Nat} (a b : V) (x y : Value) (w : World) (hx : PRep w B x a) (hy : PRep w B' y b) (ha : a.wh) (hb : b.wh) (h7 : ¬ (a.k = 7 ∧ b.k = 7)) (h8 : ¬ (a.k = 8 ∧ b.k = 8)) :
    Calls Try.prog 32 #[x, y] w (Decides (Ds a b = []) w) := by
  have wa := ((V.wh_eq a).1 ha).2.1
  have wb := ((V.wh_eq b).1 hb).2.1
  clear ha hb
  cases hx with
  | null _ hk =>
    cases hy with
    | null _ hk' => exact (match_null_null w).mono fun e w' h => h.flat (by simp [Ds, hk, hk'])
    | bool _ hk' => exact (match_null_bool _ w).mono fun e w' h => h.flat (by simp [Ds, hk, hk'])
    | int _ hk' => exact (match_null_int _ w).mono fun e w' h => h.flat (by simp [Ds, hk, hk'])
    | str _ hk' => exact (match_null_str _ w).mono fun e w' h => h.flat (by simp [Ds, hk, hk'])
    | arr _ hk' g' cap' xs' hg' hle' hcap' hc' hr' => exact (match_null_arr _ _ _ w).mono fun e w' h => h.flat (by simp [Ds, hk, hk'])
    | obj _ hk' b0' n0' D' xs' hb0' hm' hn' hD' hkl' hr' => exact (match_null_obj _ w).mono fun e w' h => h.flat (by simp [Ds, hk, hk'])
  | bool _ hk =>
    cases hy with
    | null _ hk' => exact (match_bool_null _ w).mono fun e w' h => h.flat (by simp [Ds, hk, hk'])
    | bool _ hk' =>
      refine (match_bool_bool _ _ w).mono fun e w' h => h.flat ?_
      rcases wa hk with h1 | h1 <;> rcases wb hk' with h2 | h2 <;> simp [Ds, hk, hk', h1, h2]
    | int _ hk' => exact (match_bool_int _ _ w).mono fun e w' h => h.flat (by simp [Ds, hk, hk'])
    | str _ hk' => exact (match_bool_str _ _ w).mono fun e w' h => h.flat (by simp [Ds, hk, hk'])
    | arr _ hk' g' cap' xs' hg' hle' hcap' hc' hr' => exact (match_bool_arr _ _ _ _ w).mono fun e w' h => h.flat (by simp [Ds, hk, hk'])
    | obj _ hk' b0' n0' D' xs' hb0' hm' hn' hD' hkl' hr' => exact (match_bool_obj _ _ w).mono fun e w' h => h.flat (by simp [Ds, hk, hk'])
  | int _ hk =>
    cases hy with
    | null _ hk' => exact (match_int_null _ w).mono fun e w' h => h.flat (by simp [Ds, hk, hk'])
    | bool _ hk' => exact (match_int_bool _ _ w).mono fun e w' h => h.flat (by simp [Ds, hk, hk'])
    | int _ hk' =>
      rcases h : (a.n == b.n) with _ | _
      · exact (match_int_int_ne _ _ h w).mono fun e w' h' => h'.flat (by have := beq_eq_false_iff_ne.1 h; simp [Ds, hk, hk', this])
      · exact (match_int_int_eq _ _ h w).mono fun e w' h' => h'.flat (by have := beq_iff_eq.1 h; simp [Ds, hk, hk', this])
    | str _ hk' => exact (match_int_str _ _ w).mono fun e w' h => h.flat (by simp [Ds, hk, hk'])
    | arr _ hk' g' cap' xs' hg' hle' hcap' hc' hr' => exact (match_int_arr _ _ _ _ w).mono fun e w' h => h.flat (by simp [Ds, hk, hk'])
    | obj _ hk' b0' n0' D' xs' hb0' hm' hn' hD' hkl' hr' => exact (match_int_obj _ _ w).mono fun e w' h => h.flat (by simp [Ds, hk, hk'])
  | str _ hk =>
    cases hy with
    | null _ hk' => exact (match_str_null _ w).mono fun e w' h => h.flat (by simp [Ds, hk, hk'])
    | bool _ hk' => exact (match_str_bool _ _ w).mono fun e w' h => h.flat (by simp [Ds, hk, hk'])
    | int _ hk' => exact (match_str_int _ _ w).mono fun e w' h => h.flat (by simp [Ds, hk, hk'])
    | str _ hk' =>
      rcases h : (a.s.toList == b.s.toList) with _ | _
      · exact (match_str_str_ne _ _ h w).mono fun e w' h' => h'.flat (by simp [Ds, hk, hk', toList_beq_false h])
      · exact (match_str_str_eq _ _ h w).mono fun e w' h' => h'.flat (by simp [Ds, hk, hk', toList_beq_true h])
    | arr _ hk' g' cap' xs' hg' hle' hcap' hc' hr' => exact (match_str_arr _ _ _ _ w).mono fun e w' h => h.flat (by simp [Ds, hk, hk'])
    | obj _ hk' b0' n0' D' xs' hb0' hm' hn' hD' hkl' hr' => exact (match_str_obj _ _ w).mono fun e w' h => h.flat (by simp [Ds, hk, hk'])
  | arr _ hk g cap xs hg hle hcap hc hr =>
    cases hy with
    | null _ hk' => exact (match_arr_null _ _ _ w).mono fun e w' h => h.flat (by simp [Ds, hk, hk'])
    | bool _ hk' => exact (match_arr_bool _ _ _ _ w).mono fun e w' h => h.flat (by simp [Ds, hk, hk'])
    | int _ hk' => exact (match_arr_int _ _ _ _ w).mono fun e w' h => h.flat (by simp [Ds, hk, hk'])
    | str _ hk' => exact (match_arr_str _ _ _ _ w).mono fun e w' h => h.flat (by simp [Ds, hk, hk'])
    | arr _ hk' g' cap' xs' hg' hle' hcap' hc' hr' => exact absurd ⟨hk, hk'⟩ h7
    | obj _ hk' b0' n0' D' xs' hb0' hm' hn' hD' hkl' hr' => exact (match_arr_obj _ _ _ _ w).mono fun e w' h => h.flat (by simp [Ds, hk, hk'])
  | obj _ hk b0 n0 D xs hb0 hm hn hD hkl hr =>
    cases hy with
    | null _ hk' => exact (match_obj_null _ w).mono fun e w' h => h.flat (by simp [Ds, hk, hk'])
    | bool _ hk' => exact (match_obj_bool _ _ w).mono fun e w' h => h.flat (by simp [Ds, hk, hk'])
    | int _ hk' => exact (match_obj_int _ _ w).mono fun e w' h => h.flat (by simp [Ds, hk, hk'])
    | str _ hk' => exact (match_obj_str _ _ w).mono fun e w' h => h.flat (by simp [Ds, hk, hk'])
    | arr _ hk' g' cap' xs' hg' hle' hcap' hc' hr' => exact (match_obj_arr _ _ _ _ w).mono fun e w' h => h.flat (by simp [Ds, hk, hk'])
    | obj _ hk' b0' n0' D' xs' hb0' hm' hn' hD' hkl' hr' => exact absurd ⟨hk, hk'⟩ h8

set_option maxRecDepth 100000 in
set_option maxHeartbeats 4000000 in
theorem match_arr (n : Nat) (a b : V) (g g' cap cap' : Nat) (xs ys : Nat → Value) (w : World) (ha : a.l.length ≤ 150) (hb : b.l.length ≤ 150)
    (hx : ∀ j, j < a.l.length → w.cell? ⟨g, j, none⟩ = some (xs j)) (hy : ∀ j, j < b.l.length → w.cell? ⟨g', j, none⟩ = some (ys j))
    (ih : ∀ j (h1 : j < a.l.length) (h2 : j < b.l.length) (w' : World), Below w.heap.size w w' → Calls Try.prog 32 #[xs j, ys j] w' (Decides (Mf n a.l[j] b.l[j]) w')) :
    Calls Try.prog 32 #[.iface 52 (.slice (some ⟨g, 0, none⟩) a.l.length cap), .iface 52 (.slice (some ⟨g', 0, none⟩) b.l.length cap')] w
      (Decides (a.l.length = b.l.length ∧ ∀ i, i < a.l.length → Mf n (a.l.getD i nullV) (b.l.getD i nullV)) w) := by
  have HX := hid hx
  have HY := hid hy
  have IH := hid ih
  clear hx hy ih
  have tx4 := taa4 (.slice (some ⟨g, 0, none⟩) a.l.length cap); unfold Ta at tx4
  have tx3 := taa3 (.slice (some ⟨g, 0, none⟩) a.l.length cap); unfold Ta at tx3
  have tx74 := taa74 (.slice (some ⟨g, 0, none⟩) a.l.length cap); unfold Ta at tx74
  have tx75 := taa75 (.slice (some ⟨g, 0, none⟩) a.l.length cap); unfold Ta at tx75
  have tx21 := taa21 (.slice (some ⟨g, 0, none⟩) a.l.length cap); unfold Ta at tx21
  have tx2 := taa2 (.slice (some ⟨g, 0, none⟩) a.l.length cap); unfold Ta at tx2
  have tx76 := taa76 (.slice (some ⟨g, 0, none⟩) a.l.length cap); unfold Ta at tx76
  have tx5 := taa5 (.slice (some ⟨g, 0, none⟩) a.l.length cap); unfold Ta at tx5
  have tx77 := taa77 (.slice (some ⟨g, 0, none⟩) a.l.length cap); unfold Ta at tx77
  have tx78 := taa78 (.slice (some ⟨g, 0, none⟩) a.l.length cap); unfold Ta at tx78
  have tx79 := taa79 (.slice (some ⟨g, 0, none⟩) a.l.length cap); unfold Ta at tx79
  have tx82 := taa82 (.slice (some ⟨g, 0, none⟩) a.l.length cap); unfold Ta at tx82
  have tx22 := taa22 (.slice (some ⟨g, 0, none⟩) a.l.length cap); unfold Ta at tx22
  have tx9 := taa9 (.slice (some ⟨g, 0, none⟩) a.l.length cap); unfold Ta at tx9
  have tx52 := taa52 (.slice (some ⟨g, 0, none⟩) a.l.length cap); unfold Ta at tx52
  have ty52 := taa52 (.slice (some ⟨g', 0, none⟩) b.l.length cap'); unfold Ta at ty52
  by_cases he : a.l.length = b.l.length
  · have t1 : ((a.l.length : Int) == (b.l.length : Int)) = true := by rw [beq_iff_eq]; omega
    have HE := hid he
    clear he
    go_enter Try.func32, Try.ntmps32
    go_wp2_with (fail)
    go_loopw [165] (fun k wr => ∃ i : Nat, k = .int .i64 (i : Int) ∧ i ≤ a.l.length ∧ Hid (∀ j, j < i → Mf n (a.l.getD j nullV) (b.l.getD j nullV)) ∧ Hid (Below w.heap.size w wr)) (fun k _ => a.l.length - (intOf k).toNat)
    case atStart => exact ⟨0, rfl, Nat.zero_le _, hid (fun j hj => absurd hj (by omega)), hid (Below.refl _ _)⟩
    case round =>
      obtain ⟨i, rfl, hi, OK, BW⟩ := hrel
      by_cases hlt : i < a.l.length
      · have hlt' : i < b.l.length := by have := HE.out; omega
        have cx := (BW.out.cell (p := ⟨g, i, none⟩) (World.block_lt_of_cell? w _ (HX.out i hlt))).trans (HX.out i hlt)
        have cy := (BW.out.cell (p := ⟨g', i, none⟩) (World.block_lt_of_cell? w _ (HY.out i hlt'))).trans (HY.out i hlt')
        have eq1 := hid (getD_len a.l nullV i hlt)
        have eq2 := hid (getD_len b.l nullV i hlt')
        go_wp2_with (go_at_call 32; refine (IH.out i hlt hlt' wr BW.out).mono ?_; rintro e w2 ⟨r, rfl, hr, hb2⟩; have HR := hid hr; have B2 := hid hb2; clear hr hb2; cases r)
        · go_ret
          refine ⟨false, rfl, ⟨fun h => (by cases h), fun h => ?_⟩, BW.out.trans (B2.out.mono BW.out.size)⟩
          have h1 := h.2 i hlt
          rw [eq1.out, eq2.out] at h1
          exact HR.out.2 h1
        · go_roundw
          case rel =>
            refine ⟨i + 1, by simp, by omega, hid (fun j hj => ?_), hid (BW.out.trans (B2.out.mono BW.out.size))⟩
            by_cases e : j = i
            · subst e
              rw [eq1.out, eq2.out]
              first | exact HR.out.1 rfl | exact HR.out.1 trivial
            · exact OK.out j (by omega)
          case measure => simp only [intOf]; omega
      · go_wp2_with (fail)
        go_ret
        exact ⟨true, rfl, ⟨fun _ => ⟨HE.out, fun j hj => OK.out j (by omega)⟩, fun _ => rfl⟩, BW.out⟩
  · have t1 : ((a.l.length : Int) == (b.l.length : Int)) = false := by rw [beq_eq_false_iff_ne]; omega
    have HE := hid he
    clear he
    go_enter Try.func32, Try.ntmps32
    go_wp2_with (fail)
    go_ret
    exact ⟨false, rfl, ⟨fun h => (by cases h), fun h => absurd h.1 HE.out⟩, Below.refl _ _⟩

set_option maxRecDepth 100000 in
set_option maxHeartbeats 4000000 in
theorem match_obj (n : Nat) (a b : V) (m1 m2 n1 n2 : Nat) (D1 D2 : DataW Value) (xs ys : Nat → Value) (w : World) (hm1 : w.ownsMap Try.prog 9 heldElem m1 n1 D1) (hm2 : w.ownsMap Try.prog 9 heldElem m2 n2 D2)
    (hD1 : MapIs D1 a.keys xs)
    (ih : ∀ k, k ∈ a.keys → ∀ x y, D1.atKey (keyLit k) (.held .nilIface) = .held x → D2.atKey (keyLit k) (.held .nilIface) = .held y → ∀ (w' : World), Below w.heap.size w w' → Calls Try.prog 32 #[x, y] w' (Decides (Mf n (a.look k) (b.look k)) w')) :
    Calls Try.prog 32 #[.iface 72 (.map (some m1)), .iface 72 (.map (some m2))] w (Decides (∀ k, k ∈ a.keys → Mf n (a.look k) (b.look k)) w) := by
  have H1 := hid hm1
  have H2 := hid hm2
  have L1 := hid hm1.lt
  have P1 := hid hD1
  have IH := hid ih
  clear hm1 hm2 hD1 ih
  have tx4 := tao4 (.map (some m1)); unfold Ta at tx4
  have tx3 := tao3 (.map (some m1)); unfold Ta at tx3
  have tx74 := tao74 (.map (some m1)); unfold Ta at tx74
  have tx75 := tao75 (.map (some m1)); unfold Ta at tx75
  have tx21 := tao21 (.map (some m1)); unfold Ta at tx21
  have tx2 := tao2 (.map (some m1)); unfold Ta at tx2
  have tx76 := tao76 (.map (some m1)); unfold Ta at tx76
  have tx5 := tao5 (.map (some m1)); unfold Ta at tx5
  have tx77 := tao77 (.map (some m1)); unfold Ta at tx77
  have tx78 := tao78 (.map (some m1)); unfold Ta at tx78
  have tx79 := tao79 (.map (some m1)); unfold Ta at tx79
  have tx82 := tao82 (.map (some m1)); unfold Ta at tx82
  have tx22 := tao22 (.map (some m1)); unfold Ta at tx22
  have tx9 := tao9 (.map (some m1)); unfold Ta at tx9
  have tx52 := tao52 (.map (some m1)); unfold Ta at tx52
  have tx72 := tao72 (.map (some m1)); unfold Ta at tx72
  have ty72 := tao72 (.map (some m2)); unfold Ta at ty72
  go_enter Try.func32, Try.ntmps32
  go_wp2_with (first
    | (at_range; go_loud (refine wpList_range_own _ rfl _ 72 rfl 9 20 K9 Try.underlying72 heldElem m1 n1 D1 rfl H1.out ?_); intro w0 hrg0 hg0 hs0))
  go_frame
  have G0 := hid hrg0
  have B0 : Hid (Below w.heap.size w w0) := hid ((Below.refl _ _).grown hg0 (Nat.le_refl _) (fun j hj => by cases hj))
  have S0 : Hid (∀ k, k ∈ a.keys → has D1 (keyLit k) = false → Mf n (a.look k) (b.look k)) := hid (fun k hk h => by rw [(P1.out.has_iff k).2 hk] at h; cases h)
  clear hrg0 hg0 hs0
  go_loopw [30] (fun _ wr => ∃ (left : Lit → Bool) (cnt : Nat), Hid (wr.ranges Try.prog 9 heldElem m1 w.heap.size n1 D1 left cnt) ∧ Hid (∀ k, k ∈ a.keys → left (keyLit k) = false → Mf n (a.look k) (b.look k)) ∧ Hid (Below w.heap.size w wr)) (fun _ wr => wr.rangeLeft m1 w.heap.size)
  case atStart => exact ⟨_, _, G0, S0, B0⟩
  case round =>
    clear G0 S0 B0
    obtain ⟨left, cnt, RG, OK, BW⟩ := hrel
    go_wp2_with (first
      | (at_next; go_loud (refine wpList_next_ranges _ rfl _ rfl 9 K9 heldElem Value.string id (fun key kl h => by obtain ⟨x, h1, _⟩ := keyOf9_inv h; exact ⟨x, h1⟩) (fun v y _ => ⟨v, rfl⟩) m1 w.heap.size n1 D1 left cnt rfl RG.out ?_ ?_)))
    · intro hc0 hl0
      have HF := hid (fun k hk => OK.out k hk (hl0 _))
      clear hl0 hc0
      go_wp2_with (fail)
      go_ret
      exact ⟨true, rfl, ⟨fun _ => HF.out, fun _ => rfl⟩, BW.out⟩
    · intro x c kl y1 y2 w1 cnt1 hkey hlk hv hat hrg1 hlt hg1 hs1 hen
      obtain ⟨x', hx', rfl⟩ := keyOf9_inv hkey
      cases hx'
      have HXK : Hid (x ∈ a.keys) := hid ((P1.out.has_iff x).1 (has_true_of_atKey hat))
      have B1 : Hid (Below w.heap.size w w1) := hid (BW.out.grown hg1 BW.out.size (fun j hj => by cases hj; exact Nat.le_refl _))
      obtain ⟨v2, p2, hl2, he2⟩ := (ownsMap_below H2.out B1.out).lookup K9 Try.underlying72 (z := .nilIface) (by kernel_rfl) (zd := .held .nilIface) (zp := []) rfl hkey
      have E1 : Hid (D1.atKey (keyLit x) (.held .nilIface) = .held c) := hid (by have h1 := hat (.held .nilIface); simp only [heldElem, Option.some.injEq, Prod.mk.injEq] at hv; rw [h1]; first | exact hv.1.symm | exact hv.symm | simp_all)
      have E2 : Hid (D2.atKey (keyLit x) (.held .nilIface) = .held v2) := hid (by simp only [heldElem, Option.some.injEq, Prod.mk.injEq] at he2; exact he2.1.symm)
      have HR1 := hid hrg1
      have HC := hid hlt
      have IHx := hid (IH.out x HXK.out c v2 E1.out E2.out w1 B1.out)
      clear hkey hrg1 hg1 hlt hlk hv hat hs1 he2
      go_wp2_with (go_at_call 32; go_loud (refine IHx.out.mono ?_); rintro e w2 ⟨r, rfl, hr, hb2⟩; have HR := hid hr; have B2 := hid hb2; clear hr hb2; cases r)
      · go_ret
        exact ⟨false, rfl, ⟨fun h => (by cases h), fun h => HR.out.2 (h x HXK.out)⟩, B1.out.trans (B2.out.mono B1.out.size)⟩
      · have rg2 : w2.ranges Try.prog 9 heldElem m1 w.heap.size n1 D1 _ cnt1 := ranges_move HR1.out (B2.out.block _ HR1.out.owns.lt) (B2.out.block _ HR1.out.lt)
        go_roundw
        case rel =>
          refine ⟨_, cnt1, hid rg2, hid (fun k hk hl => ?_), hid (B1.out.trans (B2.out.mono B1.out.size))⟩
          rcases (struck_iff left x k).1 hl with h | h
          · exact OK.out k hk h
          · subst h
            first | exact HR.out.1 rfl | exact HR.out.1 trivial
        case measure => rw [rg2.left_eq, RG.out.left_eq]; exact HC.out

theorem match_any (n : Nat) : ∀ {B B' : Nat} (a b : V) (x y : Value) (w : World), n ≤ 150 → a.wt ≤ n → b.wt ≤ n → a.wh → b.wh → PRep w B x a → PRep w B' y b → Calls Try.prog 32 #[x, y] w (Decides (Mf n a b) w) := by
  induction n with
  | zero =>
    intro B B' a b x y w _ h
    have := a.wt_pos
    omega
  | succ n ih =>
    intro B B' a b x y w hn h1 h2 wa wb hx hy
    have ea := a.wt_eq
    have eb := b.wt_eq
    have la := wtl_len a.l
    have lb := wtl_len b.l
    by_cases h7 : a.k = 7 ∧ b.k = 7
    · rw [Mf_arr h7]
      cases hx with
      | arr _ hk g cap xs hg hle hcap hc hr =>
        cases hy with
        | arr _ hk' g' cap' ys hg' hle' hcap' hc' hr' =>
          have ka := wtl_mem a.l
          have kb := wtl_mem b.l
          have va : ∀ j (h1 : j < a.l.length), a.l[j].wh := fun j hj => whl_mem _ (((V.wh_eq a).1 wa).2.2.1 (.inl h7.1)) _ (List.getElem_mem hj)
          have vb : ∀ j (h1 : j < b.l.length), b.l[j].wh := fun j hj => whl_mem _ (((V.wh_eq b).1 wb).2.2.1 (.inl h7.2)) _ (List.getElem_mem hj)
          refine match_arr n a b g g' cap cap' xs ys w (by omega) (by omega) hc hc' ?_
          intro j hj hj' w' hb
          have q1 := ka _ (List.getElem_mem hj)
          have q2 := kb _ (List.getElem_mem hj')
          exact ih _ _ _ _ w' (by omega) (by omega) (by omega) (va j hj) (vb j hj') ((hr j hj).kept (Above.of_below hb)) ((hr' j hj').kept (Above.of_below hb))
        | _ => omega
      | _ => omega
    · by_cases h8 : a.k = 8 ∧ b.k = 8
      · rw [Mf_obj h8]
        have na := ((V.wh_eq a).1 wa).2.2.2 h8.1
        have nb := ((V.wh_eq b).1 wb).2.2.2 h8.2
        cases hx with
        | obj _ hk b0 n0 D xs hb0 hm hn0 hD hkl hr =>
          cases hy with
          | obj _ hk' b0' n0' D' ys hb0' hm' hn0' hD' hkl' hr' =>
            refine match_obj n a b b0 b0' n0 n0' D D' xs ys w hm hm' hD ?_
            intro k hkb u v hu hv w' hb
            have two : 1 ≤ n := by have := keys_two hkb; omega
            have q1 := look_wt hkl k n two h1
            have q2 := look_wt hkl' k n two h2
            exact ih _ _ _ _ w' (by omega) q1 q2 (look_wh wa (.inr h8.1) k) (look_wh wb (.inr h8.2) k) ((look_rep hD hkl na.2 hr hu).kept (Above.of_below hb)) ((look_rep hD' hkl' nb.2 hr' hv).kept (Above.of_below hb))
          | _ => omega
        | _ => omega
      · rw [Mf_flat _ h7 h8]
        exact match_flat a b x y w hx hy wa wb h7 h8
end Go.Proofs.Ytclnpjelgdoloaa
