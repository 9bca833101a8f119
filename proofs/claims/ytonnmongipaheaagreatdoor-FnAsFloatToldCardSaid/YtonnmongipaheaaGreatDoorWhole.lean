/- laws.whole: where it says yes, the tree is a value. -/
import Derived.Test.YtonnmongipaheaaGreatDoorApart
namespace Go.Proofs.YtonnmongipaheaaGreatDoor
open Go.RowKit
set_option linter.unusedVariables false

mutual
def V.wh : V → Prop
  | .mk k n f _ l ks => (1 ≤ k ∧ k ≤ 8) ∧ (k = 2 → n = 0 ∨ n = 1) ∧ (k = 7 ∨ k = 8 → V.whl l) ∧ (k = 8 → ks.length = l.length ∧ ks.Nodup) ∧ (k = 4 → nanB f = false ∧ infB f = false)
def V.whl : List V → Prop
  | [] => True
  | x :: r => x.wh ∧ V.whl r
end

theorem whl_snoc (l : List V) (x : V) : V.whl (l ++ [x]) ↔ V.whl l ∧ x.wh := by
  induction l with
  | nil => simp [V.whl]
  | cons a l ih => simp only [List.cons_append, V.whl, ih, and_assoc]

theorem V.wh_eq (t : V) : t.wh ↔ ((1 ≤ t.k ∧ t.k ≤ 8) ∧ (t.k = 2 → t.n = 0 ∨ t.n = 1) ∧ (t.k = 7 ∨ t.k = 8 → V.whl t.l) ∧ (t.k = 8 → t.keys.length = t.l.length ∧ t.keys.Nodup) ∧ (t.k = 4 → nanB t.f = false ∧ infB t.f = false)) := by
  cases t; simp only [V.wh, V.k, V.l, V.n, V.keys, V.f]

theorem wt_le_wtl (l : List V) (j : Nat) (hj : j < l.length) : (l[j]).wt ≤ V.wtl l := by
  induction l generalizing j with
  | nil => simp at hj
  | cons a l ih =>
    cases j with
    | zero => simp only [List.getElem_cons_zero, V.wtl]; omega
    | succ j =>
      have := ih j (by simpa using hj)
      simp only [List.getElem_cons_succ, V.wtl]
      omega

theorem wt_elem {t : V} (j : Nat) (hj : j < t.l.length) : (t.l[j]).wt ≤ t.wt := by
  have := wt_le_wtl t.l j hj
  rw [V.wt_eq t]
  omega

theorem keys_le_wt (t : V) : t.keys.length ≤ t.wt := by rw [V.wt_eq t]; omega

theorem length_le_wtl (l : List V) : l.length ≤ V.wtl l := by
  induction l with
  | nil => simp
  | cons a l ih =>
    simp only [List.length_cons, V.wtl]
    have : 1 ≤ a.wt := by rw [V.wt_eq]; omega
    omega

theorem l_le_wt (t : V) : t.l.length ≤ t.wt := by
  have := length_le_wtl t.l
  rw [V.wt_eq t]
  omega

theorem Open.toKeys {w : World} {v : Value} {t : V} {la ka : Option Addr} {lc kc : Nat} {cs : Nat → Nat → Value} (h : Open w v t la ka lc kc cs) : Keys w ka kc t.keys := ⟨h.hkl, h.hkc, h.hka⟩

set_option maxRecDepth 100000 in
set_option maxHeartbeats 1000000 in
theorem whole_scalar (t : V) (v : Value) (w : World) (hrep : Rep w v t) (hk : t.k = 1 ∨ t.k = 3 ∨ t.k = 5 ∨ t.k = 6) : Calls Tryz.prog 24 #[v] w (SaysPost t.wh w) := by
  obtain ⟨la, ka, lc, kc, cs, ho⟩ := hrep.open_
  obtain rfl := ho.eq
  have hW : Hid t.wh := hid (by
    rw [V.wh_eq]
    exact ⟨by omega, fun h => by omega, fun h => by omega, fun h => by omega, fun h => by omega⟩)
  clear ho hrep
  rcases hk with hk | hk | hk | hk
  all_goals
    rw [hk]
    clear hk
    go_enter Tryz.func24, Tryz.ntmps24
    go_wp2_with (fail)
    go_ret
    exact ⟨_, rfl, fun _ => hW.out, (Below.refl _ w).alloc (Nat.le_refl _) _⟩

set_option maxRecDepth 100000 in
set_option maxHeartbeats 1000000 in
theorem whole_float (t : V) (v : Value) (w : World) (hrep : Rep w v t) (hk : t.k = 4) : Calls Tryz.prog 24 #[v] w (SaysPost t.wh w) := by
  obtain ⟨la, ka, lc, kc, cs, ho⟩ := hrep.open_
  obtain rfl := ho.eq
  have hW : Hid (nanB t.f = false → infB t.f = false → t.wh) := hid (by
    intro h1 h2
    rw [V.wh_eq]
    exact ⟨by omega, fun h => by omega, fun h => by omega, fun h => by omega, fun _ => ⟨h1, h2⟩⟩)
  clear ho hrep
  rw [hk]
  clear hk
  rcases h1 : nanB t.f with _ | _
  · rcases h2 : infB t.f with _ | _
    all_goals
      have H1 := hid h1
      have H2 := hid h2
      clear h1 h2
      go_enter Tryz.func24, Tryz.ntmps24
      go_wp2_with (first
        | (go_at_call 31; refine (isNaN_any _ _).mono ?_; rw [H1.out]; rintro e w' ⟨rfl, rfl⟩)
        | (go_at_call 32; refine (isInf_any _ _).mono ?_; rw [H2.out]; rintro e w' ⟨rfl, rfl⟩))
      go_ret
    · exact ⟨_, rfl, fun _ => hW.out H1.out H2.out, (Below.refl _ w).alloc (Nat.le_refl _) _⟩
    · exact ⟨false, rfl, (fun h => by cases h), (Below.refl _ w).alloc (Nat.le_refl _) _⟩
  · have H1 := hid h1
    clear h1
    go_enter Tryz.func24, Tryz.ntmps24
    go_wp2_with (first
      | (go_at_call 31; refine (isNaN_any _ _).mono ?_; rw [H1.out]; rintro e w' ⟨rfl, rfl⟩))
    go_ret
    exact ⟨false, rfl, (fun h => by cases h), (Below.refl _ w).alloc (Nat.le_refl _) _⟩

set_option maxRecDepth 100000 in
set_option maxHeartbeats 1000000 in
theorem whole_bool (t : V) (v : Value) (w : World) (hrep : Rep w v t) (hk : t.k = 2) : Calls Tryz.prog 24 #[v] w (SaysPost t.wh w) := by
  obtain ⟨la, ka, lc, kc, cs, ho⟩ := hrep.open_
  obtain rfl := ho.eq
  have hW : Hid (t.n = 0 ∨ t.n = 1 → t.wh) := hid fun hn => by
    rw [V.wh_eq]
    exact ⟨by omega, fun h => hn, fun h => by omega, fun h => by omega, fun h => by omega⟩
  clear ho hrep
  rw [hk]
  clear hk
  rcases h0 : (t.n == 0) with _ | _
  · rcases h1 : (t.n == 1) with _ | _
    · go_enter Tryz.func24, Tryz.ntmps24
      go_wp2_with (fail)
      go_ret
      exact ⟨false, rfl, (fun h => by cases h), (Below.refl _ w).alloc (Nat.le_refl _) _⟩
    · have hC := hid (hW.out (.inr (by simpa using h1)))
      clear hW
      go_enter Tryz.func24, Tryz.ntmps24
      go_wp2_with (fail)
      go_ret
      exact ⟨_, rfl, fun _ => hC.out, (Below.refl _ w).alloc (Nat.le_refl _) _⟩
  · have hC := hid (hW.out (.inl (by simpa using h0)))
    clear hW
    go_enter Tryz.func24, Tryz.ntmps24
    go_wp2_with (fail)
    go_ret
    exact ⟨_, rfl, fun _ => hC.out, (Below.refl _ w).alloc (Nat.le_refl _) _⟩

set_option maxRecDepth 100000 in
set_option maxHeartbeats 1000000 in
theorem whole_other (t : V) (v : Value) (w : World) (hrep : Rep w v t) (h1 : ((t.k == 1) = false)) (h2 : ((t.k == 2) = false)) (h3 : ((t.k == 3) = false)) (h4 : ((t.k == 4) = false)) (h5 : ((t.k == 5) = false)) (h6 : ((t.k == 6) = false)) (h7 : ((t.k == 7) = false)) (h8 : ((t.k == 8) = false)) :
    Calls Tryz.prog 24 #[v] w (SaysPost t.wh w) := by
  obtain ⟨la, ka, lc, kc, cs, ho⟩ := hrep.open_
  obtain rfl := ho.eq
  clear ho hrep
  go_enter Tryz.func24, Tryz.ntmps24
  go_wp2_with (fail)
  go_ret
  exact ⟨false, rfl, (fun h => by cases h), (Below.refl _ w).alloc (Nat.le_refl _) _⟩

set_option maxRecDepth 100000 in
set_option maxHeartbeats 2000000 in
theorem whole_any (n : Nat) : ∀ (t : V) (v : Value) (w : World), SizeOf.sizeOf t ≤ n → Rep w v t → t.wt ≤ 1000 → Calls Tryz.prog 24 #[v] w (SaysPost t.wh w) := by
  induction n with
  | zero => intro t v w hn; cases t; simp at hn
  | succ n ih =>
    intro t v w hn hrep hwt
    by_cases h1 : t.k = 1 ∨ t.k = 3 ∨ t.k = 5 ∨ t.k = 6
    · exact whole_scalar t v w hrep h1
    by_cases h4 : t.k = 4
    · exact whole_float t v w hrep h4
    by_cases h2 : t.k = 2
    · exact whole_bool t v w hrep h2
    by_cases h78 : t.k = 7 ∨ t.k = 8
    case neg => exact whole_other t v w hrep (by simp; omega) (by simp; omega) (by simp; omega) (by simp; omega) (by simp; omega) (by simp; omega) (by simp; omega) (by simp; omega)
    have hwh : Hid (V.whl t.l → (t.k = 8 → t.keys.length = t.l.length ∧ t.keys.Nodup) → t.wh) := hid fun h h8 => by
      rw [V.wh_eq]
      exact ⟨by omega, fun h => by omega, fun _ => h, h8, fun h => by omega⟩
    clear h1 h2 h4
    obtain ⟨la, ka, lc, kc, cs, ho⟩ := hrep.open_
    obtain rfl := ho.eq
    have s4 := ho.hl
    have s5 := ho.hlc
    have s6 := ho.hkl
    have s7 := ho.hkc
    have HO := hid ho
    clear ho hrep
    rcases h78 with hk | hk
    · have hW : Hid (V.whl t.l → t.wh) := hid fun h => hwh.out h (fun h8 => by omega)
      clear hwh
      rw [hk] at HO ⊢
      clear hk
      go_enter Tryz.func24, Tryz.ntmps24
      go_wp2_with (fail)
      go_loopw [3] (fun k wr => ∃ jj : Nat, k = .int .i64 jj ∧ jj ≤ t.l.length ∧ Hid (V.whl (t.l.take jj)) ∧
          Below (w.heap.size + 1) (w.alloc (.cells #[.int .i64 7, .int .i64 t.n, .float .f64 t.f, .string t.s, .slice la t.l.length lc, .slice ka t.keys.length kc] 26)) wr) (fun k _ => t.l.length - (intOf k).toNat)
      case atStart => exact ⟨0, rfl, by omega, hid (by simp [V.whl]), Below.refl _ _⟩
      case round =>
        obtain ⟨jj, rfl, hjj, hno, hbel⟩ := hrel
        have cL : wr.cell? ⟨w.heap.size, 4, none⟩ = some (.slice la t.l.length lc) := box_cell hbel 4 _ rfl
        have cKs : wr.cell? ⟨w.heap.size, 5, none⟩ = some (.slice ka t.keys.length kc) := box_cell hbel 5 _ rfl
        have cK : wr.cell? ⟨w.heap.size, 0, none⟩ = some (.int .i64 7) := box_cell hbel 0 _ rfl
        have BW := hid (box_below hbel)
        have BE := hid hbel
        clear hbel
        by_cases hlt : jj < t.l.length
        · obtain ⟨b, o, rfl, hc⟩ := (HO.out.kept BW.out).hla jj hlt
          have HC := hid hc
          clear hc
          have hrp := hid ((HO.out.kept BW.out).hr jj hlt)
          go_wp2_with (first
            | (refine wpList_load26 rfl (.tmp 46) rfl b (o + jj * 6) rfl (cs jj) HC.out ?_)
            | (go_at_call 24; refine (ih t.l[jj] _ wr (by have := V.l_lt (t := t) (List.getElem_mem hlt); omega) hrp.out (by have := wt_elem (t := t) jj hlt; omega)).mono ?_; rintro e w2 ⟨r, rfl, hr1, hb2⟩; have HR := hid hr1; have HB := hid hb2; clear hr1 hb2; cases r))
          · go_ret
            exact ⟨false, rfl, (fun h => by cases h), BW.out.trans (HB.out.mono BW.out.size)⟩
          · go_roundw
            case rel => exact ⟨jj + 1, by go_num, by omega, hid (by rw [take_succ_at _ _ hlt, whl_snoc]; exact ⟨hno.out, HR.out rfl⟩), box_trans BE.out HB.out⟩
            case measure => simp [intOf]; omega
        · have hA : Hid (V.whl t.l) := hid (by
            have h2 : jj = t.l.length := by omega
            have h3 := hno.out
            rw [h2, List.take_length] at h3
            exact h3)
          clear hno
          have hC := hid (hW.out hA.out)
          go_wp2_with (fail)
          go_ret
          exact ⟨_, rfl, fun _ => hC.out, BW.out⟩
    · have hW : Hid (V.whl t.l → t.keys.length = t.l.length → t.keys.Nodup → t.wh) := hid fun h e1 e2 => hwh.out h (fun _ => ⟨e1, e2⟩)
      have hkw := keys_le_wt t
      clear hwh
      rw [hk] at HO ⊢
      clear hk
      go_enter Tryz.func24, Tryz.ntmps24
      go_wp2_with (fail)
      go_loopw [3] (fun k wr => ∃ jj : Nat, k = .int .i64 jj ∧ jj ≤ t.l.length ∧ Hid (V.whl (t.l.take jj)) ∧
          Below (w.heap.size + 1) (w.alloc (.cells #[.int .i64 8, .int .i64 t.n, .float .f64 t.f, .string t.s, .slice la t.l.length lc, .slice ka t.keys.length kc] 26)) wr) (fun k _ => t.l.length - (intOf k).toNat)
      case atStart => exact ⟨0, rfl, by omega, hid (by simp [V.whl]), Below.refl _ _⟩
      case round =>
        obtain ⟨jj, rfl, hjj, hno, hbel⟩ := hrel
        have cL : wr.cell? ⟨w.heap.size, 4, none⟩ = some (.slice la t.l.length lc) := box_cell hbel 4 _ rfl
        have cKs : wr.cell? ⟨w.heap.size, 5, none⟩ = some (.slice ka t.keys.length kc) := box_cell hbel 5 _ rfl
        have cK : wr.cell? ⟨w.heap.size, 0, none⟩ = some (.int .i64 8) := box_cell hbel 0 _ rfl
        have BW := hid (box_below hbel)
        have BE := hid hbel
        clear hbel
        by_cases hlt : jj < t.l.length
        · obtain ⟨b, o, rfl, hc⟩ := (HO.out.kept BW.out).hla jj hlt
          have HC := hid hc
          clear hc
          have hrp := hid ((HO.out.kept BW.out).hr jj hlt)
          go_wp2_with (first
            | (refine wpList_load26 rfl (.tmp 46) rfl b (o + jj * 6) rfl (cs jj) HC.out ?_)
            | (go_at_call 24; refine (ih t.l[jj] _ wr (by have := V.l_lt (t := t) (List.getElem_mem hlt); omega) hrp.out (by have := wt_elem (t := t) jj hlt; omega)).mono ?_; rintro e w2 ⟨r, rfl, hr1, hb2⟩; have HR := hid hr1; have HB := hid hb2; clear hr1 hb2; cases r))
          · go_ret
            exact ⟨false, rfl, (fun h => by cases h), BW.out.trans (HB.out.mono BW.out.size)⟩
          · go_roundw
            case rel => exact ⟨jj + 1, by go_num, by omega, hid (by rw [take_succ_at _ _ hlt, whl_snoc]; exact ⟨hno.out, HR.out rfl⟩), box_trans BE.out HB.out⟩
            case measure => simp [intOf]; omega
        · have hA : Hid (V.whl t.l) := hid (by
            have h2 : jj = t.l.length := by omega
            have h3 := hno.out
            rw [h2, List.take_length] at h3
            exact h3)
          clear hno
          by_cases hkl : t.keys.length = t.l.length
          · have hkb : (((t.keys.length : Nat) : Int) == ((t.l.length : Nat) : Int)) = true := by rw [beq_iff_eq]; omega
            have hKL := hid hkl
            clear hkl
            go_wp2_with (first | (go_at_call 33; refine (apart_any (HO.out.kept BW.out).toKeys (by omega)).mono ?_; rintro e w2 ⟨r, rfl, hr1, hb2⟩; have HR := hid hr1; have HB := hid hb2; clear hr1 hb2; cases r))
            · go_ret
              exact ⟨false, rfl, (fun h => by cases h), BW.out.trans (HB.out.mono BW.out.size)⟩
            · go_ret
              exact ⟨_, rfl, (fun _ => hW.out hA.out hKL.out (HR.out rfl)), BW.out.trans (HB.out.mono BW.out.size)⟩
          · have hkb : (((t.keys.length : Nat) : Int) == ((t.l.length : Nat) : Int)) = false := by rw [beq_eq_false_iff_ne]; omega
            clear hkl
            go_wp2_with (fail)
            go_ret
            exact ⟨false, rfl, (fun h => by cases h), BW.out⟩
end Go.Proofs.YtonnmongipaheaaGreatDoor
