/- laws.cleanValue: where it says yes, what is no array and no object has no values. -/
import Derived.Test.YtonnmongipaheaaGreatDoorWeight
import Derived.BigGuardPart
namespace Go.Proofs.YtonnmongipaheaaGreatDoor
open Go.RowKit
set_option linter.unusedVariables false

mutual
def V.cl : V → Prop
  | .mk k _ _ _ l _ => (k = 7 ∨ k = 8 → V.cll l) ∧ (¬ (k = 7 ∨ k = 8) → l = [])
def V.cll : List V → Prop
  | [] => True
  | x :: r => x.cl ∧ V.cll r
end

theorem cll_snoc (l : List V) (x : V) : V.cll (l ++ [x]) ↔ V.cll l ∧ x.cl := by
  induction l with
  | nil => simp [V.cll]
  | cons a l ih => simp only [List.cons_append, V.cll, ih, and_assoc]

theorem V.cl_eq (t : V) : t.cl ↔ ((t.k = 7 ∨ t.k = 8 → V.cll t.l) ∧ (¬ (t.k = 7 ∨ t.k = 8) → t.l = [])) := by
  cases t; simp only [V.cl, V.k, V.l]

/-- Where the bool is true, p. -/
def Imp (b : Bool) (p : Prop) : Prop := b = true → p

def SaysPost (p : Prop) (w : World) (e : Ending) (w' : World) : Prop := ∃ b : Bool, e = .returned (.bool b) ∧ Imp b p ∧ Below w.heap.size w w'

set_option maxRecDepth 100000 in
set_option maxHeartbeats 1000000 in
theorem clean1 (t : V) (v : Value) (w : World) (hrep : Rep w v t) (hk : t.k = 1) : Calls Tryz.prog 15 #[v] w (SaysPost t.cl w) := by
  obtain ⟨la, ka, lc, kc, cs, ho⟩ := hrep.open_
  obtain rfl := ho.eq
  have hcl : Hid (t.l.length = 0 → t.cl) := hid fun h => by
    rw [V.cl_eq]
    exact ⟨fun h7 => by omega, fun _ => List.eq_nil_of_length_eq_zero h⟩
  have s4 := ho.hl
  have s5 := ho.hlc
  have s6 := ho.hkl
  have s7 := ho.hkc
  rw [hk]
  clear ho hrep hk
  by_cases hl : t.l.length = 0
  · have hC := hid (hcl.out hl)
    have hl' : (((t.l.length : Nat) : Int) == 0) = true := by rw [beq_iff_eq]; omega
    clear hcl hl
    go_enter Tryz.func15, Tryz.ntmps15
    go_wp2_with (first | (go_at_call 26; refine (noFloat_any _ _).mono ?_; rintro e w' ⟨b, rfl, rfl⟩; cases b))
    all_goals go_ret
    all_goals exact ⟨_, rfl, fun _ => hC.out, (Below.refl _ w).alloc (Nat.le_refl _) _⟩
  · have hl' : (((t.l.length : Nat) : Int) == 0) = false := by rw [beq_eq_false_iff_ne]; omega
    clear hcl hl
    go_enter Tryz.func15, Tryz.ntmps15
    go_wp2_with (first | (go_at_call 26; refine (noFloat_any _ _).mono ?_; rintro e w' ⟨b, rfl, rfl⟩; cases b))
    all_goals go_ret
    all_goals exact ⟨false, rfl, (fun h => by cases h), (Below.refl _ w).alloc (Nat.le_refl _) _⟩
set_option maxRecDepth 100000 in
set_option maxHeartbeats 1000000 in
theorem clean2 (t : V) (v : Value) (w : World) (hrep : Rep w v t) (hk : t.k = 2) : Calls Tryz.prog 15 #[v] w (SaysPost t.cl w) := by
  obtain ⟨la, ka, lc, kc, cs, ho⟩ := hrep.open_
  obtain rfl := ho.eq
  have hcl : Hid (t.l.length = 0 → t.cl) := hid fun h => by
    rw [V.cl_eq]
    exact ⟨fun h7 => by omega, fun _ => List.eq_nil_of_length_eq_zero h⟩
  have s4 := ho.hl
  have s5 := ho.hlc
  have s6 := ho.hkl
  have s7 := ho.hkc
  rw [hk]
  clear ho hrep hk
  by_cases hl : t.l.length = 0
  · have hC := hid (hcl.out hl)
    have hl' : (((t.l.length : Nat) : Int) == 0) = true := by rw [beq_iff_eq]; omega
    clear hcl hl
    go_enter Tryz.func15, Tryz.ntmps15
    go_wp2_with (first | (go_at_call 26; refine (noFloat_any _ _).mono ?_; rintro e w' ⟨b, rfl, rfl⟩; cases b))
    all_goals go_ret
    all_goals exact ⟨_, rfl, fun _ => hC.out, (Below.refl _ w).alloc (Nat.le_refl _) _⟩
  · have hl' : (((t.l.length : Nat) : Int) == 0) = false := by rw [beq_eq_false_iff_ne]; omega
    clear hcl hl
    go_enter Tryz.func15, Tryz.ntmps15
    go_wp2_with (first | (go_at_call 26; refine (noFloat_any _ _).mono ?_; rintro e w' ⟨b, rfl, rfl⟩; cases b))
    all_goals go_ret
    all_goals exact ⟨false, rfl, (fun h => by cases h), (Below.refl _ w).alloc (Nat.le_refl _) _⟩
set_option maxRecDepth 100000 in
set_option maxHeartbeats 1000000 in
theorem clean3 (t : V) (v : Value) (w : World) (hrep : Rep w v t) (hk : t.k = 3) : Calls Tryz.prog 15 #[v] w (SaysPost t.cl w) := by
  obtain ⟨la, ka, lc, kc, cs, ho⟩ := hrep.open_
  obtain rfl := ho.eq
  have hcl : Hid (t.l.length = 0 → t.cl) := hid fun h => by
    rw [V.cl_eq]
    exact ⟨fun h7 => by omega, fun _ => List.eq_nil_of_length_eq_zero h⟩
  have s4 := ho.hl
  have s5 := ho.hlc
  have s6 := ho.hkl
  have s7 := ho.hkc
  rw [hk]
  clear ho hrep hk
  by_cases hl : t.l.length = 0
  · have hC := hid (hcl.out hl)
    have hl' : (((t.l.length : Nat) : Int) == 0) = true := by rw [beq_iff_eq]; omega
    clear hcl hl
    go_enter Tryz.func15, Tryz.ntmps15
    go_wp2_with (first | (go_at_call 26; refine (noFloat_any _ _).mono ?_; rintro e w' ⟨b, rfl, rfl⟩; cases b))
    all_goals go_ret
    all_goals exact ⟨_, rfl, fun _ => hC.out, (Below.refl _ w).alloc (Nat.le_refl _) _⟩
  · have hl' : (((t.l.length : Nat) : Int) == 0) = false := by rw [beq_eq_false_iff_ne]; omega
    clear hcl hl
    go_enter Tryz.func15, Tryz.ntmps15
    go_wp2_with (first | (go_at_call 26; refine (noFloat_any _ _).mono ?_; rintro e w' ⟨b, rfl, rfl⟩; cases b))
    all_goals go_ret
    all_goals exact ⟨false, rfl, (fun h => by cases h), (Below.refl _ w).alloc (Nat.le_refl _) _⟩
set_option maxRecDepth 100000 in
set_option maxHeartbeats 1000000 in
theorem clean4 (t : V) (v : Value) (w : World) (hrep : Rep w v t) (hk : t.k = 4) : Calls Tryz.prog 15 #[v] w (SaysPost t.cl w) := by
  obtain ⟨la, ka, lc, kc, cs, ho⟩ := hrep.open_
  obtain rfl := ho.eq
  have hcl : Hid (t.l.length = 0 → t.cl) := hid fun h => by
    rw [V.cl_eq]
    exact ⟨fun h7 => by omega, fun _ => List.eq_nil_of_length_eq_zero h⟩
  have s4 := ho.hl
  have s5 := ho.hlc
  have s6 := ho.hkl
  have s7 := ho.hkc
  rw [hk]
  clear ho hrep hk
  by_cases hl : t.l.length = 0
  · have hC := hid (hcl.out hl)
    have hl' : (((t.l.length : Nat) : Int) == 0) = true := by rw [beq_iff_eq]; omega
    clear hcl hl
    go_enter Tryz.func15, Tryz.ntmps15
    go_wp2_with (first | (go_at_call 26; refine (noFloat_any _ _).mono ?_; rintro e w' ⟨b, rfl, rfl⟩; cases b))
    all_goals go_ret
    all_goals exact ⟨_, rfl, fun _ => hC.out, (Below.refl _ w).alloc (Nat.le_refl _) _⟩
  · have hl' : (((t.l.length : Nat) : Int) == 0) = false := by rw [beq_eq_false_iff_ne]; omega
    clear hcl hl
    go_enter Tryz.func15, Tryz.ntmps15
    go_wp2_with (first | (go_at_call 26; refine (noFloat_any _ _).mono ?_; rintro e w' ⟨b, rfl, rfl⟩; cases b))
    all_goals go_ret
    all_goals exact ⟨false, rfl, (fun h => by cases h), (Below.refl _ w).alloc (Nat.le_refl _) _⟩
set_option maxRecDepth 100000 in
set_option maxHeartbeats 1000000 in
theorem clean5 (t : V) (v : Value) (w : World) (hrep : Rep w v t) (hk : t.k = 5) : Calls Tryz.prog 15 #[v] w (SaysPost t.cl w) := by
  obtain ⟨la, ka, lc, kc, cs, ho⟩ := hrep.open_
  obtain rfl := ho.eq
  have hcl : Hid (t.l.length = 0 → t.cl) := hid fun h => by
    rw [V.cl_eq]
    exact ⟨fun h7 => by omega, fun _ => List.eq_nil_of_length_eq_zero h⟩
  have s4 := ho.hl
  have s5 := ho.hlc
  have s6 := ho.hkl
  have s7 := ho.hkc
  rw [hk]
  clear ho hrep hk
  by_cases hl : t.l.length = 0
  · have hC := hid (hcl.out hl)
    have hl' : (((t.l.length : Nat) : Int) == 0) = true := by rw [beq_iff_eq]; omega
    clear hcl hl
    go_enter Tryz.func15, Tryz.ntmps15
    go_wp2_with (first | (go_at_call 26; refine (noFloat_any _ _).mono ?_; rintro e w' ⟨b, rfl, rfl⟩; cases b))
    all_goals go_ret
    all_goals exact ⟨_, rfl, fun _ => hC.out, (Below.refl _ w).alloc (Nat.le_refl _) _⟩
  · have hl' : (((t.l.length : Nat) : Int) == 0) = false := by rw [beq_eq_false_iff_ne]; omega
    clear hcl hl
    go_enter Tryz.func15, Tryz.ntmps15
    go_wp2_with (first | (go_at_call 26; refine (noFloat_any _ _).mono ?_; rintro e w' ⟨b, rfl, rfl⟩; cases b))
    all_goals go_ret
    all_goals exact ⟨false, rfl, (fun h => by cases h), (Below.refl _ w).alloc (Nat.le_refl _) _⟩
set_option maxRecDepth 100000 in
set_option maxHeartbeats 1000000 in
theorem clean6 (t : V) (v : Value) (w : World) (hrep : Rep w v t) (hk : t.k = 6) : Calls Tryz.prog 15 #[v] w (SaysPost t.cl w) := by
  obtain ⟨la, ka, lc, kc, cs, ho⟩ := hrep.open_
  obtain rfl := ho.eq
  have hcl : Hid (t.l.length = 0 → t.cl) := hid fun h => by
    rw [V.cl_eq]
    exact ⟨fun h7 => by omega, fun _ => List.eq_nil_of_length_eq_zero h⟩
  have s4 := ho.hl
  have s5 := ho.hlc
  have s6 := ho.hkl
  have s7 := ho.hkc
  rw [hk]
  clear ho hrep hk
  by_cases hl : t.l.length = 0
  · have hC := hid (hcl.out hl)
    have hl' : (((t.l.length : Nat) : Int) == 0) = true := by rw [beq_iff_eq]; omega
    clear hcl hl
    go_enter Tryz.func15, Tryz.ntmps15
    go_wp2_with (first | (go_at_call 26; refine (noFloat_any _ _).mono ?_; rintro e w' ⟨b, rfl, rfl⟩; cases b))
    all_goals go_ret
    all_goals exact ⟨_, rfl, fun _ => hC.out, (Below.refl _ w).alloc (Nat.le_refl _) _⟩
  · have hl' : (((t.l.length : Nat) : Int) == 0) = false := by rw [beq_eq_false_iff_ne]; omega
    clear hcl hl
    go_enter Tryz.func15, Tryz.ntmps15
    go_wp2_with (first | (go_at_call 26; refine (noFloat_any _ _).mono ?_; rintro e w' ⟨b, rfl, rfl⟩; cases b))
    all_goals go_ret
    all_goals exact ⟨false, rfl, (fun h => by cases h), (Below.refl _ w).alloc (Nat.le_refl _) _⟩

set_option maxRecDepth 100000 in
set_option maxHeartbeats 1000000 in
theorem clean_other (t : V) (v : Value) (w : World) (hrep : Rep w v t) (h1 : ((t.k == 1) = false)) (h2 : ((t.k == 2) = false)) (h3 : ((t.k == 3) = false)) (h4 : ((t.k == 4) = false)) (h5 : ((t.k == 5) = false)) (h6 : ((t.k == 6) = false)) (h7 : ((t.k == 7) = false)) (h8 : ((t.k == 8) = false)) :
    Calls Tryz.prog 15 #[v] w (SaysPost t.cl w) := by
  obtain ⟨la, ka, lc, kc, cs, ho⟩ := hrep.open_
  obtain rfl := ho.eq
  clear ho hrep
  go_enter Tryz.func15, Tryz.ntmps15
  go_wp2_with (fail)
  go_ret
  exact ⟨false, rfl, (fun h => by cases h), (Below.refl _ w).alloc (Nat.le_refl _) _⟩

set_option maxRecDepth 100000 in
set_option maxHeartbeats 2000000 in
theorem clean_any (n : Nat) : ∀ (t : V) (v : Value) (w : World), SizeOf.sizeOf t ≤ n → Rep w v t → Calls Tryz.prog 15 #[v] w (SaysPost t.cl w) := by
  induction n with
  | zero => intro t v w hn; cases t; simp at hn
  | succ n ih =>
    intro t v w hn hrep
    by_cases h1 : t.k = 1
    · exact clean1 t v w hrep h1
    by_cases h2 : t.k = 2
    · exact clean2 t v w hrep h2
    by_cases h3 : t.k = 3
    · exact clean3 t v w hrep h3
    by_cases h4 : t.k = 4
    · exact clean4 t v w hrep h4
    by_cases h5 : t.k = 5
    · exact clean5 t v w hrep h5
    by_cases h6 : t.k = 6
    · exact clean6 t v w hrep h6
    by_cases h78 : t.k = 7 ∨ t.k = 8
    case neg => exact clean_other t v w hrep (by simpa using h1) (by simpa using h2) (by simpa using h3) (by simpa using h4) (by simpa using h5) (by simpa using h6) (by simp; omega) (by simp; omega)
    have hcl : Hid (V.cll t.l → t.cl) := hid fun h => by rw [V.cl_eq]; exact ⟨fun _ => h, fun h => absurd h78 h⟩
    clear h1 h2 h3 h4 h5 h6
    obtain ⟨la, ka, lc, kc, cs, ho⟩ := hrep.open_
    obtain rfl := ho.eq
    have s4 := ho.hl
    have s5 := ho.hlc
    have s6 := ho.hkl
    have s7 := ho.hkc
    have HO := hid ho
    clear ho hrep
    rcases h78 with hk | hk
    · rw [hk] at HO ⊢
      clear hk
      go_enter Tryz.func15, Tryz.ntmps15
      go_wp2_with (fail)
      go_loopw [3] (fun k wr => ∃ jj : Nat, k = .int .i64 jj ∧ jj ≤ t.l.length ∧ Hid (V.cll (t.l.take jj)) ∧
          Below (w.heap.size + 1) (w.alloc (.cells #[.int .i64 7, .int .i64 t.n, .float .f64 t.f, .string t.s, .slice la t.l.length lc, .slice ka t.keys.length kc] 26)) wr) (fun k _ => t.l.length - (intOf k).toNat)
      case atStart => exact ⟨0, rfl, by omega, hid (by simp [V.cll]), Below.refl _ _⟩
      case round =>
        obtain ⟨jj, rfl, hjj, hno, hbel⟩ := hrel
        have cN : wr.cell? ⟨w.heap.size, 1, none⟩ = some (.int .i64 t.n) := box_cell hbel 1 _ rfl
        have cF : wr.cell? ⟨w.heap.size, 2, none⟩ = some (.float .f64 t.f) := box_cell hbel 2 _ rfl
        have cS : wr.cell? ⟨w.heap.size, 3, none⟩ = some (.string t.s) := box_cell hbel 3 _ rfl
        have cL : wr.cell? ⟨w.heap.size, 4, none⟩ = some (.slice la t.l.length lc) := box_cell hbel 4 _ rfl
        have cKs : wr.cell? ⟨w.heap.size, 5, none⟩ = some (.slice ka t.keys.length kc) := box_cell hbel 5 _ rfl
        have cK : wr.cell? ⟨w.heap.size, 0, none⟩ = some (.int .i64 7) := box_cell hbel 0 _ rfl
        have BW := hid (box_below hbel)
        have BE := hid hbel
        clear hbel
        by_cases hlt : jj < t.l.length
        · obtain ⟨b, o, rfl, hc⟩ := (HO.out.kept BW.out).hla jj hlt
          have HC := hid hc
          clear hc
          have hrp := hid ((HO.out.kept BW.out).hr jj hlt)
          go_wp2_with (first
            | (refine wpList_load26 rfl (.tmp 114) rfl b (o + jj * 6) rfl (cs jj) HC.out ?_)
            | (go_at_call 15; refine (ih t.l[jj] _ wr (by have := V.l_lt (t := t) (List.getElem_mem hlt); omega) hrp.out).mono ?_; rintro e w2 ⟨r, rfl, hr1, hb2⟩; have HR := hid hr1; have HB := hid hb2; clear hr1 hb2; cases r))
          · go_ret
            exact ⟨false, rfl, (fun h => by cases h), BW.out.trans (HB.out.mono BW.out.size)⟩
          · go_roundw
            case rel => exact ⟨jj + 1, by go_num, by omega, hid (by rw [take_succ_at _ _ hlt, cll_snoc]; exact ⟨hno.out, HR.out rfl⟩), box_trans BE.out HB.out⟩
            case measure => simp [intOf]; omega
        · have hC : Hid t.cl := hid (hcl.out (by
            have h2 : jj = t.l.length := by omega
            have h3 := hno.out
            rw [h2, List.take_length] at h3
            exact h3))
          clear hno
          go_wp2_with (first | (go_at_call 26; refine (noFloat_any _ _).mono ?_; rintro e w' ⟨b, rfl, rfl⟩; cases b))
          all_goals go_ret
          all_goals exact ⟨_, rfl, fun _ => hC.out, BW.out⟩
    · rw [hk] at HO ⊢
      clear hk
      go_enter Tryz.func15, Tryz.ntmps15
      go_wp2_with (fail)
      go_loopw [3] (fun k wr => ∃ jj : Nat, k = .int .i64 jj ∧ jj ≤ t.l.length ∧ Hid (V.cll (t.l.take jj)) ∧
          Below (w.heap.size + 1) (w.alloc (.cells #[.int .i64 8, .int .i64 t.n, .float .f64 t.f, .string t.s, .slice la t.l.length lc, .slice ka t.keys.length kc] 26)) wr) (fun k _ => t.l.length - (intOf k).toNat)
      case atStart => exact ⟨0, rfl, by omega, hid (by simp [V.cll]), Below.refl _ _⟩
      case round =>
        obtain ⟨jj, rfl, hjj, hno, hbel⟩ := hrel
        have cN : wr.cell? ⟨w.heap.size, 1, none⟩ = some (.int .i64 t.n) := box_cell hbel 1 _ rfl
        have cF : wr.cell? ⟨w.heap.size, 2, none⟩ = some (.float .f64 t.f) := box_cell hbel 2 _ rfl
        have cS : wr.cell? ⟨w.heap.size, 3, none⟩ = some (.string t.s) := box_cell hbel 3 _ rfl
        have cL : wr.cell? ⟨w.heap.size, 4, none⟩ = some (.slice la t.l.length lc) := box_cell hbel 4 _ rfl
        have cKs : wr.cell? ⟨w.heap.size, 5, none⟩ = some (.slice ka t.keys.length kc) := box_cell hbel 5 _ rfl
        have cK : wr.cell? ⟨w.heap.size, 0, none⟩ = some (.int .i64 8) := box_cell hbel 0 _ rfl
        have BW := hid (box_below hbel)
        have BE := hid hbel
        clear hbel
        by_cases hlt : jj < t.l.length
        · obtain ⟨b, o, rfl, hc⟩ := (HO.out.kept BW.out).hla jj hlt
          have HC := hid hc
          clear hc
          have hrp := hid ((HO.out.kept BW.out).hr jj hlt)
          go_wp2_with (first
            | (refine wpList_load26 rfl (.tmp 114) rfl b (o + jj * 6) rfl (cs jj) HC.out ?_)
            | (go_at_call 15; refine (ih t.l[jj] _ wr (by have := V.l_lt (t := t) (List.getElem_mem hlt); omega) hrp.out).mono ?_; rintro e w2 ⟨r, rfl, hr1, hb2⟩; have HR := hid hr1; have HB := hid hb2; clear hr1 hb2; cases r))
          · go_ret
            exact ⟨false, rfl, (fun h => by cases h), BW.out.trans (HB.out.mono BW.out.size)⟩
          · go_roundw
            case rel => exact ⟨jj + 1, by go_num, by omega, hid (by rw [take_succ_at _ _ hlt, cll_snoc]; exact ⟨hno.out, HR.out rfl⟩), box_trans BE.out HB.out⟩
            case measure => simp [intOf]; omega
        · have hC : Hid t.cl := hid (hcl.out (by
            have h2 : jj = t.l.length := by omega
            have h3 := hno.out
            rw [h2, List.take_length] at h3
            exact h3))
          clear hno
          go_wp2_with (first | (go_at_call 26; refine (noFloat_any _ _).mono ?_; rintro e w' ⟨b, rfl, rfl⟩; cases b))
          all_goals go_ret
          all_goals exact ⟨_, rfl, fun _ => hC.out, BW.out⟩
end Go.Proofs.YtonnmongipaheaaGreatDoor
