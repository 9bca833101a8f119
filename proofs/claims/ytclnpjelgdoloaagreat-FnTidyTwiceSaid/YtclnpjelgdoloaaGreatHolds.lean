/- laws.holds: whether a value of some kind is in a tree, or is it. -/
import Derived.Test.YtclnpjelgdoloaaGreatWeight
namespace Go.Proofs.YtclnpjelgdoloaaGreat
open Go.RowKit
set_option linter.unusedVariables false

mutual
def V.has (c : Int) : V → Bool
  | .mk k _ _ _ l _ => k == c || ((k == 7 || k == 8) && V.hasl c l)
def V.hasl (c : Int) : List V → Bool
  | [] => false
  | x :: r => x.has c || V.hasl c r
end

theorem hasl_snoc (c : Int) (l : List V) (x : V) : V.hasl c (l ++ [x]) = (V.hasl c l || x.has c) := by
  induction l with
  | nil => simp [V.hasl]
  | cons a l ih => simp only [List.cons_append, V.hasl, ih, Bool.or_assoc]

theorem V.has_eq (c : Int) (t : V) : t.has c = (t.k == c || ((t.k == 7 || t.k == 8) && V.hasl c t.l)) := by
  cases t; simp [V.has, V.k, V.l]

theorem hasl_of_take (c : Int) (l : List V) (j : Nat) (hj : j < l.length) (h : (l[j]).has c = true) : V.hasl c l = true := by
  induction l generalizing j with
  | nil => simp at hj
  | cons a l ih =>
    cases j with
    | zero => simp at h; simp [V.hasl, h]
    | succ j =>
      have := ih j (by simpa using hj) (by simpa using h)
      simp [V.hasl, this]

theorem bret {b b' : Bool} (h : b = b') : Ending.returned (.bool b') = Ending.returned (.bool b) := by rw [h]

def BoolPost (b : Bool) (w : World) (e : Ending) (w' : World) : Prop := e = .returned (.bool b) ∧ Below w.heap.size w w'

/-- The block of a boxed value, told behind whatever wrote only above it. -/
theorem box_cell {w wr : World} {X : Array Value} (hbel : Below (w.heap.size + 1) (w.alloc (.cells X 26)) wr) (i : Nat) (u : Value) (h : X[i]? = some u) : wr.cell? ⟨w.heap.size, i, none⟩ = some u := by
  rw [hbel.cell (p := ⟨w.heap.size, i, none⟩) (by simp), cell_of_row _ w.heap.size i _ 26 (0, 0) (heap_alloc_new w _)]
  exact h

theorem box_below {w wr : World} {X : Array Value} (hbel : Below (w.heap.size + 1) (w.alloc (.cells X 26)) wr) : Below w.heap.size w wr :=
  ((Below.refl _ w).alloc (Nat.le_refl _) _).trans (hbel.mono (by omega))

theorem box_trans {w wr w2 : World} {X : Array Value} (hbel : Below (w.heap.size + 1) (w.alloc (.cells X 26)) wr) (h2 : Below wr.heap.size wr w2) : Below (w.heap.size + 1) (w.alloc (.cells X 26)) w2 :=
  hbel.trans (h2.mono (by have := hbel.size; simpa using this))

set_option maxRecDepth 100000 in
set_option maxHeartbeats 1000000 in
theorem holds_any (c : Int) (n : Nat) : ∀ (t : V) (v : Value) (w : World), SizeOf.sizeOf t ≤ n → Rep w v t → Calls Tryz.prog 13 #[v, .int .i64 c] w (BoolPost (t.has c) w) := by
  induction n with
  | zero => intro t v w hn; cases t; simp at hn
  | succ n ih =>
    intro t v w hn hrep
    obtain ⟨la, ka, lc, kc, cs, ho⟩ := hrep.open_
    obtain rfl := ho.eq
    have s4 := ho.hl
    have s5 := ho.hlc
    have HO := hid ho
    clear ho hrep
    rcases hkc : (t.k == c) with _ | _
    · have he : Hid (t.has c = ((t.k == 7 || t.k == 8) && V.hasl c t.l)) := hid (by rw [V.has_eq, hkc]; simp)
      go_enter Tryz.func13, Tryz.ntmps13
      go_wp2_with (fail)
      go_loopw [5] (fun k wr => ∃ jj : Nat, k = .int .i64 jj ∧ jj ≤ t.l.length ∧ V.hasl c (t.l.take jj) = false ∧
          Below (w.heap.size + 1) (w.alloc (.cells #[.int .i64 t.k, .int .i64 t.n, .float .f64 t.f, .string t.s, .slice la t.l.length lc, .slice ka t.keys.length kc] 26)) wr) (fun k _ => t.l.length - (intOf k).toNat)
      case atStart => exact ⟨0, rfl, by omega, by simp [V.hasl], Below.refl _ _⟩
      case round =>
        obtain ⟨jj, rfl, hjj, hno, hbel⟩ := hrel
        have cL : wr.cell? ⟨w.heap.size, 4, none⟩ = some (.slice la t.l.length lc) := box_cell hbel 4 _ rfl
        have cK : wr.cell? ⟨w.heap.size, 0, none⟩ = some (.int .i64 t.k) := box_cell hbel 0 _ rfl
        have BW := hid (box_below hbel)
        have BE := hid hbel
        have HNO := hid hno
        clear hbel hno
        by_cases hlt : jj < t.l.length
        · by_cases hcmp : ((t.k == 7) = false ∧ (t.k == 8) = false)
          · obtain ⟨h7, h8⟩ := hcmp
            have hF : Hid (t.has c = false) := hid (by rw [he.out, h7, h8]; rfl)
            go_wp2_with (fail)
            go_ret
            exact ⟨bret hF.out, BW.out⟩
          · have hcm : Hid ((t.k == 7 || t.k == 8) = true) := hid (by
              rcases h7 : (t.k == 7) with _ | _ <;> rcases h8 : (t.k == 8) with _ | _ <;> simp_all)
            obtain ⟨b, o, rfl, hc⟩ := (HO.out.kept BW.out).hla jj hlt
            have HC := hid hc
            clear hc
            have hrp := hid ((HO.out.kept BW.out).hr jj hlt)
            have hd : ((t.k == 7) = true) ∨ ((t.k == 7) = false ∧ (t.k == 8) = true) := by
              rcases h7 : (t.k == 7) with _ | _ <;> rcases h8 : (t.k == 8) with _ | _ <;> simp_all
            clear hcmp
            rcases hx : (t.l[jj]).has c with _ | _
            all_goals
              have HX := hid hx
              clear hx
              rcases hd with h7 | ⟨h7, h8⟩
              all_goals
                go_wp2_with (first
                  | (refine wpList_load26 rfl (.tmp 30) rfl b (o + jj * 6) rfl (cs jj) HC.out ?_)
                  | (go_at_call 13; refine (ih t.l[jj] _ wr (by have := V.l_lt (t := t) (List.getElem_mem hlt); omega) hrp.out).mono ?_; rintro e w2 ⟨rfl, hb2⟩; rw [HX.out]; have HB := hid hb2; clear hb2))
                first
                  | (go_roundw
                     case rel =>
                       exact ⟨jj + 1, by go_num, by omega, by rw [take_succ_at _ _ hlt, hasl_snoc, HNO.out, HX.out]; rfl, box_trans BE.out HB.out⟩
                     case measure => simp [intOf]; omega)
                  | (go_ret
                     exact ⟨bret (by rw [he.out, hcm.out, hasl_of_take c t.l jj hlt HX.out]; rfl), BW.out.trans (HB.out.mono BW.out.size)⟩)
        · have hF : Hid (t.has c = false) := hid (by
            rw [he.out]
            have h2 : jj = t.l.length := by omega
            have h3 := HNO.out
            rw [h2, List.take_length] at h3
            rw [h3, Bool.and_false])
          go_wp2_with (fail)
          go_ret
          exact ⟨bret hF.out, BW.out⟩
    · have he : Hid (t.has c = true) := hid (by rw [V.has_eq, hkc]; simp)
      go_enter Tryz.func13, Tryz.ntmps13
      go_wp2_with (fail)
      go_ret
      exact ⟨bret he.out, (Below.refl _ w).alloc (Nat.le_refl _) _⟩
end Go.Proofs.YtclnpjelgdoloaaGreat
