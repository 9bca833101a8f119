/- laws.weight: what is left of a number when a tree's weight is taken from it. laws.holds: whether a value of some kind is in a tree, or is it. The small functions on floats. -/
import Derived.Test.YtonnmongipaheaaGreatDoorRep
import Derived.Deep.LoopGhost
import Derived.WalkLawsBesides
namespace Go.Proofs.YtonnmongipaheaaGreatDoor
open Go.RowKit

def ksum : List ByteArray → Nat
  | [] => 0
  | k :: r => k.size + ksum r

theorem ksum_snoc (l : List ByteArray) (k : ByteArray) : ksum (l ++ [k]) = ksum l + k.size := by
  induction l with
  | nil => simp [ksum]
  | cons a l ih => simp only [List.cons_append, ksum, ih]; omega

mutual
def V.wt : V → Nat
  | .mk _ _ _ s l ks => 1 + s.size + ks.length + ksum ks + V.wtl l
def V.wtl : List V → Nat
  | [] => 0
  | x :: r => x.wt + V.wtl r
end

theorem wtl_snoc (l : List V) (x : V) : V.wtl (l ++ [x]) = V.wtl l + x.wt := by
  induction l with
  | nil => simp [V.wtl]
  | cons a l ih => simp only [List.cons_append, V.wtl, ih]; omega

theorem V.wt_eq (t : V) : t.wt = 1 + t.s.size + t.keys.length + ksum t.keys + V.wtl t.l := by
  cases t; simp [V.wt, V.s, V.keys, V.l]

theorem take_succ_at {α : Type} (l : List α) (k : Nat) (h : k < l.length) : l.take (k + 1) = l.take k ++ [l[k]] := by
  rw [List.take_succ_eq_append_getElem h]

def WeightPost (t : V) (left : Int) (w : World) (e : Ending) (w' : World) : Prop :=
  ∃ r : Int, e = .returned (.int .i64 r) ∧ (0 ≤ r → r = left - t.wt) ∧ r ≤ left ∧ Below w.heap.size w w'

set_option maxRecDepth 100000 in
set_option maxHeartbeats 1000000 in
theorem weight_any (n : Nat) : ∀ (t : V) (v : Value) (left : Int) (w : World), SizeOf.sizeOf t ≤ n → Rep w v t → 0 ≤ left → left ≤ 1000 → Calls Tryz.prog 23 #[v, .int .i64 left] w (WeightPost t left w) := by
  induction n with
  | zero => intro t v left w hn; cases t; simp at hn
  | succ n ih =>
    intro t v left w hn hrep h0 h1
    obtain ⟨la, ka, lc, kc, cs, ho⟩ := hrep.open_
    obtain rfl := ho.eq
    have s1 := ho.hs
    have s2 := ho.hkl
    have s3 := ho.hkc
    have s4 := ho.hl
    have s5 := ho.hlc
    have HO := hid ho
    clear ho hrep
    go_enter Tryz.func23, Tryz.ntmps23
    go_wp2_with (fail)
    go_loopw [1, 5] (fun l k wr => ∃ (kk : Nat) (L : Int), k = .int .i64 kk ∧ l = .int .i64 L ∧ kk ≤ t.keys.length ∧ L ≤ left ∧ -1000000000000000 ≤ L ∧ Hid (0 ≤ L → L = left - 1 - t.s.size - t.keys.length - ksum (t.keys.take kk)) ∧
        wr = w.alloc (.cells #[.int .i64 t.k, .int .i64 t.n, .float .f64 t.f, .string t.s, .slice la t.l.length lc, .slice ka t.keys.length kc] 26))
      (fun _ k _ => t.keys.length - (intOf k).toNat)
    case atStart => exact ⟨0, _, rfl, rfl, by omega, by omega, by omega, hid fun _ => by simp [ksum], rfl⟩
    case round =>
      obtain ⟨kk, L, rfl, rfl, hkk, hL1, hL2, hL, rfl⟩ := hrel
      by_cases hlt : kk < t.keys.length ∧ 0 ≤ L
      · obtain ⟨hlt, hL0⟩ := hlt
        obtain ⟨hks, b, o, rfl, hc⟩ := HO.out.hka kk hlt
        have hc' : (w.alloc (.cells #[.int .i64 t.k, .int .i64 t.n, .float .f64 t.f, .string t.s, .slice la t.l.length lc, .slice (some ⟨b, o, none⟩) t.keys.length kc] 26)).cell? ⟨b, o + kk, none⟩ = some (.string t.keys[kk]) :=
          (World.cell?_of_block (Below.heap_alloc _ _ _ (World.block_lt_of_cell? w _ hc))).trans hc
        clear hc
        go_wp2_with (fail)
        go_roundw
        case rel =>
          refine ⟨kk + 1, _, by go_num, rfl, by omega, by omega, by omega, hid fun h => ?_, by first | rfl | trivial⟩
          have := hL.out hL0
          rw [take_succ_at _ _ hlt, ksum_snoc]
          omega
        case measure => simp [intOf]; omega
      · have hexit : kk = t.keys.length ∨ L < 0 := by omega
        clear hlt
        have hW : Hid (0 ≤ L → L = left - (1 + t.s.size + t.keys.length + ksum t.keys : Nat)) := hid fun h => by
          have h1 := hL.out h
          have h2 : kk = t.keys.length := by omega
          rw [h2, List.take_length] at h1
          omega
        clear hL
        have hsplit : (t.keys.length ≤ kk) ∨ (kk < t.keys.length ∧ L < 0) := by omega
        clear hexit
        rcases hsplit with hge | ⟨hlt, hneg⟩
        all_goals
          go_wp2_with (fail)
          go_loopw [1, 6] (fun l k wr => ∃ (jj : Nat) (R : Int), k = .int .i64 jj ∧ l = .int .i64 R ∧ jj ≤ t.l.length ∧ R ≤ left ∧ Hid (0 ≤ R → R = left - (1 + t.s.size + t.keys.length + ksum t.keys : Nat) - V.wtl (t.l.take jj)) ∧
              Below (w.heap.size + 1) (w.alloc (.cells #[.int .i64 t.k, .int .i64 t.n, .float .f64 t.f, .string t.s, .slice la t.l.length lc, .slice ka t.keys.length kc] 26)) wr)
            (fun _ k _ => t.l.length - (intOf k).toNat)
          case atStart => exact ⟨0, L, rfl, rfl, by omega, by omega, hid fun h => by simpa [V.wtl] using hW.out h, Below.refl _ _⟩
          case round =>
            obtain ⟨jj, R, rfl, rfl, hjj, hR1, hR, hbel⟩ := hrel
            have cL : wr.cell? ⟨w.heap.size, 4, none⟩ = some (.slice la t.l.length lc) := by
              rw [hbel.cell (p := ⟨w.heap.size, 4, none⟩) (by simp), cell_of_row _ w.heap.size 4 _ 26 (0, 0) (heap_alloc_new w _)]
              rfl
            have hbw : Below w.heap.size w wr := ((Below.refl _ w).alloc (Nat.le_refl _) _).trans (hbel.mono (by omega))
            have BW := hid hbw
            have BE := hid hbel
            clear hbw hbel
            by_cases hlt : jj < t.l.length ∧ 0 ≤ R
            · obtain ⟨hlt, hR0⟩ := hlt
              obtain ⟨b, o, rfl, hc⟩ := (HO.out.kept BW.out).hla jj hlt
              have HC := hid hc
              clear hc
              have hrp := hid ((HO.out.kept BW.out).hr jj hlt)
              go_wp2_with (first
                | (refine wpList_load26 rfl (.tmp 50) rfl b (o + jj * 6) rfl (cs jj) HC.out ?_)
                | (go_at_call 23; refine (ih t.l[jj] _ R wr (by have := V.l_lt (t := t) (List.getElem_mem hlt); omega) hrp.out hR0 (by omega)).mono ?_; rintro e w2 ⟨r, rfl, hr1, hr2, hb2⟩; have HR := hid hr1; have HB := hid hb2; clear hr1 hb2))
              go_roundw
              case rel =>
                refine ⟨jj + 1, r, by go_num, rfl, by omega, by omega, hid fun h => ?_, BE.out.trans (HB.out.mono (by have := BE.out.size; simpa using this))⟩
                have h2 := HR.out h
                have h3 := hR.out hR0
                rw [take_succ_at _ _ hlt, wtl_snoc]
                omega
              case measure => simp [intOf]; omega
            · have hWR : Hid (0 ≤ R → R = left - t.wt) := hid fun h => by
                have h1 := hR.out h
                have h2 : jj = t.l.length := by omega
                rw [h2, List.take_length] at h1
                rw [V.wt_eq]
                omega
              have hsplit : (t.l.length ≤ jj) ∨ (jj < t.l.length ∧ R < 0) := by omega
              clear hlt hR
              rcases hsplit with hge | ⟨hlt, hneg⟩
              all_goals
                go_wp2_with (fail)
                go_ret
                exact ⟨R, rfl, hWR.out, hR1, BW.out⟩
end Go.Proofs.YtonnmongipaheaaGreatDoor

namespace Go.Proofs.YtonnmongipaheaaGreatDoor
open Go.RowKit
set_option linter.unusedVariables false

mutual
def V.has (c : Int) : V → Bool
  | .mk k _ _ _ l _ => k == c || ((k == 7 || k == 8) && V.hasl c l)
def V.hasl (c : Int) : List V → Bool
  | [] => false
  | x :: r => x.has c || V.hasl c r
end

theorem hasl_snoc (c : Int) (l : List V) (x : V) : V.hasl c (l ++ [x]) = (V.hasl c l || x.has c) := by
  induction l with
  | nil => simp [V.hasl]
  | cons a l ih => simp only [List.cons_append, V.hasl, ih, Bool.or_assoc]

theorem V.has_eq (c : Int) (t : V) : t.has c = (t.k == c || ((t.k == 7 || t.k == 8) && V.hasl c t.l)) := by
  cases t; simp [V.has, V.k, V.l]

theorem hasl_of_take (c : Int) (l : List V) (j : Nat) (hj : j < l.length) (h : (l[j]).has c = true) : V.hasl c l = true := by
  induction l generalizing j with
  | nil => simp at hj
  | cons a l ih =>
    cases j with
    | zero => simp at h; simp [V.hasl, h]
    | succ j =>
      have := ih j (by simpa using hj) (by simpa using h)
      simp [V.hasl, this]

theorem bret {b b' : Bool} (h : b = b') : Ending.returned (.bool b') = Ending.returned (.bool b) := by rw [h]

def BoolPost (b : Bool) (w : World) (e : Ending) (w' : World) : Prop := e = .returned (.bool b) ∧ Below w.heap.size w w'

/-- The block of a boxed value, told behind whatever wrote only above it. -/
theorem box_cell {w wr : World} {X : Array Value} (hbel : Below (w.heap.size + 1) (w.alloc (.cells X 26)) wr) (i : Nat) (u : Value) (h : X[i]? = some u) : wr.cell? ⟨w.heap.size, i, none⟩ = some u := by
  rw [hbel.cell (p := ⟨w.heap.size, i, none⟩) (by simp), cell_of_row _ w.heap.size i _ 26 (0, 0) (heap_alloc_new w _)]
  exact h

theorem box_below {w wr : World} {X : Array Value} (hbel : Below (w.heap.size + 1) (w.alloc (.cells X 26)) wr) : Below w.heap.size w wr :=
  ((Below.refl _ w).alloc (Nat.le_refl _) _).trans (hbel.mono (by omega))

theorem box_trans {w wr w2 : World} {X : Array Value} (hbel : Below (w.heap.size + 1) (w.alloc (.cells X 26)) wr) (h2 : Below wr.heap.size wr w2) : Below (w.heap.size + 1) (w.alloc (.cells X 26)) w2 :=
  hbel.trans (h2.mono (by have := hbel.size; simpa using this))

set_option maxRecDepth 100000 in
set_option maxHeartbeats 1000000 in
theorem holds_any (c : Int) (n : Nat) : ∀ (t : V) (v : Value) (w : World), SizeOf.sizeOf t ≤ n → Rep w v t → Calls Tryz.prog 25 #[v, .int .i64 c] w (BoolPost (t.has c) w) := by
  induction n with
  | zero => intro t v w hn; cases t; simp at hn
  | succ n ih =>
    intro t v w hn hrep
    obtain ⟨la, ka, lc, kc, cs, ho⟩ := hrep.open_
    obtain rfl := ho.eq
    have s4 := ho.hl
    have s5 := ho.hlc
    have HO := hid ho
    clear ho hrep
    rcases hkc : (t.k == c) with _ | _
    · have he : Hid (t.has c = ((t.k == 7 || t.k == 8) && V.hasl c t.l)) := hid (by rw [V.has_eq, hkc]; simp)
      go_enter Tryz.func25, Tryz.ntmps25
      go_wp2_with (fail)
      go_loopw [5] (fun k wr => ∃ jj : Nat, k = .int .i64 jj ∧ jj ≤ t.l.length ∧ V.hasl c (t.l.take jj) = false ∧
          Below (w.heap.size + 1) (w.alloc (.cells #[.int .i64 t.k, .int .i64 t.n, .float .f64 t.f, .string t.s, .slice la t.l.length lc, .slice ka t.keys.length kc] 26)) wr) (fun k _ => t.l.length - (intOf k).toNat)
      case atStart => exact ⟨0, rfl, by omega, by simp [V.hasl], Below.refl _ _⟩
      case round =>
        obtain ⟨jj, rfl, hjj, hno, hbel⟩ := hrel
        have cL : wr.cell? ⟨w.heap.size, 4, none⟩ = some (.slice la t.l.length lc) := box_cell hbel 4 _ rfl
        have cK : wr.cell? ⟨w.heap.size, 0, none⟩ = some (.int .i64 t.k) := box_cell hbel 0 _ rfl
        have BW := hid (box_below hbel)
        have BE := hid hbel
        have HNO := hid hno
        clear hbel hno
        by_cases hlt : jj < t.l.length
        · by_cases hcmp : ((t.k == 7) = false ∧ (t.k == 8) = false)
          · obtain ⟨h7, h8⟩ := hcmp
            have hF : Hid (t.has c = false) := hid (by rw [he.out, h7, h8]; rfl)
            go_wp2_with (fail)
            go_ret
            exact ⟨bret hF.out, BW.out⟩
          · have hcm : Hid ((t.k == 7 || t.k == 8) = true) := hid (by
              rcases h7 : (t.k == 7) with _ | _ <;> rcases h8 : (t.k == 8) with _ | _ <;> simp_all)
            obtain ⟨b, o, rfl, hc⟩ := (HO.out.kept BW.out).hla jj hlt
            have HC := hid hc
            clear hc
            have hrp := hid ((HO.out.kept BW.out).hr jj hlt)
            have hd : ((t.k == 7) = true) ∨ ((t.k == 7) = false ∧ (t.k == 8) = true) := by
              rcases h7 : (t.k == 7) with _ | _ <;> rcases h8 : (t.k == 8) with _ | _ <;> simp_all
            clear hcmp
            rcases hx : (t.l[jj]).has c with _ | _
            all_goals
              have HX := hid hx
              clear hx
              rcases hd with h7 | ⟨h7, h8⟩
              all_goals
                go_wp2_with (first
                  | (refine wpList_load26 rfl (.tmp 30) rfl b (o + jj * 6) rfl (cs jj) HC.out ?_)
                  | (go_at_call 25; refine (ih t.l[jj] _ wr (by have := V.l_lt (t := t) (List.getElem_mem hlt); omega) hrp.out).mono ?_; rintro e w2 ⟨rfl, hb2⟩; rw [HX.out]; have HB := hid hb2; clear hb2))
                first
                  | (go_roundw
                     case rel =>
                       exact ⟨jj + 1, by go_num, by omega, by rw [take_succ_at _ _ hlt, hasl_snoc, HNO.out, HX.out]; rfl, box_trans BE.out HB.out⟩
                     case measure => simp [intOf]; omega)
                  | (go_ret
                     exact ⟨bret (by rw [he.out, hcm.out, hasl_of_take c t.l jj hlt HX.out]; rfl), BW.out.trans (HB.out.mono BW.out.size)⟩)
        · have hF : Hid (t.has c = false) := hid (by
            rw [he.out]
            have h2 : jj = t.l.length := by omega
            have h3 := HNO.out
            rw [h2, List.take_length] at h3
            rw [h3, Bool.and_false])
          go_wp2_with (fail)
          go_ret
          exact ⟨bret hF.out, BW.out⟩
    · have he : Hid (t.has c = true) := hid (by rw [V.has_eq, hkc]; simp)
      go_enter Tryz.func25, Tryz.ntmps25
      go_wp2_with (fail)
      go_ret
      exact ⟨bret he.out, (Below.refl _ w).alloc (Nat.le_refl _) _⟩
end Go.Proofs.YtonnmongipaheaaGreatDoor

namespace Go.Proofs.YtonnmongipaheaaGreatDoor
open Go.RowKit

theorem bits_run (x : Nat) (w : World) : (callFunc 34 #[.float .f64 x]).run Tryz.prog w = .ok (.value (.int .u64 x)) w := by kernel_rfl
theorem frombits_run (x : Int) (w : World) : (callFunc 54 #[.int .u64 x]).run Tryz.prog w = .ok (.value (.float .f64 x.toNat)) w := by kernel_rfl

def SomeBool (w : World) (e : Ending) (w' : World) : Prop := ∃ b : Bool, e = .returned (.bool b) ∧ w = w'

theorem noFloat_any (x : Nat) (w : World) : Calls Tryz.prog 26 #[.float .f64 x] w (SomeBool w) := by
  have h := bits_run x
  go_enter Tryz.func26, Tryz.ntmps26
  go_wp2_with (fail)
  go_ret
  exact ⟨_, rfl, rfl⟩

/-- Is it no number? -/
def nanB (x : Nat) : Bool := FloatKind.f64.format.order x x != some Ordering.eq

/-- Its size. -/
def absF (x : Nat) : Nat := (bits BinOp.andNot IntKind.u64 (x : Int) 9223372036854775808).toNat

/-- Is it infinite? -/
def infB (x : Nat) : Bool := FloatKind.f64.format.order (absF x) 9218868437227405311 == some Ordering.gt

def IsB (b : Bool) (w : World) (e : Ending) (w' : World) : Prop := e = .returned (.bool b) ∧ w = w'

theorem isNaN_any (x : Nat) (w : World) : Calls Tryz.prog 31 #[.float .f64 x] w (IsB (nanB x) w) := by
  go_enter Tryz.func31, Tryz.ntmps31
  go_wp2_with (fail)
  go_ret
  exact ⟨rfl, rfl⟩

theorem abs_any (x : Nat) (w : World) : Calls Tryz.prog 44 #[.float .f64 x] w (fun e w' => e = .returned (.float .f64 (absF x)) ∧ w = w') := by
  have h := bits_run x
  have h2 := frombits_run
  go_enter Tryz.func44, Tryz.ntmps44
  go_wp2_with (fail)
  go_ret
  exact ⟨rfl, rfl⟩

theorem isInf_any (x : Nat) (w : World) : Calls Tryz.prog 32 #[.float .f64 x, .int .i64 0] w (IsB (infB x) w) := by
  go_enter Tryz.func32, Tryz.ntmps32
  go_wp2_with (go_at_call 44; refine (abs_any _ _).mono ?_; rintro e w' ⟨rfl, rfl⟩)
  go_ret
  exact ⟨rfl, rfl⟩
end Go.Proofs.YtonnmongipaheaaGreatDoor
