/- laws.weight: what is left of a number when a tree's weight is taken from it. -/
import Derived.Test.YtclnpjelgdoloaaGreatRep
import Derived.Deep.LoopGhost
namespace Go.Proofs.YtclnpjelgdoloaaGreat
open Go.RowKit

def ksum : List ByteArray → Nat
  | [] => 0
  | k :: r => k.size + ksum r

theorem ksum_snoc (l : List ByteArray) (k : ByteArray) : ksum (l ++ [k]) = ksum l + k.size := by
  induction l with
  | nil => simp [ksum]
  | cons a l ih => simp only [List.cons_append, ksum, ih]; omega

mutual
def V.wt : V → Nat
  | .mk _ _ _ s l ks => 1 + s.size + ks.length + ksum ks + V.wtl l
def V.wtl : List V → Nat
  | [] => 0
  | x :: r => x.wt + V.wtl r
end

theorem wtl_snoc (l : List V) (x : V) : V.wtl (l ++ [x]) = V.wtl l + x.wt := by
  induction l with
  | nil => simp [V.wtl]
  | cons a l ih => simp only [List.cons_append, V.wtl, ih]; omega

theorem V.wt_eq (t : V) : t.wt = 1 + t.s.size + t.keys.length + ksum t.keys + V.wtl t.l := by
  cases t; simp [V.wt, V.s, V.keys, V.l]

theorem take_succ_at {α : Type} (l : List α) (k : Nat) (h : k < l.length) : l.take (k + 1) = l.take k ++ [l[k]] := by
  rw [List.take_succ_eq_append_getElem h]

def WeightPost (t : V) (left : Int) (w : World) (e : Ending) (w' : World) : Prop :=
  ∃ r : Int, e = .returned (.int .i64 r) ∧ (0 ≤ r → r = left - t.wt) ∧ r ≤ left ∧ Below w.heap.size w w'

set_option maxRecDepth 100000 in
set_option maxHeartbeats 1000000 in
theorem weight_any (n : Nat) : ∀ (t : V) (v : Value) (left : Int) (w : World), SizeOf.sizeOf t ≤ n → Rep w v t → 0 ≤ left → left ≤ 1000 → Calls Tryz.prog 10 #[v, .int .i64 left] w (WeightPost t left w) := by
  induction n with
  | zero => intro t v left w hn; cases t; simp at hn
  | succ n ih =>
    intro t v left w hn hrep h0 h1
    obtain ⟨la, ka, lc, kc, cs, ho⟩ := hrep.open_
    obtain rfl := ho.eq
    have s1 := ho.hs
    have s2 := ho.hkl
    have s3 := ho.hkc
    have s4 := ho.hl
    have s5 := ho.hlc
    have HO := hid ho
    clear ho hrep
    go_enter Tryz.func10, Tryz.ntmps10
    go_wp2_with (fail)
    go_loopw [1, 5] (fun l k wr => ∃ (kk : Nat) (L : Int), k = .int .i64 kk ∧ l = .int .i64 L ∧ kk ≤ t.keys.length ∧ L ≤ left ∧ -1000000000000000 ≤ L ∧ Hid (0 ≤ L → L = left - 1 - t.s.size - t.keys.length - ksum (t.keys.take kk)) ∧
        wr = w.alloc (.cells #[.int .i64 t.k, .int .i64 t.n, .float .f64 t.f, .string t.s, .slice la t.l.length lc, .slice ka t.keys.length kc] 26))
      (fun _ k _ => t.keys.length - (intOf k).toNat)
    case atStart => exact ⟨0, _, rfl, rfl, by omega, by omega, by omega, hid fun _ => by simp [ksum], rfl⟩
    case round =>
      obtain ⟨kk, L, rfl, rfl, hkk, hL1, hL2, hL, rfl⟩ := hrel
      by_cases hlt : kk < t.keys.length ∧ 0 ≤ L
      · obtain ⟨hlt, hL0⟩ := hlt
        obtain ⟨hks, b, o, rfl, hc⟩ := HO.out.hka kk hlt
        have hc' : (w.alloc (.cells #[.int .i64 t.k, .int .i64 t.n, .float .f64 t.f, .string t.s, .slice la t.l.length lc, .slice (some ⟨b, o, none⟩) t.keys.length kc] 26)).cell? ⟨b, o + kk, none⟩ = some (.string t.keys[kk]) :=
          (World.cell?_of_block (Below.heap_alloc _ _ _ (World.block_lt_of_cell? w _ hc))).trans hc
        clear hc
        go_wp2_with (fail)
        go_roundw
        case rel =>
          refine ⟨kk + 1, _, by go_num, rfl, by omega, by omega, by omega, hid fun h => ?_, by first | rfl | trivial⟩
          have := hL.out hL0
          rw [take_succ_at _ _ hlt, ksum_snoc]
          omega
        case measure => simp [intOf]; omega
      · have hexit : kk = t.keys.length ∨ L < 0 := by omega
        clear hlt
        have hW : Hid (0 ≤ L → L = left - (1 + t.s.size + t.keys.length + ksum t.keys : Nat)) := hid fun h => by
          have h1 := hL.out h
          have h2 : kk = t.keys.length := by omega
          rw [h2, List.take_length] at h1
          omega
        clear hL
        have hsplit : (t.keys.length ≤ kk) ∨ (kk < t.keys.length ∧ L < 0) := by omega
        clear hexit
        rcases hsplit with hge | ⟨hlt, hneg⟩
        all_goals
          go_wp2_with (fail)
          go_loopw [1, 6] (fun l k wr => ∃ (jj : Nat) (R : Int), k = .int .i64 jj ∧ l = .int .i64 R ∧ jj ≤ t.l.length ∧ R ≤ left ∧ Hid (0 ≤ R → R = left - (1 + t.s.size + t.keys.length + ksum t.keys : Nat) - V.wtl (t.l.take jj)) ∧
              Below (w.heap.size + 1) (w.alloc (.cells #[.int .i64 t.k, .int .i64 t.n, .float .f64 t.f, .string t.s, .slice la t.l.length lc, .slice ka t.keys.length kc] 26)) wr)
            (fun _ k _ => t.l.length - (intOf k).toNat)
          case atStart => exact ⟨0, L, rfl, rfl, by omega, by omega, hid fun h => by simpa [V.wtl] using hW.out h, Below.refl _ _⟩
          case round =>
            obtain ⟨jj, R, rfl, rfl, hjj, hR1, hR, hbel⟩ := hrel
            have cL : wr.cell? ⟨w.heap.size, 4, none⟩ = some (.slice la t.l.length lc) := by
              rw [hbel.cell (p := ⟨w.heap.size, 4, none⟩) (by simp), cell_of_row _ w.heap.size 4 _ 26 (0, 0) (heap_alloc_new w _)]
              rfl
            have hbw : Below w.heap.size w wr := ((Below.refl _ w).alloc (Nat.le_refl _) _).trans (hbel.mono (by omega))
            have BW := hid hbw
            have BE := hid hbel
            clear hbw hbel
            by_cases hlt : jj < t.l.length ∧ 0 ≤ R
            · obtain ⟨hlt, hR0⟩ := hlt
              obtain ⟨b, o, rfl, hc⟩ := (HO.out.kept BW.out).hla jj hlt
              have HC := hid hc
              clear hc
              have hrp := hid ((HO.out.kept BW.out).hr jj hlt)
              go_wp2_with (first
                | (refine wpList_load26 rfl (.tmp 50) rfl b (o + jj * 6) rfl (cs jj) HC.out ?_)
                | (go_at_call 10; refine (ih t.l[jj] _ R wr (by have := V.l_lt (t := t) (List.getElem_mem hlt); omega) hrp.out hR0 (by omega)).mono ?_; rintro e w2 ⟨r, rfl, hr1, hr2, hb2⟩; have HR := hid hr1; have HB := hid hb2; clear hr1 hb2))
              go_roundw
              case rel =>
                refine ⟨jj + 1, r, by go_num, rfl, by omega, by omega, hid fun h => ?_, BE.out.trans (HB.out.mono (by have := BE.out.size; simpa using this))⟩
                have h2 := HR.out h
                have h3 := hR.out hR0
                rw [take_succ_at _ _ hlt, wtl_snoc]
                omega
              case measure => simp [intOf]; omega
            · have hWR : Hid (0 ≤ R → R = left - t.wt) := hid fun h => by
                have h1 := hR.out h
                have h2 : jj = t.l.length := by omega
                rw [h2, List.take_length] at h1
                rw [V.wt_eq]
                omega
              have hsplit : (t.l.length ≤ jj) ∨ (jj < t.l.length ∧ R < 0) := by omega
              clear hlt hR
              rcases hsplit with hge | ⟨hlt, hneg⟩
              all_goals
                go_wp2_with (fail)
                go_ret
                exact ⟨R, rfl, hWR.out, hR1, BW.out⟩
end Go.Proofs.YtclnpjelgdoloaaGreat
