/- alt.Diff; impl.trailOf: a path becomes a place. -/
import Derived.Test.YtclnpjelgdoloaaDiffAny
namespace Go.Proofs.Ytclnpjelgdoloaa
open Go.RowKit Go.Maps
set_option linter.unusedVariables false

set_option maxRecDepth 100000 in
theorem altDiff_any {B B' : Nat} (a b : V) (x y : Value) (w : World) (ha : a.wt ≤ 150) (hb : b.wt ≤ 150) (wa : a.wh) (wb : b.wh) (hx : PRep w B x a) (hy : PRep w B' y b) : Calls Try.prog 27 #[x, y, .slice none 0 0] w (PathsPost (Df 150 a b) w) := by
  have H := hid (diff_any 150 a b x y w (Nat.le_refl _) ha hb wa wb hx hy)
  clear ha hb wa wb hx hy
  go_enter Try.func27, Try.ntmps27
  go_wp2_with (go_at_call 44; refine H.out.mono ?_; rintro e w1 ⟨v, vs, ps', rfl, h1, h2, h3⟩; have H1 := hid h1; have H2 := hid h2; have H3 := hid h3; clear h1 h2 h3)
  go_ret
  exact ⟨v, vs, ps', rfl, H1.out, H2.out, H3.out⟩

theorem tak9 (v : Value) : Ta (.iface 3 v) 9 (.tuple #[.string ByteArray.empty, .bool false]) := fun w => by kernel_rfl
theorem tak3 (v : Value) : Ta (.iface 3 v) 3 (.tuple #[v, .bool true]) := fun w => by kernel_rfl

theorem info49 : (Try.prog.info? 49).map (fun i => (i.zero, i.size, i.bytes)) = some (some (.agg #[.int .i64 0, .string ByteArray.empty, .slice none 0 0, .slice none 0 0, .int .i64 0, .int .i64 0, .int .i64 0, .float .f64 0, .string ByteArray.empty, .slice none 0 0, .slice none 0 0, .slice none 0 0, .slice none 0 0]), 13, 216) := by kernel_rfl

/-- The cells of a step of a place. -/
def fragRow (k : Int) (s : ByteArray) (nv : Value) : List Value := [.int .i64 k, .string s, nv, .slice none 0 0, .int .i64 0, .int .i64 0, .int .i64 0, .float .f64 0, .string ByteArray.empty, .slice none 0 0, .slice none 0 0, .slice none 0 0, .slice none 0 0]

theorem fragRow_one (k : Int) (s : ByteArray) (p : Option Addr) (n c : Nat) : ∀ u ∈ fragRow k s (.slice p n c), u.oneCell' = true := by
  intro u hu
  simp only [fragRow, List.mem_cons, List.not_mem_nil, or_false] at hu
  rcases hu with rfl | rfl | rfl | rfl | rfl | rfl | rfl | rfl | rfl | rfl | rfl | rfl | rfl <;> rfl

theorem fragRow_len (k : Int) (s : ByteArray) (nv : Value) : (fragRow k s nv).length = 13 := rfl

/-- The steps of a path; the empty one has the wildcard. -/
def stepsOf (p : List Step) : List (Option Step) := if p = [] then [none] else p.map some

def optVal : Option Step → Value
  | none => .nilIface
  | some s => stepVal s

theorem pathCells_steps (p : List Step) : pathCells p = (stepsOf p).map optVal := by
  unfold pathCells stepsOf
  split
  · rfl
  · rw [List.map_map]; rfl

/-- What a step of a place looks like in memory. -/
inductive StepRow (w : World) (B : Nat) : Option Step → List Value → Prop
  | wild : StepRow w B none (fragRow 5 ByteArray.empty (.slice none 0 0))
  | key (s : ByteArray) : StepRow w B (some (.key s)) (fragRow 3 s (.slice none 0 0))
  | idx (n g : Nat) (hg : B ≤ g) (hc : w.heap[g]? = some (.cells #[.int .i64 (n : Int)] 3 (0, 0))) : StepRow w B (some (.idx n)) (fragRow 4 ByteArray.empty (.slice (some ⟨g, 0, none⟩) 1 1))

inductive Rows (w : World) (B : Nat) : List (Option Step) → List (List Value) → Prop
  | nil : Rows w B [] []
  | cons (s : Option Step) (r : List Value) (ss : List (Option Step)) (rs : List (List Value)) (h : StepRow w B s r) (hs : Rows w B ss rs) : Rows w B (s :: ss) (r :: rs)

/-- A place in memory. -/
def PlaceAt (w : World) (B : Nat) (v : Value) (p : List Step) : Prop := ∃ rs, Rows w B (stepsOf p) rs ∧ w.ownsRow B 49 13 v (stepsOf p).length rs.flatten

theorem StepRow.kept {w w' : World} {B : Nat} {s : Option Step} {r : List Value} (h : StepRow w B s r) (hk : ∀ (g : Nat) (c : Array Value), B ≤ g → w.heap[g]? = some (.cells c 3 (0, 0)) → w'.heap[g]? = w.heap[g]?) : StepRow w' B s r := by
  cases h with
  | wild => exact .wild
  | key s => exact .key s
  | idx n g hg hc => exact .idx n g hg ((hk g _ hg hc).trans hc)

theorem Rows.kept {w w' : World} {B : Nat} {ss : List (Option Step)} {rs : List (List Value)} (h : Rows w B ss rs) (hk : ∀ (g : Nat) (c : Array Value), B ≤ g → w.heap[g]? = some (.cells c 3 (0, 0)) → w'.heap[g]? = w.heap[g]?) : Rows w' B ss rs := by
  induction h with
  | nil => exact .nil
  | cons s r ss rs h hs ih => exact .cons s r ss rs (h.kept hk) ih

theorem Rows.snoc {w : World} {B : Nat} {ss : List (Option Step)} {rs : List (List Value)} (h : Rows w B ss rs) {s : Option Step} {r : List Value} (hr : StepRow w B s r) : Rows w B (ss ++ [s]) (rs ++ [r]) := by
  induction h with
  | nil => exact .cons _ _ _ _ hr .nil
  | cons s r ss rs h hs ih => exact .cons s r _ _ h ih

theorem cells_new (w : World) (xs : List Value) (e : TypeId) (k : Nat) (hk : k = w.heap.size) : ∀ j u, xs[j]? = some u → (w.alloc (.cells xs.toArray e)).cell? ((⟨k, 0, none⟩ : Addr).add j) = some u := by
  intro j u hj
  have hadd : (⟨k, 0, none⟩ : Addr).add j = ⟨k, j, none⟩ := by unfold Addr.add; split <;> simp_all
  rw [hadd, hk, cell_of_row _ _ j _ e (0, 0) (heap_alloc_new w _)]
  simpa using hj

/-- In the loop: the first j steps are there. -/
structure TrailIn (n0 : Nat) (w wr : World) (ss : List (Option Step)) (o : Value) (j : Nat) (rs : List (List Value)) : Prop where
  rows : Rows wr n0 (ss.take j) rs
  own : wr.ownsRow n0 49 13 o j rs.flatten
  bel : Below n0 w wr

theorem TrailIn.next {n0 j : Nat} {w wr w1 w2 : World} {ss : List (Option Step)} {o o' : Value} {rs : List (List Value)} {r : List Value} (h : TrailIn n0 w wr ss o j rs) (hj : j < ss.length) (hn : n0 ≤ wr.heap.size)
    (h1 : Below wr.heap.size wr w1) (hg : w1.grownBy w2 o.ownBlock) (hr : StepRow w1 n0 ss[j] r) (hown : w2.ownsRow n0 49 13 o' (j + 1) (rs.flatten ++ r)) : TrailIn n0 w w2 ss o' (j + 1) (rs ++ [r]) := by
  have k1 : ∀ (g : Nat) (c : Array Value), n0 ≤ g → w1.heap[g]? = some (.cells c 3 (0, 0)) → w2.heap[g]? = w1.heap[g]? := by
    intro g c _ hc
    have hl : g < w1.heap.size := by
      rcases Nat.lt_or_ge g w1.heap.size with h' | h'
      · exact h'
      · simp [Array.getElem?_eq_none h'] at hc
    refine hg.block g hl (fun e => ?_)
    rcases h.own.2 with ⟨hv, _⟩ | ⟨g', cap, cur, hv, _, hb, _⟩
    · rw [hv] at e; cases e
    · rw [hv] at e
      simp only [Value.ownBlock, Option.some.injEq] at e
      subst e
      have hl' : g < wr.heap.size := by
        rcases Nat.lt_or_ge g wr.heap.size with h' | h'
        · exact h'
        · simp [Array.getElem?_eq_none h'] at hb
      rw [h1.block g hl', hb] at hc
      injection hc with hc
      injection hc with _ he _
      exact absurd he (by decide)
  have k2 : ∀ (g : Nat) (c : Array Value), n0 ≤ g → wr.heap[g]? = some (.cells c 3 (0, 0)) → w1.heap[g]? = wr.heap[g]? := by
    intro g c _ hc
    have hl : g < wr.heap.size := by
      rcases Nat.lt_or_ge g wr.heap.size with h' | h'
      · exact h'
      · simp [Array.getElem?_eq_none h'] at hc
    exact h1.block g hl
  refine ⟨?_, ?_, ?_⟩
  · rw [take_succ_at ss j hj]
    exact ((h.rows.kept k2).snoc hr).kept k1
  · simpa using hown
  · refine (h.bel.trans (h1.mono hn)).grown hg (Nat.le_trans hn h1.size) (own_ge h.own)

def TrailPost (p : List Step) (w : World) (e : Ending) (w' : World) : Prop := ∃ v, e = .returned v ∧ PlaceAt w' w.heap.size v p ∧ Below w.heap.size w w'

set_option maxRecDepth 100000 in
set_option maxHeartbeats 2000000 in
theorem trailOf_any (p : List Step) (v : Value) (w : World) (B : Nat) (h : PathAt w B v p) (hp : p.length ≤ 1000) : Calls Try.prog 26 #[v] w (TrailPost p w) := by
  obtain ⟨g, cap, cur, rfl, hc1, hc2, hB, hl, hg, hs, ht⟩ := h.cells
  obtain ⟨i0, hi, hz0, hz1, hz2⟩ := info_parts info49
  have hlen : (stepsOf p).length ≤ 1000 := by unfold stepsOf; split <;> simp; omega
  obtain ⟨ss, hss⟩ : ∃ ss, ss = stepsOf p := ⟨_, rfl⟩
  rw [← hss] at hlen
  have e0 : (pathCells p).length = ss.length := by rw [pathCells_steps, hss]; simp
  have HC : Hid (∀ j (hj : j < ss.length), w.cell? ⟨g, j, none⟩ = some (optVal ss[j])) := hid (fun j hj => by
    rw [cell_of_row _ g j _ 20 (0, 0) hg]
    have h1 : (pathCells p)[j]? = some (optVal ss[j]) := by
      rw [pathCells_steps, ← hss, List.getElem?_map, List.getElem?_eq_getElem hj]; rfl
    rw [← ht, List.getElem?_take, if_pos (by omega)] at h1
    simpa using h1)
  rw [e0] at hc1 ⊢
  have HS := hid hss
  clear h hs ht hg hc2 hB e0 hss
  have t1 := tas9
  have t2 := tak9
  have t3 := tak3
  have t4 := tan9
  have t5 := tan3
  unfold Ta at t1 t2 t3 t4 t5
  go_enter Try.func26, Try.ntmps26
  go_wp2_with (fail)
  go_loopw [3, 11] (fun o k wr => ∃ (j : Nat) (rs : List (List Value)), k = .int .i64 (j : Int) ∧ j ≤ ss.length ∧ Hid (TrailIn w.heap.size w wr ss o j rs)) (fun _ k _ => ss.length - (intOf k).toNat)
  case atStart => exact ⟨0, [], rfl, Nat.zero_le _, hid ⟨.nil, ⟨rfl, .inl ⟨rfl, rfl⟩⟩, Below.refl _ _⟩⟩
  case round =>
    obtain ⟨j, rs, rfl, hj, TI⟩ := hrel
    by_cases hlt : j < ss.length
    · have hcell := (TI.out.bel.cell (p := ⟨g, j, none⟩) hl).trans (HC.out j hlt)
      have LW := hid TI.out.bel.size
      rcases hsj : ss[j] with _ | (n | s)
      · rw [hsj] at hcell
        simp only [optVal] at hcell
        have HJ := hid hsj
        clear hsj
        go_wp2_with (first
          | (at_builtin; go_loud (refine wpList_append_own_at _ rfl (.tmp 16) (.tmp 18) 33 rfl w.heap.size 49 i0 _ 13 216 Try.underlying33 hi hz0 hz1 hz2 rfl (by decide) u3 j rs.flatten rfl (TI.out.own.alloc _) ⟨wr.heap.size, 0, none⟩ 1 1 (fragRow 5 ByteArray.empty (.slice none 0 0)) rfl rfl (cells_new wr _ 49 _ rfl) (fragRow_one _ _ _ _ _) (le_maxLen (by omega)) (by omega) (by have := LW.out; simp; omega) ?_); intro v' w2 hown hgrow hnil hat; have OW := hid hown; have GR := hid hgrow; clear hown hgrow hnil hat))
        go_roundw
        case rel => exact ⟨j + 1, _, by simp, by omega, hid (TI.out.next hlt LW.out ((Below.refl _ _).alloc (Nat.le_refl _) _) GR.out (by rw [HJ.out]; exact .wild) OW.out)⟩
        case measure => simp only [intOf]; omega
      · rw [hsj] at hcell
        simp only [optVal, stepVal] at hcell
        have HJ := hid hsj
        clear hsj
        go_wp2_with (first
          | (at_builtin; go_loud (refine wpList_append_own_at _ rfl (.tmp 31) (.tmp 35) 33 rfl w.heap.size 49 i0 _ 13 216 Try.underlying33 hi hz0 hz1 hz2 rfl (by decide) u3 j rs.flatten rfl ((TI.out.own.alloc _).alloc _) ⟨wr.heap.size + 1, 0, none⟩ 1 1 (fragRow 4 ByteArray.empty (.slice (some ⟨wr.heap.size, 0, none⟩) 1 1)) rfl rfl (cells_new (wr.alloc (.cells #[.int .i64 (n : Int)] 3)) _ 49 _ (by simp)) (fragRow_one _ _ _ _ _) (le_maxLen (by omega)) (by omega) (by have := LW.out; simp; omega) ?_); intro v' w2 hown hgrow hnil hat; have OW := hid hown; have GR := hid hgrow; clear hown hgrow hnil hat))
        go_roundw
        case rel => exact ⟨j + 1, _, by simp, by omega, hid (TI.out.next hlt LW.out (((Below.refl _ _).alloc (Nat.le_refl _) _).alloc (by simp) _) GR.out (by rw [HJ.out]; exact .idx n wr.heap.size LW.out (by rw [Below.heap_alloc _ _ _ (by simp), heap_alloc_new])) OW.out)⟩
        case measure => simp only [intOf]; omega
      · rw [hsj] at hcell
        simp only [optVal, stepVal] at hcell
        have HJ := hid hsj
        clear hsj
        go_wp2_with (first
          | (at_builtin; go_loud (refine wpList_append_own_at _ rfl (.tmp 23) (.tmp 26) 33 rfl w.heap.size 49 i0 _ 13 216 Try.underlying33 hi hz0 hz1 hz2 rfl (by decide) u3 j rs.flatten rfl (TI.out.own.alloc _) ⟨wr.heap.size, 0, none⟩ 1 1 (fragRow 3 s (.slice none 0 0)) rfl rfl (cells_new wr _ 49 _ rfl) (fragRow_one _ _ _ _ _) (le_maxLen (by omega)) (by omega) (by have := LW.out; simp; omega) ?_); intro v' w2 hown hgrow hnil hat; have OW := hid hown; have GR := hid hgrow; clear hown hgrow hnil hat))
        go_roundw
        case rel => exact ⟨j + 1, _, by simp, by omega, hid (TI.out.next hlt LW.out ((Below.refl _ _).alloc (Nat.le_refl _) _) GR.out (by rw [HJ.out]; exact .key s) OW.out)⟩
        case measure => simp only [intOf]; omega
    · go_wp2_with (fail)
      go_ret
      have ej : j = ss.length := by omega
      have h1 := TI.out.rows
      have h2 := TI.out.own
      rw [ej, List.take_length] at h1
      rw [ej] at h2
      refine ⟨_, rfl, ⟨rs, ?_, ?_⟩, TI.out.bel⟩
      · rw [← HS.out]; exact h1
      · rw [← HS.out]; exact h2
end Go.Proofs.Ytclnpjelgdoloaa
