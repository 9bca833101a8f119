/- alt.diff at values that hold no others. -/
import Derived.Test.YtclnpjelgdoloaaTa
import Derived.BigGuardPart
namespace Go.Proofs.Ytclnpjelgdoloaa
open Go.RowKit Go.Maps
set_option linter.unusedVariables false

def stepVal : Step → Value
  | .idx n => .iface 3 (.int .i64 (n : Int))
  | .key s => .iface 9 (.string s)

/-- The cells of a path; the empty path stands as the one wildcard. -/
def pathCells (p : List Step) : List Value := if p = [] then [.nilIface] else p.map stepVal

/-- Paths in memory, each in a block of its own, from B on. -/
structure Paths (w : World) (B : Nat) (v : Value) (vs : List Value) (ps : List (List Step)) : Prop where
  own : w.ownsRow B 53 1 v vs.length vs
  len : vs.length = ps.length
  path : ∀ j (h : j < vs.length) (h' : j < ps.length), w.ownsRow B 20 1 vs[j] (pathCells ps[j]).length (pathCells ps[j])
  apart : vs.Pairwise (fun x y => x.ownBlock ≠ y.ownBlock)

theorem info53 : (Try.prog.info? 53).map (fun i => (i.zero, i.size, i.bytes)) = some (some (.slice none 0 0), 1, 24) := by kernel_rfl

/-- No path, or the empty one. -/
def OneOr (d : Bool) (w : World) (e : Ending) (w' : World) : Prop := ∃ v vs, e = .returned v ∧ Paths w' w.heap.size v vs (if d = true then [[]] else []) ∧ Below w.heap.size w w'

theorem oneOr_none (w : World) : OneOr false w (.returned (.slice none 0 0)) w :=
  ⟨_, [], rfl, ⟨⟨rfl, .inl ⟨rfl, rfl⟩⟩, rfl, fun j h => absurd h (by simp), .nil⟩, Below.refl _ _⟩

theorem oneOr_one {w w1 : World} {v : Value} (hown : w1.ownsRow w.heap.size 53 1 v (0 + 1) ([] ++ [.slice (some ⟨w.heap.size, 0, none⟩) 1 1]))
    (hg : ((w.alloc (.cells #[.nilIface] 20)).alloc (.cells #[.slice (some ⟨w.heap.size, 0, none⟩) 1 1] 53)).grownBy w1 none) : OneOr true w (.returned v) w1 := by
  have hb : w1.heap[w.heap.size]? = some (.cells #[.nilIface] 20 (0, 0)) := by
    rw [hg.block w.heap.size (by simp; omega) (by simp), Below.heap_alloc _ _ _ (by simp), heap_alloc_new]
  refine ⟨v, [.slice (some ⟨w.heap.size, 0, none⟩) 1 1], rfl, ⟨hown, rfl, ?_, by simp⟩, (((Below.refl _ w).alloc (Nat.le_refl _) _).alloc (by simp) _).grown hg (by simp; omega) (fun k e => by cases e)⟩
  intro j h h'
  have e : j = 0 := by simp at h; omega
  subst e
  refine ⟨rfl, .inr ⟨w.heap.size, 1, #[.nilIface], rfl, Nat.le_refl _, hb, Nat.le_refl _, by unfold maxLen; omega, rfl, rfl⟩⟩

/-- What a value of plain data looks like. -/
inductive PForm : Value → Prop
  | null : PForm .nilIface
  | bool (b : Bool) : PForm (.iface 4 (.bool b))
  | int (n : Int) : PForm (.iface 2 (.int .i64 n))
  | str (s : ByteArray) : PForm (.iface 9 (.string s))
  | arr (p : Option Addr) (n c : Nat) : PForm (.iface 52 (.slice p n c))
  | obj (p : Option Nat) : PForm (.iface 72 (.map p))

def asIntOf : Value → Value
  | .iface 2 (.int .i64 n) => .tuple #[.int .i64 n, .bool true]
  | _ => .tuple #[.int .i64 0, .bool false]

set_option maxRecDepth 100000 in
set_option maxHeartbeats 1000000 in
theorem asInt_any (y : Value) (hy : PForm y) (w : World) : Calls Try.prog 46 #[y] w (fun e w' => e = .returned (asIntOf y) ∧ w' = w) := by
  cases hy
  case null =>
    have t2 := tan2; unfold Ta at t2
    have t3 := tan3; unfold Ta at t3
    have t74 := tan74; unfold Ta at t74
    have t75 := tan75; unfold Ta at t75
    have t21 := tan21; unfold Ta at t21
    have t76 := tan76; unfold Ta at t76
    have t5 := tan5; unfold Ta at t5
    have t77 := tan77; unfold Ta at t77
    have t78 := tan78; unfold Ta at t78
    have t79 := tan79; unfold Ta at t79
    have t82 := tan82; unfold Ta at t82
    have t22 := tan22; unfold Ta at t22
    have t95 := tan95; unfold Ta at t95
    have t96 := tan96; unfold Ta at t96
    go_enter Try.func46, Try.ntmps46
    go_wp2_with (fail)
    go_ret2
    exact ⟨rfl, rfl⟩
  case bool b =>
    have t2 := tab2 (.bool b); unfold Ta at t2
    have t3 := tab3 (.bool b); unfold Ta at t3
    have t74 := tab74 (.bool b); unfold Ta at t74
    have t75 := tab75 (.bool b); unfold Ta at t75
    have t21 := tab21 (.bool b); unfold Ta at t21
    have t76 := tab76 (.bool b); unfold Ta at t76
    have t5 := tab5 (.bool b); unfold Ta at t5
    have t77 := tab77 (.bool b); unfold Ta at t77
    have t78 := tab78 (.bool b); unfold Ta at t78
    have t79 := tab79 (.bool b); unfold Ta at t79
    have t82 := tab82 (.bool b); unfold Ta at t82
    have t22 := tab22 (.bool b); unfold Ta at t22
    have t95 := tab95 (.bool b); unfold Ta at t95
    have t96 := tab96 (.bool b); unfold Ta at t96
    go_enter Try.func46, Try.ntmps46
    go_wp2_with (fail)
    go_ret2
    exact ⟨rfl, rfl⟩
  case int n =>
    have t2 := tai2 (.int .i64 n); unfold Ta at t2
    have t3 := tai3 (.int .i64 n); unfold Ta at t3
    have t74 := tai74 (.int .i64 n); unfold Ta at t74
    have t75 := tai75 (.int .i64 n); unfold Ta at t75
    have t21 := tai21 (.int .i64 n); unfold Ta at t21
    have t76 := tai76 (.int .i64 n); unfold Ta at t76
    have t5 := tai5 (.int .i64 n); unfold Ta at t5
    have t77 := tai77 (.int .i64 n); unfold Ta at t77
    have t78 := tai78 (.int .i64 n); unfold Ta at t78
    have t79 := tai79 (.int .i64 n); unfold Ta at t79
    have t82 := tai82 (.int .i64 n); unfold Ta at t82
    have t22 := tai22 (.int .i64 n); unfold Ta at t22
    have t95 := tai95 (.int .i64 n); unfold Ta at t95
    have t96 := tai96 (.int .i64 n); unfold Ta at t96
    go_enter Try.func46, Try.ntmps46
    go_wp2_with (fail)
    go_ret2
    exact ⟨rfl, rfl⟩
  case str s =>
    have t2 := tas2 (.string s); unfold Ta at t2
    have t3 := tas3 (.string s); unfold Ta at t3
    have t74 := tas74 (.string s); unfold Ta at t74
    have t75 := tas75 (.string s); unfold Ta at t75
    have t21 := tas21 (.string s); unfold Ta at t21
    have t76 := tas76 (.string s); unfold Ta at t76
    have t5 := tas5 (.string s); unfold Ta at t5
    have t77 := tas77 (.string s); unfold Ta at t77
    have t78 := tas78 (.string s); unfold Ta at t78
    have t79 := tas79 (.string s); unfold Ta at t79
    have t82 := tas82 (.string s); unfold Ta at t82
    have t22 := tas22 (.string s); unfold Ta at t22
    have t95 := tas95 (.string s); unfold Ta at t95
    have t96 := tas96 (.string s); unfold Ta at t96
    go_enter Try.func46, Try.ntmps46
    go_wp2_with (fail)
    go_ret2
    exact ⟨rfl, rfl⟩
  case arr p n c =>
    have t2 := taa2 (.slice p n c); unfold Ta at t2
    have t3 := taa3 (.slice p n c); unfold Ta at t3
    have t74 := taa74 (.slice p n c); unfold Ta at t74
    have t75 := taa75 (.slice p n c); unfold Ta at t75
    have t21 := taa21 (.slice p n c); unfold Ta at t21
    have t76 := taa76 (.slice p n c); unfold Ta at t76
    have t5 := taa5 (.slice p n c); unfold Ta at t5
    have t77 := taa77 (.slice p n c); unfold Ta at t77
    have t78 := taa78 (.slice p n c); unfold Ta at t78
    have t79 := taa79 (.slice p n c); unfold Ta at t79
    have t82 := taa82 (.slice p n c); unfold Ta at t82
    have t22 := taa22 (.slice p n c); unfold Ta at t22
    have t95 := taa95 (.slice p n c); unfold Ta at t95
    have t96 := taa96 (.slice p n c); unfold Ta at t96
    go_enter Try.func46, Try.ntmps46
    go_wp2_with (fail)
    go_ret2
    exact ⟨rfl, rfl⟩
  case obj p =>
    have t2 := tao2 (.map p); unfold Ta at t2
    have t3 := tao3 (.map p); unfold Ta at t3
    have t74 := tao74 (.map p); unfold Ta at t74
    have t75 := tao75 (.map p); unfold Ta at t75
    have t21 := tao21 (.map p); unfold Ta at t21
    have t76 := tao76 (.map p); unfold Ta at t76
    have t5 := tao5 (.map p); unfold Ta at t5
    have t77 := tao77 (.map p); unfold Ta at t77
    have t78 := tao78 (.map p); unfold Ta at t78
    have t79 := tao79 (.map p); unfold Ta at t79
    have t82 := tao82 (.map p); unfold Ta at t82
    have t22 := tao22 (.map p); unfold Ta at t22
    have t95 := tao95 (.map p); unfold Ta at t95
    have t96 := tao96 (.map p); unfold Ta at t96
    go_enter Try.func46, Try.ntmps46
    go_wp2_with (fail)
    go_ret2
    exact ⟨rfl, rfl⟩
end Go.Proofs.Ytclnpjelgdoloaa
