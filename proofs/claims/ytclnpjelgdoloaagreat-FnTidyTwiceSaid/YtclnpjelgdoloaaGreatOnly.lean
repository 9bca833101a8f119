/- A memory of which only some blocks are looked at; a value that lies in those. -/
import Derived.Test.YtclnpjelgdoloaaGreatVals
namespace Go.Proofs.YtclnpjelgdoloaaGreat
open Go.RowKit Go.Maps
set_option linter.unusedVariables false
set_option linter.unusedSimpArgs false

theorem Rep.keep {w w' : World} {v : Value} {t : V} (h : Rep w v t) (keep : ∀ a u, w.cell? a = some u → w'.cell? a = some u) : Rep w' v t := by
  induction h with
  | mk k n f s l keys la ka lc kc cs hk hn hs hl hlc hkl hkc hla hr hka ih =>
    refine Rep.mk k n f s l keys la ka lc kc cs hk hn hs hl hlc hkl hkc ?_ ih ?_
    · intro j hj
      obtain ⟨b, o, h1, h2⟩ := hla j hj
      exact ⟨b, o, h1, fun i hi => keep _ _ (h2 i hi)⟩
    · intro j hj
      obtain ⟨h0, b, o, h1, h2⟩ := hka j hj
      exact ⟨h0, b, o, h1, keep _ _ h2⟩

/-- The memory with the blocks that are not ok struck. -/
def _root_.Go.World.only (w : World) (ok : Nat → Bool) : World := { w with heap := w.heap.mapIdx fun i o => if ok i then o else .cells #[] 0 (0, 0) }

theorem only_at (w : World) (ok : Nat → Bool) (k : Nat) : (w.only ok).heap[k]? = (w.heap[k]?).map fun o => if ok k then o else .cells #[] 0 (0, 0) := by
  simp [World.only, Array.getElem?_mapIdx]

theorem only_cell {w : World} {ok : Nat → Bool} {a : Addr} {u : Value} : (w.only ok).cell? a = some u ↔ ok a.block = true ∧ w.cell? a = some u := by
  unfold World.cell?
  rw [only_at]
  rcases h : w.heap[a.block]? with _ | o
  · simp
  · rcases hb : ok a.block with _ | _
    · simp
    · simp

theorem only_keep {w w' : World} {ok ok' : Nat → Bool} {v : Value} {t : V} (h : Rep (w.only ok) v t) (hk : ∀ k, ok k = true → k < w.heap.size → ok' k = true ∧ w'.heap[k]? = w.heap[k]?) : Rep (w'.only ok') v t := by
  refine h.keep fun a u hu => ?_
  rw [only_cell] at hu ⊢
  obtain ⟨h1, h2⟩ := hk a.block hu.1 (World.block_lt_of_cell? w a hu.2)
  exact ⟨h1, (World.cell?_of_block h2).trans hu.2⟩

theorem only_rep {w : World} {ok : Nat → Bool} {v : Value} {t : V} (h : Rep (w.only ok) v t) : Rep w v t := h.keep fun a u hu => (only_cell.1 hu).2

/-- The blocks from B on. -/
def above (B : Nat) (k : Nat) : Bool := decide (B ≤ k)

/-- What impl.value gives, in blocks of its own: a value that is the same tree. -/
def ValAt (t : V) (w : World) (e : Ending) (w' : World) : Prop := ∃ v t', e = .returned v ∧ Rep (w'.only (above w.heap.size)) v t' ∧ Same t t' ∧ Fine t' ∧ Below w.heap.size w w'

theorem same_flat {t : V} {n : Int} {f : Nat} {s : ByteArray} (hk : t.k = 1 ∨ t.k = 2 ∨ t.k = 3 ∨ t.k = 4 ∨ t.k = 5) (hn : t.k = 2 ∨ t.k = 3 → n = t.n) (hf : t.k = 4 → f = t.f) (hs : t.k = 5 → s = t.s) : Same t (.mk t.k n f s [] []) :=
  .flat _ _ (by omega) rfl hn hf hs

theorem val_flat {w w' : World} {e : Ending} {t : V} (k n : Int) (f : Nat) (s : ByteArray) (h : e = .returned (.agg #[.int .i64 k, .int .i64 n, .float .f64 f, .string s, .slice none 0 0, .slice none 0 0]) ∧ Below w.heap.size w w') (hkt : t.k = k) (hk : k = 1 ∨ k = 2 ∨ k = 3 ∨ k = 4 ∨ k = 5)
    (hn : isI64 n) (hs : s.size ≤ 140737488351232) (h2 : t.k = 2 ∨ t.k = 3 → n = t.n) (h4 : t.k = 4 → f = t.f) (h5 : t.k = 5 → s = t.s) (hf : Fine t) : ValAt t w e w' := by
  subst hkt
  refine ⟨_, .mk t.k n f s [] [], h.1, rep_flat _ _ _ _ _ (by unfold isI64; omega) hn hs, same_flat hk h2 h4 h5, fine_flat _ _ _ _ hk (fun e => by have := hf.bit e; rw [h2 (.inl e)]; exact this) (fun e => by rw [h4 e]; exact hf.fin e), h.2⟩
end Go.Proofs.YtclnpjelgdoloaaGreat
