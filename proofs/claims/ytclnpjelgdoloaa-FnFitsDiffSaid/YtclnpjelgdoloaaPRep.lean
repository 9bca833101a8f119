/- Plain data in memory (an interface value: nil, a bool, an int64, a string, a slice of such, a map of such), as trees. -/
import Derived.Test.YtclnpjelgdoloaaRight2
import Derived.Maps.Own
import Derived.Maps.OwnOps
import Derived.Maps.OwnSet
import Derived.Maps.Views
namespace Go.Proofs.Ytclnpjelgdoloaa
open Go.RowKit Go.Maps
set_option linter.unusedVariables false

/-- An element of a map is read as itself. -/
def heldElem (v : Value) : Option (DataW Value × List MemPlace) := some (.held v, [])

def keyLit (k : ByteArray) : Lit := .string k.data.toList

/-- A map has just these keys, with these values. -/
structure MapIs (D : DataW Value) (keys : List ByteArray) (xs : Nat → Value) : Prop where
  tidy : Tidy D
  has_ : ∀ k, has D k = keys.any (fun x => (keyLit x).sameKey k)
  at_ : ∀ j (hj : j < keys.length) (z : DataW Value), D.atKey (keyLit keys[j]) z = .held (xs j)

/-- The memory w holds at the interface value x the tree t, in blocks from B on. -/
inductive PRep (w : World) (B : Nat) : Value → V → Prop
  | null (t : V) (hk : t.k = 1) : PRep w B .nilIface t
  | bool (t : V) (hk : t.k = 2) : PRep w B (.iface 4 (.bool (t.n == 1))) t
  | int (t : V) (hk : t.k = 3) : PRep w B (.iface 2 (.int .i64 t.n)) t
  | str (t : V) (hk : t.k = 5) : PRep w B (.iface 9 (.string t.s)) t
  | arr (t : V) (hk : t.k = 7) (g cap : Nat) (xs : Nat → Value) (hg : B ≤ g) (hle : t.l.length ≤ cap) (hcap : cap ≤ 1000000) (hc : ∀ j, j < t.l.length → w.cell? ⟨g, j, none⟩ = some (xs j)) (hr : ∀ j (hj : j < t.l.length), PRep w B (xs j) t.l[j]) :
      PRep w B (.iface 52 (.slice (some ⟨g, 0, none⟩) t.l.length cap)) t
  | obj (t : V) (hk : t.k = 8) (b n : Nat) (D : DataW Value) (xs : Nat → Value) (hb : B ≤ b) (hm : w.ownsMap Try.prog 9 heldElem b n D) (hn : n ≤ t.l.length) (hD : MapIs D t.keys xs) (hkl : t.keys.length = t.l.length) (hr : ∀ j (hj : j < t.l.length), PRep w B (xs j) t.l[j]) :
      PRep w B (.iface 72 (.map (some b))) t

/-- From block B on nothing that was there has turned. -/
def Above (B : Nat) (w w' : World) : Prop := ∀ k, B ≤ k → k < w.heap.size → w'.heap[k]? = w.heap[k]?

theorem Above.of_below {B : Nat} {w w' : World} (h : Below w.heap.size w w') : Above B w w' := fun k _ hk => h.block k hk
theorem Above.of_grown {B g : Nat} {w w' : World} (h : w.grownBy w' (some g)) (hg : g < B) : Above B w w' := fun k hB hk => h.block k hk (fun e => by cases e; omega)

theorem ownsMap_above {w w' : World} {B b n : Nat} {D : DataW Value} (h : w.ownsMap Try.prog 9 heldElem b n D) (hb : B ≤ b) (ha : Above B w w') : w'.ownsMap Try.prog 9 heldElem b n D := by
  have hlt := h.lt
  obtain ⟨es, clock, hb', F, hs, hD⟩ := h
  exact ⟨es, clock, (ha b hb hlt).trans hb', F, hs, hD⟩

theorem PRep.kept {w w' : World} {B : Nat} {x : Value} {t : V} (h : PRep w B x t) (ha : Above B w w') : PRep w' B x t := by
  induction h with
  | null t hk => exact .null t hk
  | bool t hk => exact .bool t hk
  | int t hk => exact .int t hk
  | str t hk => exact .str t hk
  | arr t hk g cap xs hg hle hcap hc hr ih =>
    exact .arr t hk g cap xs hg hle hcap (fun j hj => (World.cell?_of_block (w := w) (a := ⟨g, j, none⟩) (ha g hg (World.block_lt_of_cell? w _ (hc j hj)))).trans (hc j hj)) ih
  | obj t hk b n D xs hb hm hn hD hkl hr ih => exact .obj t hk b n D xs hb (ownsMap_above hm hb ha) hn hD hkl ih

theorem PRep.mono {w : World} {B B' : Nat} {x : Value} {t : V} (h : PRep w B x t) (hB : B' ≤ B) : PRep w B' x t := by
  induction h with
  | null t hk => exact .null t hk
  | bool t hk => exact .bool t hk
  | int t hk => exact .int t hk
  | str t hk => exact .str t hk
  | arr t hk g cap xs hg hle hcap hc hr ih => exact .arr t hk g cap xs (Nat.le_trans hB hg) hle hcap hc ih
  | obj t hk b n D xs hb hm hn hD hkl hr ih => exact .obj t hk b n D xs (Nat.le_trans hB hb) hm hn hD hkl ih

theorem PRep.one {w : World} {B : Nat} {x : Value} {t : V} (h : PRep w B x t) : x = .nilIface ∨ ∃ ty v, x = .iface ty v := by
  cases h with
  | null => exact .inl rfl
  | bool => exact .inr ⟨_, _, rfl⟩
  | int => exact .inr ⟨_, _, rfl⟩
  | str => exact .inr ⟨_, _, rfl⟩
  | arr => exact .inr ⟨_, _, rfl⟩
  | obj => exact .inr ⟨_, _, rfl⟩

theorem MapIs.nil (xs : Nat → Value) : MapIs (.map []) [] xs := ⟨tidy_empty, fun k => rfl, fun j hj => absurd hj (by simp)⟩

theorem keyLit_inj {a b : ByteArray} (h : keyLit a = keyLit b) : a = b := by
  unfold keyLit at h
  injection h with h
  exact Go.WideShapes.bytes_inj h

theorem sameKey_keyLit (a b : ByteArray) : (keyLit a).sameKey (keyLit b) = true ↔ a = b := by
  constructor
  · intro h
    refine keyLit_inj (Classical.byContradiction fun hne => ?_)
    rw [sameKey_ne hne] at h
    cases h
  · rintro rfl
    simp [keyLit, Lit.sameKey]

theorem isKeyLit (k : ByteArray) : WideAt.IsKeyLit (keyLit k) := by
  simp [WideAt.IsKeyLit, keyLit]

/-- One key more, that was not there. -/
theorem MapIs.put {D : DataW Value} {keys : List ByteArray} {xs : Nat → Value} (h : MapIs D keys xs) (k : ByteArray) (hk : k ∉ keys) (x : Value) (ys : Nat → Value) (hy : ∀ j, j < keys.length → ys j = xs j) (hx : ys keys.length = x) :
    MapIs (D.put (keyLit k) (.held x)) (keys ++ [k]) ys := by
  refine ⟨h.tidy.put (isKeyLit k) _, ?_, ?_⟩
  · intro k'
    rw [List.any_append]
    by_cases he : k' = keyLit k
    · subst he
      rw [has_put_same h.tidy.isMap (isKeyLit k)]
      simp [(sameKey_keyLit k k).2 rfl]
    · rw [has_put_other he, h.has_ k']
      simp [sameKey_ne (Ne.symm he)]
  · intro j hj z
    by_cases hlt : j < keys.length
    · have e : (keys ++ [k])[j] = keys[j] := List.getElem_append_left hlt
      rw [e, atKey_put_other (by
        intro he
        exact hk (by rw [← keyLit_inj he]; exact List.getElem_mem hlt))]
      rw [h.at_ j hlt z, hy j hlt]
    · have hj' : j = keys.length := by simp at hj; omega
      subst hj'
      have e : (keys ++ [k])[keys.length] = k := by simp
      rw [e, atKey_put_same h.tidy.isMap (isKeyLit k), hx]
end Go.Proofs.Ytclnpjelgdoloaa
