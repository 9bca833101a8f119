/- Plain data in memory (an interface value: nil, a bool, an int64, a string, a slice of such, a map of such), as trees. -/
import Derived.Test.YtonnmongipaheaaGreatDoorRight2
import Derived.Maps.Own
import Derived.Maps.OwnOps
import Derived.Maps.OwnSet
import Derived.Maps.Views
namespace Go.Proofs.YtonnmongipaheaaGreatDoor
open Go.RowKit Go.Maps
set_option linter.unusedVariables false

/-- An element of a map is read as itself. -/
def heldElem (v : Value) : Option (DataW Value × List MemPlace) := some (.held v, [])

def keyLit (k : ByteArray) : Lit := .string k.data.toList

/-- A map has just these keys, with these values. -/
structure MapIs (D : DataW Value) (keys : List ByteArray) (xs : Nat → Value) : Prop where
  tidy : Tidy D
  has_ : ∀ k, has D k = keys.any (fun x => (keyLit x).sameKey k)
  at_ : ∀ j (hj : j < keys.length) (z : DataW Value), D.atKey (keyLit keys[j]) z = .held (xs j)

/-- The memory w holds at the interface value x the tree t, in blocks from B on. -/
inductive PRep (w : World) (B : Nat) : Value → V → Prop
  | null (t : V) (hk : t.k = 1) : PRep w B .nilIface t
  | bool (t : V) (hk : t.k = 2) : PRep w B (.iface 4 (.bool (t.n == 1))) t
  | int (t : V) (hk : t.k = 3) : PRep w B (.iface 2 (.int .i64 t.n)) t
  | str (t : V) (hk : t.k = 5) : PRep w B (.iface 9 (.string t.s)) t
  | flo (t : V) (hk : t.k = 4) : PRep w B (.iface 22 (.float .f64 t.f)) t
  | arr (t : V) (hk : t.k = 7) (g cap : Nat) (xs : Nat → Value) (hg : B ≤ g) (hle : t.l.length ≤ cap) (hcap : cap ≤ 1000000) (hc : ∀ j, j < t.l.length → w.cell? ⟨g, j, none⟩ = some (xs j)) (hr : ∀ j (hj : j < t.l.length), PRep w B (xs j) t.l[j]) :
      PRep w B (.iface 63 (.slice (some ⟨g, 0, none⟩) t.l.length cap)) t
  | obj (t : V) (hk : t.k = 8) (b n : Nat) (D : DataW Value) (xs : Nat → Value) (hb : B ≤ b) (hm : w.ownsMap Tryz.prog 9 heldElem b n D) (hn : n ≤ 1000000) (hD : MapIs D t.keys xs) (hkl : t.keys.length = t.l.length) (hr : ∀ j (hj : j < t.l.length), PRep w B (xs j) t.l[j]) :
      PRep w B (.iface 64 (.map (some b))) t

/-- From block B on nothing that was there has turned. -/
def Above (B : Nat) (w w' : World) : Prop := ∀ k, B ≤ k → k < w.heap.size → w'.heap[k]? = w.heap[k]?

theorem Above.of_below {B : Nat} {w w' : World} (h : Below w.heap.size w w') : Above B w w' := fun k _ hk => h.block k hk
theorem Above.of_grown {B g : Nat} {w w' : World} (h : w.grownBy w' (some g)) (hg : g < B) : Above B w w' := fun k hB hk => h.block k hk (fun e => by cases e; omega)

theorem ownsMap_above {w w' : World} {B b n : Nat} {D : DataW Value} (h : w.ownsMap Tryz.prog 9 heldElem b n D) (hb : B ≤ b) (ha : Above B w w') : w'.ownsMap Tryz.prog 9 heldElem b n D := by
  have hlt := h.lt
  obtain ⟨es, clock, hb', F, hs, hD⟩ := h
  exact ⟨es, clock, (ha b hb hlt).trans hb', F, hs, hD⟩

theorem PRep.kept {w w' : World} {B : Nat} {x : Value} {t : V} (h : PRep w B x t) (ha : Above B w w') : PRep w' B x t := by
  induction h with
  | null t hk => exact .null t hk
  | bool t hk => exact .bool t hk
  | int t hk => exact .int t hk
  | str t hk => exact .str t hk
  | flo t hk => exact .flo t hk
  | arr t hk g cap xs hg hle hcap hc hr ih =>
    exact .arr t hk g cap xs hg hle hcap (fun j hj => (World.cell?_of_block (w := w) (a := ⟨g, j, none⟩) (ha g hg (World.block_lt_of_cell? w _ (hc j hj)))).trans (hc j hj)) ih
  | obj t hk b n D xs hb hm hn hD hkl hr ih => exact .obj t hk b n D xs hb (ownsMap_above hm hb ha) hn hD hkl ih

theorem PRep.mono {w : World} {B B' : Nat} {x : Value} {t : V} (h : PRep w B x t) (hB : B' ≤ B) : PRep w B' x t := by
  induction h with
  | null t hk => exact .null t hk
  | bool t hk => exact .bool t hk
  | int t hk => exact .int t hk
  | str t hk => exact .str t hk
  | flo t hk => exact .flo t hk
  | arr t hk g cap xs hg hle hcap hc hr ih => exact .arr t hk g cap xs (Nat.le_trans hB hg) hle hcap hc ih
  | obj t hk b n D xs hb hm hn hD hkl hr ih => exact .obj t hk b n D xs (Nat.le_trans hB hb) hm hn hD hkl ih

theorem PRep.one {w : World} {B : Nat} {x : Value} {t : V} (h : PRep w B x t) : x = .nilIface ∨ ∃ ty v, x = .iface ty v := by
  cases h with
  | null => exact .inl rfl
  | bool => exact .inr ⟨_, _, rfl⟩
  | int => exact .inr ⟨_, _, rfl⟩
  | str => exact .inr ⟨_, _, rfl⟩
  | flo => exact .inr ⟨_, _, rfl⟩
  | arr => exact .inr ⟨_, _, rfl⟩
  | obj => exact .inr ⟨_, _, rfl⟩

theorem MapIs.nil (xs : Nat → Value) : MapIs (.map []) [] xs := ⟨tidy_empty, fun k => rfl, fun j hj => absurd hj (by simp)⟩

theorem keyLit_inj {a b : ByteArray} (h : keyLit a = keyLit b) : a = b := by
  unfold keyLit at h
  injection h with h
  exact Go.WideShapes.bytes_inj h

theorem sameKey_keyLit (a b : ByteArray) : (keyLit a).sameKey (keyLit b) = true ↔ a = b := by
  constructor
  · intro h
    refine keyLit_inj (Classical.byContradiction fun hne => ?_)
    rw [sameKey_ne hne] at h
    cases h
  · rintro rfl
    simp [keyLit, Lit.sameKey]

theorem isKeyLit (k : ByteArray) : WideAt.IsKeyLit (keyLit k) := by
  simp [WideAt.IsKeyLit, keyLit]

/-- One key more, that was not there. -/
theorem MapIs.put {D : DataW Value} {keys : List ByteArray} {xs : Nat → Value} (h : MapIs D keys xs) (k : ByteArray) (hk : k ∉ keys) (x : Value) (ys : Nat → Value) (hy : ∀ j, j < keys.length → ys j = xs j) (hx : ys keys.length = x) :
    MapIs (D.put (keyLit k) (.held x)) (keys ++ [k]) ys := by
  refine ⟨h.tidy.put (isKeyLit k) _, ?_, ?_⟩
  · intro k'
    rw [List.any_append]
    by_cases he : k' = keyLit k
    · subst he
      rw [has_put_same h.tidy.isMap (isKeyLit k)]
      simp [(sameKey_keyLit k k).2 rfl]
    · rw [has_put_other he, h.has_ k']
      simp [sameKey_ne (Ne.symm he)]
  · intro j hj z
    by_cases hlt : j < keys.length
    · have e : (keys ++ [k])[j] = keys[j] := List.getElem_append_left hlt
      rw [e, atKey_put_other (by
        intro he
        exact hk (by rw [← keyLit_inj he]; exact List.getElem_mem hlt))]
      rw [h.at_ j hlt z, hy j hlt]
    · have hj' : j = keys.length := by simp at hj; omega
      subst hj'
      have e : (keys ++ [k])[keys.length] = k := by simp
      rw [e, atKey_put_same h.tidy.isMap (isKeyLit k), hx]

def nullV : V := .mk 1 0 0 ByteArray.empty [] []

/-- What a tree has at a key; null where it has nothing. -/
def lookIn : List ByteArray → List V → ByteArray → V
  | k0 :: ks, x :: l, k => if k0 = k then x else lookIn ks l k
  | _, _, _ => nullV
def V.look (t : V) (k : ByteArray) : V := lookIn t.keys t.l k

theorem MapIs.has_iff {D : DataW Value} {keys : List ByteArray} {xs : Nat → Value} (h : MapIs D keys xs) (k : ByteArray) : has D (keyLit k) = true ↔ k ∈ keys := by
  rw [h.has_, List.any_eq_true]
  constructor
  · rintro ⟨x, hx, e⟩
    rw [← (sameKey_keyLit x k).1 e]
    exact hx
  · intro hk
    exact ⟨k, hk, (sameKey_keyLit k k).2 rfl⟩

theorem lookIn_mem : ∀ (ks : List ByteArray) (l : List V) (k : ByteArray), ks.length = l.length → k ∈ ks → lookIn ks l k ∈ l
  | [], _, k, _, h => by simp at h
  | _ :: _, [], k, h, _ => by simp at h
  | k0 :: ks, x :: l, k, hl, h => by
    simp only [lookIn]
    by_cases e : k0 = k
    · rw [if_pos e]; simp
    · rw [if_neg e]
      refine List.mem_cons_of_mem _ (lookIn_mem ks l k (by simpa using hl) ?_)
      rcases List.mem_cons.1 h with h | h
      · exact absurd h.symm e
      · exact h

theorem lookIn_at : ∀ (ks : List ByteArray) (l : List V) (hd : ks.Nodup) (j : Nat) (h : j < ks.length) (h' : j < l.length), lookIn ks l ks[j] = l[j]
  | [], _, _, j, h, _ => by simp at h
  | _ :: _, [], _, j, _, h => by simp at h
  | k0 :: ks, x :: l, hd, j, h, h' => by
    rw [List.nodup_cons] at hd
    cases j with
    | zero => simp [lookIn]
    | succ j =>
      have h1 : j < ks.length := by simpa using h
      have h2 : j < l.length := by simpa using h'
      simp only [List.getElem_cons_succ, lookIn]
      rw [if_neg (fun e => hd.1 (by rw [e]; exact List.getElem_mem h1))]
      exact lookIn_at ks l hd.2 j h1 h2

theorem look_at {t : V} (hkl : t.keys.length = t.l.length) (hd : t.keys.Nodup) (j : Nat) (h : j < t.keys.length) : t.look t.keys[j] = t.l[j]'(by omega) := lookIn_at _ _ hd j h (by omega)

/-- The memory w holds at the interface value x the tree t, in blocks from lo up to hi, each part in blocks of its own. -/
inductive PSep (w : World) : Nat → Nat → Value → V → Prop
  | null (lo hi : Nat) (t : V) (hk : t.k = 1) : PSep w lo hi .nilIface t
  | bool (lo hi : Nat) (t : V) (hk : t.k = 2) : PSep w lo hi (.iface 4 (.bool (t.n == 1))) t
  | int (lo hi : Nat) (t : V) (hk : t.k = 3) : PSep w lo hi (.iface 2 (.int .i64 t.n)) t
  | str (lo hi : Nat) (t : V) (hk : t.k = 5) : PSep w lo hi (.iface 9 (.string t.s)) t
  | flo (lo hi : Nat) (t : V) (hk : t.k = 4) : PSep w lo hi (.iface 22 (.float .f64 t.f)) t
  | arr (lo hi : Nat) (t : V) (hk : t.k = 7) (g cap : Nat) (cur : Array Value) (xs : Nat → Value) (los his : Nat → Nat) (hg : lo ≤ g) (hg' : g < hi) (hle : t.l.length ≤ cap) (hcap : cap ≤ 1000000) (hb : w.heap[g]? = some (.cells cur 20 (0, 0))) (hc : ∀ j, j < t.l.length → cur[j]? = some (xs j))
      (hin : ∀ j, j < t.l.length → lo ≤ los j ∧ his j ≤ hi ∧ (g < los j ∨ his j ≤ g)) (hdis : ∀ i j, i < t.l.length → j < t.l.length → i ≠ j → his i ≤ los j ∨ his j ≤ los i) (hr : ∀ j (hj : j < t.l.length), PSep w (los j) (his j) (xs j) t.l[j]) :
      PSep w lo hi (.iface 63 (.slice (some ⟨g, 0, none⟩) t.l.length cap)) t
  | obj (lo hi : Nat) (t : V) (hk : t.k = 8) (b n : Nat) (D : DataW Value) (xs : ByteArray → Value) (los his : ByteArray → Nat) (hb : lo ≤ b) (hb' : b < hi) (hm : w.ownsMap Tryz.prog 9 heldElem b n D) (hn : n ≤ 1000000) (hT : Tidy D) (hD : ∀ kl, has D kl = t.keys.any (fun x => (keyLit x).sameKey kl)) (hx : ∀ k, k ∈ t.keys → ∀ z, D.atKey (keyLit k) z = .held (xs k))
      (hkl : t.keys.length = t.l.length) (hnd : t.keys.Nodup) (hin : ∀ k, k ∈ t.keys → lo ≤ los k ∧ his k ≤ hi ∧ (b < los k ∨ his k ≤ b)) (hdis : ∀ k k', k ∈ t.keys → k' ∈ t.keys → k ≠ k' → his k ≤ los k' ∨ his k' ≤ los k) (hr : ∀ k, k ∈ t.keys → PSep w (los k) (his k) (xs k) (t.look k)) :
      PSep w lo hi (.iface 64 (.map (some b))) t

theorem block_lt {w : World} {g : Nat} {o : Obj} (h : w.heap[g]? = some o) : g < w.heap.size := by
  rcases Nat.lt_or_ge g w.heap.size with h' | h'
  · exact h'
  · simp [Array.getElem?_eq_none h'] at h

theorem PSep.kept {w w' : World} {lo hi : Nat} {x : Value} {t : V} (h : PSep w lo hi x t) (ha : ∀ k, lo ≤ k → k < hi → k < w.heap.size → w'.heap[k]? = w.heap[k]?) : PSep w' lo hi x t := by
  induction h with
  | null lo hi t hk => exact .null lo hi t hk
  | bool lo hi t hk => exact .bool lo hi t hk
  | int lo hi t hk => exact .int lo hi t hk
  | str lo hi t hk => exact .str lo hi t hk
  | flo lo hi t hk => exact .flo lo hi t hk
  | arr lo hi t hk g cap cur xs los his hg hg' hle hcap hb hc hin hdis hr ih =>
    refine .arr lo hi t hk g cap cur xs los his hg hg' hle hcap ((ha g hg hg' (block_lt hb)).trans hb) hc hin hdis fun j hj => ih j hj fun k h1 h2 h3 => ha k ?_ ?_ h3
    · have := (hin j hj).1; omega
    · have := (hin j hj).2.1; omega
  | obj lo hi t hk b n D xs los his hb hb' hm hn hT hD hx hkl hnd hin hdis hr ih =>
    have hlt := hm.lt
    refine .obj lo hi t hk b n D xs los his hb hb' ?_ hn hT hD hx hkl hnd hin hdis fun j hj => ih j hj fun k h1 h2 h3 => ha k ?_ ?_ h3
    · obtain ⟨es, clock, hb0, F, hs, hD0⟩ := hm
      exact ⟨es, clock, (ha b hb hb' hlt).trans hb0, F, hs, hD0⟩
    · have := (hin j hj).1; omega
    · have := (hin j hj).2.1; omega

theorem PSep.mono {w : World} {lo hi lo' hi' : Nat} {x : Value} {t : V} (h : PSep w lo hi x t) (h1 : lo' ≤ lo) (h2 : hi ≤ hi') : PSep w lo' hi' x t := by
  cases h with
  | null _ _ t hk => exact .null _ _ t hk
  | bool _ _ t hk => exact .bool _ _ t hk
  | int _ _ t hk => exact .int _ _ t hk
  | str _ _ t hk => exact .str _ _ t hk
  | flo _ _ t hk => exact .flo _ _ t hk
  | arr _ _ t hk g cap cur xs los his hg hg' hle hcap hb hc hin hdis hr =>
    exact .arr _ _ t hk g cap cur xs los his (by omega) (by omega) hle hcap hb hc (fun j hj => by have := hin j hj; omega) hdis hr
  | obj _ _ t hk b n D xs los his hb hb' hm hn hT hD hx hkl hnd hin hdis hr =>
    exact .obj _ _ t hk b n D xs los his (by omega) (by omega) hm hn hT hD hx hkl hnd (fun j hj => by have := hin j hj; omega) hdis hr

theorem PSep.one {w : World} {lo hi : Nat} {x : Value} {t : V} (h : PSep w lo hi x t) : x = .nilIface ∨ ∃ ty v, x = .iface ty v := by
  cases h with
  | null => exact .inl rfl
  | bool => exact .inr ⟨_, _, rfl⟩
  | int => exact .inr ⟨_, _, rfl⟩
  | str => exact .inr ⟨_, _, rfl⟩
  | flo => exact .inr ⟨_, _, rfl⟩
  | arr => exact .inr ⟨_, _, rfl⟩
  | obj => exact .inr ⟨_, _, rfl⟩

theorem PSep.weak {w : World} {lo hi : Nat} {x : Value} {t : V} (h : PSep w lo hi x t) : PRep w lo x t := by
  induction h with
  | null lo hi t hk => exact .null t hk
  | bool lo hi t hk => exact .bool t hk
  | int lo hi t hk => exact .int t hk
  | str lo hi t hk => exact .str t hk
  | flo lo hi t hk => exact .flo t hk
  | arr lo hi t hk g cap cur xs los his hg hg' hle hcap hb hc hin hdis hr ih =>
    exact .arr t hk g cap xs hg hle hcap (fun j hj => (cell_of_row _ g j _ 20 (0, 0) hb).trans (hc j hj)) fun j hj => (ih j hj).mono (hin j hj).1
  | obj lo hi t hk b n D xs los his hb hb' hm hn hT hD hx hkl hnd hin hdis hr ih =>
    refine .obj t hk b n D (fun j => xs (t.keys.getD j ByteArray.empty)) hb hm hn ⟨hT, hD, ?_⟩ hkl ?_
    · intro j hj z
      have e : t.keys.getD j ByteArray.empty = t.keys[j] := by rw [List.getD_eq_getElem?_getD, List.getElem?_eq_getElem hj]; rfl
      rw [e]
      exact hx _ (List.getElem_mem hj) z
    · intro j hj
      have hj' : j < t.keys.length := by omega
      have e : t.keys.getD j ByteArray.empty = t.keys[j] := by rw [List.getD_eq_getElem?_getD, List.getElem?_eq_getElem hj']; rfl
      rw [e]
      have := ih _ (List.getElem_mem hj')
      rw [look_at hkl hnd j hj'] at this
      exact this.mono (hin _ (List.getElem_mem hj')).1
end Go.Proofs.YtonnmongipaheaaGreatDoor
