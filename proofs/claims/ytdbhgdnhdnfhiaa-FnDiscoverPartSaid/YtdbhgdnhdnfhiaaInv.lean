/- What holds of the memory while discover.find runs: its four captured variables, the stack of tables, the texts found so far; each step of the walk keeps it. -/
import Derived.Test.YtdbhgdnhdnfhiaaLaws
namespace Go.Proofs.Ytdbhgdnhdnfhiaa
open Go.RowKit

structure Inv (s : ByteArray) (back : Bool) (M N bb : Nat) (W0 : World) (ps : List (Nat × Nat)) (st i : Nat) (m : ByteArray) (k : List Md) (vm vl : Value) (w : World) : Prop where
  lt1 : M + 1 < bb
  lt2 : bb < N
  size : N + 4 ≤ w.heap.size
  bk : w.heap[M]? = some (.cells #[.bool back] 4)
  lc : w.heap[M + 1]? = some (.cells #[vl] 22)
  buf : ∀ j (_ : j < s.size), w.cell? ⟨bb, j, none⟩ = some (.int .u8 (s[j].toNat : Int))
  start : w.heap[N]? = some (.cells #[.int .i64 st] 3)
  modes : w.heap[N + 1]? = some (.cells #[vm] 22)
  pos : w.heap[N + 2]? = some (.cells #[.int .i64 i] 3)
  mode : w.heap[N + 3]? = some (.cells #[.string m] 9)
  row : w.ownsRow (N + 4) 9 1 vm k.length (k.map fun x => .string x.str)
  found : w.ownsRow (N + 4) 9 1 vl ps.length (ps.map fun p => .string (s.extract p.1 p.2))
  apart : vl.ownBlock = none ∨ vl.ownBlock ≠ vm.ownBlock
  below : Below M W0 w

section
variable {s : ByteArray} {back : Bool} {M N bb : Nat} {W0 : World} {ps : List (Nat × Nat)} {st i : Nat} {m : ByteArray} {k : List Md} {vm vl : Value} {w : World}

theorem Inv.drew (h : Inv s back M N bb W0 ps st i m k vm vl w) : Inv s back M N bb W0 ps st i m k vm vl w.drew :=
  ⟨h.lt1, h.lt2, h.size, h.bk, h.lc, h.buf, h.start, h.modes, h.pos, h.mode, h.row.drew, h.found.drew, h.apart, h.below.drew⟩

theorem block_ne {w : World} {a : Addr} {u : Value} {b : Nat} {o : Obj} (h : w.heap[b]? = some o) (hne : b ≠ a.block) : (w.setCell a u).heap[b]? = some o := by
  rw [Below.heap_setCell _ _ _ _ hne]; exact h

theorem cell_ne {w : World} {a c : Addr} {u v : Value} (h : w.cell? c = some v) (hne : c.block ≠ a.block) : (w.setCell a u).cell? c = some v :=
  (World.cell?_of_block (Below.heap_setCell _ _ _ _ hne)).trans h

theorem Inv.own_ge (h : Inv s back M N bb W0 ps st i m k vm vl w) {b : Nat} (hb : b < N + 4) : vm.ownBlock ≠ some b ∧ vl.ownBlock ≠ some b :=
  ⟨fun e => by have := (h.row.lt b e).1; omega, fun e => by have := (h.found.lt b e).1; omega⟩

theorem setCell_size (w : World) (a : Addr) (u : Value) : (w.setCell a u).heap.size = w.heap.size := by simp [World.setCell]

theorem Inv.setPos (h : Inv s back M N bb W0 ps st i m k vm vl w) (i' : Nat) : Inv s back M N bb W0 ps st i' m k vm vl (w.setCell ⟨N + 2, 0, none⟩ (.int .i64 i')) := by
  have l1 := h.lt1
  have l2 := h.lt2
  exact ⟨l1, l2, by rw [setCell_size]; exact h.size, block_ne h.bk (by simp; omega), block_ne h.lc (by simp; omega), fun j hj => cell_ne (h.buf j hj) (by simp; omega), block_ne h.start (by simp), block_ne h.modes (by simp),
    one_setCell h.pos, block_ne h.mode (by simp), ownsRow_setCell_other h.row (h.own_ge (by simp)).1 _, ownsRow_setCell_other h.found (h.own_ge (by simp)).2 _, h.apart, h.below.setCell (by simp; omega) _⟩

theorem Inv.setPos' (h : Inv s back M N bb W0 ps st i m k vm vl w) (i' : Nat) (z : Int) (hz : z = (i' : Int)) : Inv s back M N bb W0 ps st i' m k vm vl (w.setCell ⟨N + 2, 0, none⟩ (.int .i64 z)) := by
  subst hz; exact h.setPos i'

theorem Inv.vm_form (h : Inv s back M N bb W0 ps st i m k vm vl w) : ∃ ad cap', vm = .slice ad k.length cap' := by
  rcases h.row.2 with ⟨rfl, hk⟩ | ⟨g, cap, cur, rfl, _⟩
  · exact ⟨none, 0, by rw [hk]⟩
  · exact ⟨_, _, rfl⟩

/-- The stack's last table: where it lies; what the stack is without it. -/
theorem Inv.top {k1 : List Md} {t : Md} (h : Inv s back M N bb W0 ps st i m (k1 ++ [t]) vm vl w) : ∃ g cap', vm = .slice (some ⟨g, 0, none⟩) (k1.length + 1) cap' ∧ k1.length + 1 ≤ cap' ∧ cap' ≤ maxLen ∧
    w.cell? ⟨g, k1.length, none⟩ = some (.string t.str) ∧ N + 4 ≤ g ∧ w.ownsRow (N + 4) 9 1 (.slice (some ⟨g, 0, none⟩) k1.length cap') k1.length (k1.map fun x => .string x.str) := by
  rcases h.row.2 with ⟨rfl, hk⟩ | ⟨g, cap, cur, rfl, hb, hg, hn, hm, hc, ht⟩
  · simp at hk
  · simp only [List.length_append, List.length_singleton, Nat.mul_one, List.map_append, List.map_cons, List.map_nil] at hn ht ⊢
    refine ⟨g, cap, rfl, hn, hm, ?_, hb, by simp, .inr ⟨g, cap, cur, rfl, hb, hg, by omega, hm, hc, ?_⟩⟩
    · rw [cell_of_row w g k1.length cur 9 (0, 0) hg]
      have : (cur.toList.take (k1.length + 1))[k1.length]? = some (.string t.str) := by
        rw [ht, List.getElem?_append_right (by simp)]
        simp
      rw [List.getElem?_take] at this
      simpa using this
    · have : (cur.toList.take (k1.length + 1)).take k1.length = (k1.map fun x => Value.string x.str) := by
        rw [ht, List.take_append_of_le_length (by simp), List.take_of_length_le (by simp)]
      rw [List.take_take] at this
      simpa using this

theorem Inv.setStart (h : Inv s back M N bb W0 ps st i m k vm vl w) (st' : Nat) : Inv s back M N bb W0 ps st' i m k vm vl (w.setCell ⟨N, 0, none⟩ (.int .i64 st')) := by
  have l1 := h.lt1
  have l2 := h.lt2
  exact ⟨l1, l2, by rw [setCell_size]; exact h.size, block_ne h.bk (by simp; omega), block_ne h.lc (by simp; omega), fun j hj => cell_ne (h.buf j hj) (by simp; omega), one_setCell h.start, block_ne h.modes (by simp),
    block_ne h.pos (by simp), block_ne h.mode (by simp), ownsRow_setCell_other h.row (h.own_ge (by simp)).1 _, ownsRow_setCell_other h.found (h.own_ge (by simp)).2 _, h.apart, h.below.setCell (by simp; omega) _⟩

theorem Inv.setMode (h : Inv s back M N bb W0 ps st i m k vm vl w) (m' : ByteArray) : Inv s back M N bb W0 ps st i m' k vm vl (w.setCell ⟨N + 3, 0, none⟩ (.string m')) := by
  have l1 := h.lt1
  have l2 := h.lt2
  exact ⟨l1, l2, by rw [setCell_size]; exact h.size, block_ne h.bk (by simp; omega), block_ne h.lc (by simp; omega), fun j hj => cell_ne (h.buf j hj) (by simp; omega), block_ne h.start (by simp), block_ne h.modes (by simp),
    block_ne h.pos (by simp), one_setCell h.mode, ownsRow_setCell_other h.row (h.own_ge (by simp)).1 _, ownsRow_setCell_other h.found (h.own_ge (by simp)).2 _, h.apart, h.below.setCell (by simp; omega) _⟩

theorem grown_one {w w' : World} {row : Option Nat} (hg : w.grownBy w' row) {b : Nat} {o : Obj} (h : w.heap[b]? = some o) (hne : row ≠ some b) : w'.heap[b]? = some o := by
  rw [hg.block _ (lt_of_block h) (fun e => hne e.symm)]; exact h

/-- A stack of tables that is the first part of what was there. -/
theorem Inv.setModes (h : Inv s back M N bb W0 ps st i m k vm vl w) (k' : List Md) (vm' : Value) (hrow : w.ownsRow (N + 4) 9 1 vm' k'.length (k'.map fun x => .string x.str))
    (hap : vl.ownBlock = none ∨ vl.ownBlock ≠ vm'.ownBlock) : Inv s back M N bb W0 ps st i m k' vm' vl (w.setCell ⟨N + 1, 0, none⟩ vm') := by
  have l1 := h.lt1
  have l2 := h.lt2
  have hvm' : vm'.ownBlock ≠ some (N + 1) := fun e => by have := (hrow.lt _ e).1; omega
  exact ⟨l1, l2, by rw [setCell_size]; exact h.size, block_ne h.bk (by simp; omega), block_ne h.lc (by simp; omega), fun j hj => cell_ne (h.buf j hj) (by simp; omega), block_ne h.start (by simp), one_setCell h.modes,
    block_ne h.pos (by simp), block_ne h.mode (by simp), ownsRow_setCell_other hrow hvm' _, ownsRow_setCell_other h.found (h.own_ge (by simp)).2 _, hap, h.below.setCell (by simp; omega) _⟩

theorem Inv.pop {k1 : List Md} {t : Md} {g cap' : Nat} (h : Inv s back M N bb W0 ps st i m (k1 ++ [t]) (.slice (some ⟨g, 0, none⟩) (k1.length + 1) cap') vl w) :
    Inv s back M N bb W0 ps st i m k1 (.slice (some ⟨g, 0, none⟩) k1.length cap') vl (w.setCell ⟨N + 1, 0, none⟩ (.slice (some ⟨g, 0, none⟩) k1.length cap')) := by
  obtain ⟨g', c', e, _, _, _, _, hrow⟩ := h.top
  simp only [Value.slice.injEq, Option.some.injEq, Addr.mk.injEq, and_true, true_and] at e
  obtain ⟨rfl, rfl⟩ := e
  exact h.setModes k1 _ hrow h.apart

/-- The last table but one. -/
theorem Inv.top2 {k1 : List Md} {t e : Md} {g cap' : Nat} (h : Inv s back M N bb W0 ps st i m (k1 ++ [t] ++ [e]) (.slice (some ⟨g, 0, none⟩) (k1.length + 1 + 1) cap') vl w) :
    w.cell? ⟨g, k1.length, none⟩ = some (.string t.str) ∧ w.ownsRow (N + 4) 9 1 (.slice (some ⟨g, 0, none⟩) k1.length cap') k1.length (k1.map fun x => .string x.str) := by
  rcases h.row.2 with ⟨e1, _⟩ | ⟨g', cap, cur, e1, hb, hg, hn, hm, hc, ht⟩
  · cases e1
  · simp only [Value.slice.injEq, Option.some.injEq, Addr.mk.injEq, and_true] at e1
    obtain ⟨rfl, _, rfl⟩ := e1
    simp only [List.length_append, List.length_singleton, Nat.mul_one, List.map_append, List.map_cons, List.map_nil] at hn ht
    refine ⟨?_, by simp, .inr ⟨g, cap', cur, rfl, hb, hg, by omega, hm, hc, ?_⟩⟩
    · rw [cell_of_row w g k1.length cur 9 (0, 0) hg]
      have : (cur.toList.take (k1.length + 1 + 1))[k1.length]? = some (.string t.str) := by
        rw [ht, List.append_assoc, List.getElem?_append_right (by simp)]
        simp
      rw [List.getElem?_take] at this
      simpa [show k1.length < k1.length + 1 + 1 by omega] using this
    · have : (cur.toList.take (k1.length + 1 + 1)).take k1.length = (k1.map fun x => Value.string x.str) := by
        rw [ht, List.append_assoc, List.take_append_of_le_length (by simp), List.take_of_length_le (by simp)]
      rw [List.take_take] at this
      simpa [show min k1.length (k1.length + 1 + 1) = k1.length by omega] using this

theorem Inv.pop2 {k1 : List Md} {t e : Md} {g cap' : Nat} (h : Inv s back M N bb W0 ps st i m (k1 ++ [t] ++ [e]) (.slice (some ⟨g, 0, none⟩) (k1.length + 1 + 1) cap') vl w) :
    Inv s back M N bb W0 ps st i m k1 (.slice (some ⟨g, 0, none⟩) k1.length cap') vl (w.setCell ⟨N + 1, 0, none⟩ (.slice (some ⟨g, 0, none⟩) k1.length cap')) :=
  h.setModes k1 _ h.top2.2 h.apart

theorem Inv.alloc (h : Inv s back M N bb W0 ps st i m k vm vl w) (o : Obj) : Inv s back M N bb W0 ps st i m k vm vl (w.alloc o) := by
  have l1 := h.lt1
  have l2 := h.lt2
  have hs := h.size
  have hb : ∀ {b : Nat} {o' : Obj}, w.heap[b]? = some o' → (w.alloc o).heap[b]? = some o' := fun hb => by rw [Below.heap_alloc _ _ _ (lt_of_block hb)]; exact hb
  exact ⟨l1, l2, by simp; omega, hb h.bk, hb h.lc, fun j hj => (World.cell?_of_block (Below.heap_alloc _ _ _ (by show bb < w.heap.size; omega))).trans (h.buf j hj), hb h.start, hb h.modes, hb h.pos, hb h.mode,
    h.row.alloc o, h.found.alloc o, h.apart, h.below.alloc (by omega) o⟩

/-- Behind an append to the stack, and its store. -/
theorem Inv.push (h : Inv s back M N bb W0 ps st i m k vm vl w) (x : Md) (v' : Value) (w' : World)
    (hown : w'.ownsRow (N + 4) 9 1 v' (k.length + 1) ((k.map fun x => .string x.str) ++ [.string x.str])) (hg : w.grownBy w' vm.ownBlock) (hat : v'.ownBlock = vm.ownBlock ∨ v'.ownBlock = some w.heap.size) :
    Inv s back M N bb W0 ps st i m (k ++ [x]) v' vl (w'.setCell ⟨N + 1, 0, none⟩ v') := by
  have l1 := h.lt1
  have l2 := h.lt2
  have hs := h.size
  have hblk : ∀ {b : Nat} {o' : Obj}, b < N + 4 → w.heap[b]? = some o' → w'.heap[b]? = some o' := fun hb ho => by
    rw [hg.block _ (by omega) (fun e => (h.own_ge hb).1 e.symm)]; exact ho
  have hap : vl.ownBlock = none ∨ vl.ownBlock ≠ v'.ownBlock := by
    rcases hat with e | e
    · rw [e]; exact h.apart
    · rcases hv : vl.ownBlock with _ | b
      · exact .inl rfl
      · right
        rw [e]
        have := (h.found.lt b hv).2
        simp
        omega
  have h' : Inv s back M N bb W0 ps st i m (k ++ [x]) vm vl w' → True := fun _ => trivial
  have hrow : w'.ownsRow (N + 4) 9 1 v' (k ++ [x]).length ((k ++ [x]).map fun x => .string x.str) := by
    simpa using hown
  have hvm' : v'.ownBlock ≠ some (N + 1) := fun e => by have := (hrow.lt _ e).1; omega
  have hfound : w'.ownsRow (N + 4) 9 1 vl ps.length (ps.map fun p => .string (s.extract p.1 p.2)) := h.found.kept hg h.apart
  exact ⟨l1, l2, by rw [setCell_size]; have := hg.size; omega, block_ne (hblk (by omega) h.bk) (by simp; omega), block_ne (hblk (by omega) h.lc) (by simp; omega),
    fun j hj => cell_ne ((World.cell?_of_block (hg.block bb (by omega) (fun e => (h.own_ge (by omega)).1 e.symm))).trans (h.buf j hj)) (by simp; omega),
    block_ne (hblk (by omega) h.start) (by simp), one_setCell (hblk (by omega) h.modes), block_ne (hblk (by omega) h.pos) (by simp), block_ne (hblk (by omega) h.mode) (by simp),
    ownsRow_setCell_other hrow hvm' _, ownsRow_setCell_other hfound (h.own_ge (by simp)).2 _, hap,
    (h.below.grown hg (by omega) (fun b e => by have := (h.row.lt b e).1; omega)).setCell (by simp; omega) _⟩

/-- Behind an append to the texts found, and its store. -/
theorem Inv.find (h : Inv s back M N bb W0 ps st i m k vm vl w) (p : Nat × Nat) (v' : Value) (w' : World)
    (hown : w'.ownsRow (N + 4) 9 1 v' (ps.length + 1) ((ps.map fun p => .string (s.extract p.1 p.2)) ++ [.string (s.extract p.1 p.2)])) (hg : w.grownBy w' vl.ownBlock) (hat : v'.ownBlock = vl.ownBlock ∨ v'.ownBlock = some w.heap.size) :
    Inv s back M N bb W0 (ps ++ [p]) st i m k vm v' (w'.setCell ⟨M + 1, 0, none⟩ v') := by
  have l1 := h.lt1
  have l2 := h.lt2
  have hs := h.size
  have hblk : ∀ {b : Nat} {o' : Obj}, b < N + 4 → w.heap[b]? = some o' → w'.heap[b]? = some o' := fun hb ho => by
    rw [hg.block _ (by omega) (fun e => (h.own_ge hb).2 e.symm)]; exact ho
  have hap' : vm.ownBlock = none ∨ vm.ownBlock ≠ vl.ownBlock := by
    rcases h.apart with e | e
    · rcases hv : vm.ownBlock with _ | b
      · exact .inl rfl
      · right; rw [e]; simp
    · exact .inr (Ne.symm e)
  have hap : v'.ownBlock = none ∨ v'.ownBlock ≠ vm.ownBlock := by
    rcases hat with e | e
    · rw [e]; exact h.apart
    · right
      rw [e]
      intro e2
      have := (h.row.lt _ e2.symm).2
      omega
  have hfound : w'.ownsRow (N + 4) 9 1 v' (ps ++ [p]).length ((ps ++ [p]).map fun p => .string (s.extract p.1 p.2)) := by
    simpa using hown
  have hvl' : v'.ownBlock ≠ some (M + 1) := fun e => by have := (hfound.lt _ e).1; omega
  have hrow : w'.ownsRow (N + 4) 9 1 vm k.length (k.map fun x => .string x.str) := h.row.kept hg hap'
  exact ⟨l1, l2, by rw [setCell_size]; have := hg.size; omega, block_ne (hblk (by omega) h.bk) (by simp), one_setCell (hblk (by omega) h.lc),
    fun j hj => cell_ne ((World.cell?_of_block (hg.block bb (by omega) (fun e => (h.own_ge (by omega)).2 e.symm))).trans (h.buf j hj)) (by simp; omega),
    block_ne (hblk (by omega) h.start) (by simp; omega), block_ne (hblk (by omega) h.modes) (by simp; omega), block_ne (hblk (by omega) h.pos) (by simp; omega), block_ne (hblk (by omega) h.mode) (by simp; omega),
    ownsRow_setCell_other hrow (h.own_ge (by simp; omega)).1 _, ownsRow_setCell_other hfound hvl' _, hap,
    (h.below.grown hg (by omega) (fun b e => by have := (h.found.lt b e).1; omega)).setCell (by simp) _⟩

end
end Go.Proofs.Ytdbhgdnhdnfhiaa
