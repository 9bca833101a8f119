/- impl.object: the plain part: keys and values of an object so far. -/
import Derived.Test.YtclnpjelgdoloaaGreatItems
namespace Go.Proofs.YtclnpjelgdoloaaGreat
open Go.RowKit Go.Maps Go.Sort
set_option linter.unusedVariables false
set_option linter.unusedSimpArgs false

/-- From n on, but for the rows of u and v. -/
def besides2 (n : Nat) (u v : Value) (k : Nat) : Bool := decide (n ≤ k) && !decide (u.ownBlock = some k) && !decide (v.ownBlock = some k)

theorem besides2_iff {n : Nat} {u v : Value} {k : Nat} : besides2 n u v k = true ↔ n ≤ k ∧ u.ownBlock ≠ some k ∧ v.ownBlock ≠ some k := by simp [besides2, and_assoc]

/-- Keys and values of an object so far; sk: the keys, sorted; l: what is to be had at each. -/
structure ObjAt (sk : List ByteArray) (l : List V) (n0 : Nat) (w0 wr : World) (Lv Kv : Value) (cells : List Value) (Ts : List V) : Prop where
  blk : wr.heap[n0 + 1]? = some (.cells (boxRow 8 Lv Kv) 26 (0, 0))
  res : wr.heap[n0]? = some (.cells #[.int .i64 0, .int .i64 0, .float .f64 0, .string ByteArray.empty, .slice none 0 0, .slice none 0 0] 26 (0, 0))
  ownL : wr.ownsRow (n0 + 2) 26 6 Lv Ts.length cells
  ownK : wr.ownsRow (n0 + 2) 9 1 Kv Ts.length ((sk.take Ts.length).map Value.string)
  dif : ∀ g, Lv.ownBlock = some g → Kv.ownBlock ≠ some g
  row : Row6 wr (besides2 (n0 + 2) Lv Kv) l cells Ts
  bel : Below n0 w0 wr

section
variable {sk : List ByteArray} {l : List V} {n0 : Nat} {w0 wr w2 w3 w4 : World} {Lv Kv L' K' : Value} {cells : List Value} {Ts : List V} {x0 x1 x2 x3 x4 x5 : Value} {t' : V} {X Y : Obj}

theorem ObjAt.low (h : ObjAt sk l n0 w0 wr Lv Kv cells Ts) : n0 + 2 ≤ wr.heap.size := block_lt h.blk

theorem ObjAt.old2 (h : ObjAt sk l n0 w0 wr Lv Kv cells Ts) (hg : (wr.alloc Y).grownBy w2 Kv.ownBlock) (k : Nat) (hk : k < wr.heap.size) (hd : Kv.ownBlock ≠ some k) : w2.heap[k]? = wr.heap[k]? := by
  rw [hg.block k (by simp; omega) (fun e => hd e.symm), Below.heap_alloc _ _ _ hk]

theorem ObjAt.box2 (h : ObjAt sk l n0 w0 wr Lv Kv cells Ts) (hg : (wr.alloc Y).grownBy w2 Kv.ownBlock) : w2.heap[n0 + 1]? = some (.cells (boxRow 8 Lv Kv) 26 (0, 0)) := by
  have hl := h.low
  rw [h.old2 hg (n0 + 1) (by omega) (fun e => by have := (ownsRow_block h.ownK e).1; omega)]
  exact h.blk

theorem ObjAt.ownK1 (h : ObjAt sk l n0 w0 wr Lv Kv cells Ts) : (wr.alloc Y).ownsRow (n0 + 2) 9 1 Kv Ts.length ((sk.take Ts.length).map Value.string) :=
  ownsRow_move h.ownK fun g hg => Below.heap_alloc _ _ _ (ownsRow_block h.ownK hg).2

theorem ObjAt.ownL3 (h : ObjAt sk l n0 w0 wr Lv Kv cells Ts) (hg : (wr.alloc Y).grownBy w2 Kv.ownBlock) (hb : Below w2.heap.size w2 w3) : (w3.alloc X).ownsRow (n0 + 2) 26 6 Lv Ts.length cells :=
  ownsRow_move h.ownL fun g hg' => by
    have q := ownsRow_block h.ownL hg'
    have s := hg.size
    have s2 := hb.size
    simp only [World.size_alloc] at s
    rw [Below.heap_alloc _ _ _ (by omega), hb.block g (by omega), h.old2 hg g q.2 (h.dif g hg')]

theorem ObjAt.next (h : ObjAt sk l n0 w0 wr Lv Kv cells Ts) (hlt : Ts.length < l.length) (hlt' : Ts.length < sk.length)
    (hg2 : (wr.alloc Y).grownBy w2 Kv.ownBlock) (hK : w2.ownsRow (n0 + 2) 9 1 K' (Ts.length + 1) ((sk.take Ts.length).map Value.string ++ [.string sk[Ts.length]])) (hatK : K'.ownBlock = Kv.ownBlock ∨ K'.ownBlock = some (wr.alloc Y).heap.size)
    (hb : Below w2.heap.size w2 w3) (hr : Rep (w3.only (above w2.heap.size)) (.agg #[x0, x1, x2, x3, x4, x5]) t') (hs : Same l[Ts.length] t') (hf : Fine t')
    (hg4 : (w3.alloc X).grownBy w4 Lv.ownBlock) (hL : w4.ownsRow (n0 + 2) 26 6 L' (Ts.length + 1) (cells ++ [x0, x1, x2, x3, x4, x5])) (hatL : L'.ownBlock = Lv.ownBlock ∨ L'.ownBlock = some (w3.alloc X).heap.size) :
    ObjAt sk l n0 w0 ((w4.setCell ⟨n0 + 1, 5, none⟩ K').setCell ⟨n0 + 1, 4, none⟩ L') L' K' (cells ++ [x0, x1, x2, x3, x4, x5]) (Ts ++ [t']) := by
  have hl := h.low
  have s1 : (wr.alloc Y).heap.size = wr.heap.size + 1 := by simp
  have s3 : (w3.alloc X).heap.size = w3.heap.size + 1 := by simp
  have z2 := hg2.size
  have z3 := hb.size
  have z4 := hg4.size
  have rowL : ∀ k, Lv.ownBlock = some k → n0 + 2 ≤ k ∧ k < wr.heap.size := fun k e => ownsRow_block h.ownL e
  have rowK : ∀ k, Kv.ownBlock = some k → n0 + 2 ≤ k ∧ k < wr.heap.size := fun k e => ownsRow_block h.ownK e
  have rowK' : ∀ k, K'.ownBlock = some k → n0 + 2 ≤ k ∧ k < w2.heap.size := fun k e => ownsRow_block hK e
  have o3 : ∀ k, k < w2.heap.size → w3.heap[k]? = w2.heap[k]? := fun k hk => hb.block k hk
  have o4 : ∀ k, k < w3.heap.size → Lv.ownBlock ≠ some k → w4.heap[k]? = w3.heap[k]? := fun k hk hd => by
    rw [hg4.block k (by omega) (fun e => hd e.symm), Below.heap_alloc _ _ _ hk]
  have o5 : ∀ k, k ≠ n0 + 1 → ((w4.setCell ⟨n0 + 1, 5, none⟩ K').setCell ⟨n0 + 1, 4, none⟩ L').heap[k]? = w4.heap[k]? := fun k hk => by
    rw [setCell_far hk, setCell_far hk]
  have box4 : w4.heap[n0 + 1]? = some (.cells (boxRow 8 Lv Kv) 26 (0, 0)) := by
    rw [o4 _ (by omega) (fun e => by have := (rowL _ e).1; omega), o3 _ (by omega)]
    exact h.box2 hg2
  have difK' : ∀ g, K'.ownBlock = some g → Lv.ownBlock ≠ some g := fun g e e' => by
    rcases hatK with q | q
    · rw [q] at e
      exact h.dif g e' e
    · rw [q] at e
      simp only [Option.some.injEq] at e
      have := (rowL g e').2
      omega
  have eT : (Ts ++ [t']).length = Ts.length + 1 := by simp
  -- a block that was there, and is none of the rows, is as it was
  have oW : ∀ k, k < wr.heap.size → k ≠ n0 + 1 → Lv.ownBlock ≠ some k → Kv.ownBlock ≠ some k → ((w4.setCell ⟨n0 + 1, 5, none⟩ K').setCell ⟨n0 + 1, 4, none⟩ L').heap[k]? = wr.heap[k]? := fun k h1 h2 h3 h4 => by
    rw [o5 k h2, o4 k (by omega) h3, o3 k (by omega), h.old2 hg2 k h1 h4]
  refine ⟨?_, ?_, ?_, ?_, ?_, ?_, ?_⟩
  · rw [setCell_block (setCell_block box4)]
    rfl
  · rw [oW n0 (by omega) (by omega) (fun e => by have := (rowL _ e).1; omega) (fun e => by have := (rowK _ e).1; omega)]
    exact h.res
  · rw [eT]
    refine ownsRow_move hL fun g hg' => o5 g (fun e => ?_)
    have := (ownsRow_block hL hg').1
    omega
  · rw [eT, take_succ' sk _ hlt', List.map_append]
    refine ownsRow_move hK fun g hg' => ?_
    have q := rowK' g hg'
    rw [o5 g (by omega), o4 g (by omega) (difK' g hg'), o3 g q.2]
  · intro g e e'
    rcases hatL with q | q
    · rw [q] at e
      exact difK' g e' e
    · rw [q] at e
      simp only [Option.some.injEq] at e
      have := (rowK' g e').2
      omega
  · have hrow : Row6 ((w4.setCell ⟨n0 + 1, 5, none⟩ K').setCell ⟨n0 + 1, 4, none⟩ L') (besides2 (n0 + 2) L' K') l cells Ts := h.row.kept fun k h1 h2 => by
      rw [besides2_iff] at h1 ⊢
      refine ⟨⟨h1.1, fun e => ?_, fun e => ?_⟩, oW k h2 (by omega) h1.2.1 h1.2.2⟩
      · rcases hatL with q | q
        · rw [q] at e; exact h1.2.1 e
        · rw [q] at e
          simp only [Option.some.injEq] at e
          omega
      · rcases hatK with q | q
        · rw [q] at e; exact h1.2.2 e
        · rw [q] at e
          simp only [Option.some.injEq] at e
          omega
    refine hrow.add hlt (only_keep hr fun k h1 h2 => ?_) hs hf
    have h1' : w2.heap.size ≤ k := by simpa [above] using h1
    rw [besides2_iff]
    refine ⟨⟨by omega, fun e => ?_, fun e => ?_⟩, ?_⟩
    · rcases hatL with q | q
      · rw [q] at e
        have := (rowL _ e).2
        omega
      · rw [q] at e
        simp only [Option.some.injEq] at e
        omega
    · have := (rowK' k e).2
      omega
    · rw [o5 k (by omega), o4 k h2 (fun e => by have := (rowL _ e).2; omega)]
  · have b1 : Below n0 w0 (wr.alloc Y) := h.bel.alloc (by have := h.bel.size; omega) Y
    have b2 : Below n0 w0 w2 := b1.grown hg2 (by omega) (fun k e => by have := (rowK k e).1; omega)
    have b3 : Below n0 w0 w3 := b2.trans (hb.mono (by omega))
    have b4 : Below n0 w0 w4 := (b3.alloc (by have := b3.size; omega) X).grown hg4 (by omega) (fun k e => by have := (rowL k e).1; omega)
    exact (b4.setCell (by simp) _).setCell (by simp) _
end
end Go.Proofs.YtclnpjelgdoloaaGreat
