/- Values of package impl as trees, and when a value in memory is such a tree. -/
import Derived.Test.YtonnmongipaheaaGreatDoorRows
import Derived.WalkKit
import Derived.ProofKit
namespace Go.Proofs.YtonnmongipaheaaGreatDoor
open Go.RowKit

theorem hid {p : Prop} (h : p) : Hid p := h

/-- A value as a tree: kind, number, the float's bits, text, values, keys. -/
inductive V where
  | mk (k n : Int) (f : Nat) (s : ByteArray) (l : List V) (keys : List ByteArray)

def V.k : V → Int | .mk k _ _ _ _ _ => k
def V.n : V → Int | .mk _ n _ _ _ _ => n
def V.f : V → Nat | .mk _ _ f _ _ _ => f
def V.s : V → ByteArray | .mk _ _ _ s _ _ => s
def V.l : V → List V | .mk _ _ _ _ l _ => l
def V.keys : V → List ByteArray | .mk _ _ _ _ _ ks => ks

theorem V.l_lt {t x : V} (h : x ∈ t.l) : SizeOf.sizeOf x < SizeOf.sizeOf t := by
  cases t with
  | mk k n f s l ks =>
    have := List.sizeOf_lt_of_mem h
    simp only [V.l] at this
    simp only [V.mk.sizeOf_spec]
    omega

def isI64 (n : Int) : Prop := -9223372036854775808 ≤ n ∧ n ≤ 9223372036854775807

/-- The memory w holds at the value v the tree t. -/
inductive Rep (w : World) : Value → V → Prop
  | mk (k n : Int) (f : Nat) (s : ByteArray) (l : List V) (keys : List ByteArray) (la ka : Option Addr) (lc kc : Nat) (cs : Nat → Nat → Value)
      (hk : isI64 k) (hn : isI64 n) (hs : s.size ≤ 140737488351232) (hl : l.length ≤ lc) (hlc : l.length ≤ 140737488351232 ∧ lc ≤ 9223372036854775807) (hkl : keys.length ≤ kc) (hkc : keys.length ≤ 140737488351232 ∧ kc ≤ 9223372036854775807)
      (hla : ∀ j, j < l.length → ∃ b o, la = some ⟨b, o, none⟩ ∧ ∀ i, i < 6 → w.cell? ⟨b, o + j * 6 + i, none⟩ = some (cs j i))
      (hr : ∀ j (hj : j < l.length), Rep w (.agg #[cs j 0, cs j 1, cs j 2, cs j 3, cs j 4, cs j 5]) l[j])
      (hka : ∀ j (hj : j < keys.length), keys[j].size ≤ 140737488351232 ∧ ∃ b o, ka = some ⟨b, o, none⟩ ∧ w.cell? ⟨b, o + j, none⟩ = some (.string keys[j])) :
      Rep w (.agg #[.int .i64 k, .int .i64 n, .float .f64 f, .string s, .slice la l.length lc, .slice ka keys.length kc]) (V.mk k n f s l keys)

theorem Rep.kept {w w' : World} {v : Value} {t : V} (h : Rep w v t) (hb : Below w.heap.size w w') : Rep w' v t := by
  induction h with
  | mk k n f s l keys la ka lc kc cs hk hn hs hl hlc hkl hkc hla hr hka ih =>
    have keep : ∀ {a : Addr} {u : Value}, w.cell? a = some u → w'.cell? a = some u := fun h => (hb.cell (World.block_lt_of_cell? w _ h)).trans h
    refine Rep.mk k n f s l keys la ka lc kc cs hk hn hs hl hlc hkl hkc ?_ ih ?_
    · intro j hj
      obtain ⟨b, o, h1, h2⟩ := hla j hj
      exact ⟨b, o, h1, fun i hi => keep (h2 i hi)⟩
    · intro j hj
      obtain ⟨h0, b, o, h1, h2⟩ := hka j hj
      exact ⟨h0, b, o, h1, keep h2⟩

/-- What a value looks like, laid open. -/
structure Open (w : World) (v : Value) (t : V) (la ka : Option Addr) (lc kc : Nat) (cs : Nat → Nat → Value) : Prop where
  eq : v = .agg #[.int .i64 t.k, .int .i64 t.n, .float .f64 t.f, .string t.s, .slice la t.l.length lc, .slice ka t.keys.length kc]
  hk : isI64 t.k
  hn : isI64 t.n
  hs : t.s.size ≤ 140737488351232
  hl : t.l.length ≤ lc
  hlc : t.l.length ≤ 140737488351232 ∧ lc ≤ 9223372036854775807
  hkl : t.keys.length ≤ kc
  hkc : t.keys.length ≤ 140737488351232 ∧ kc ≤ 9223372036854775807
  hla : ∀ j, j < t.l.length → ∃ b o, la = some ⟨b, o, none⟩ ∧ ∀ i, i < 6 → w.cell? ⟨b, o + j * 6 + i, none⟩ = some (cs j i)
  hr : ∀ j (hj : j < t.l.length), Rep w (.agg #[cs j 0, cs j 1, cs j 2, cs j 3, cs j 4, cs j 5]) t.l[j]
  hka : ∀ j (hj : j < t.keys.length), t.keys[j].size ≤ 140737488351232 ∧ ∃ b o, ka = some ⟨b, o, none⟩ ∧ w.cell? ⟨b, o + j, none⟩ = some (.string t.keys[j])

theorem Rep.open_ {w : World} {v : Value} {t : V} (h : Rep w v t) : ∃ la ka lc kc cs, Open w v t la ka lc kc cs := by
  cases h with
  | mk k n f s l keys la ka lc kc cs hk hn hs hl hlc hkl hkc hla hr hka => exact ⟨la, ka, lc, kc, cs, rfl, hk, hn, hs, hl, hlc, hkl, hkc, hla, hr, hka⟩

theorem Open.kept {w w' : World} {v : Value} {t : V} {la ka : Option Addr} {lc kc : Nat} {cs : Nat → Nat → Value} (h : Open w v t la ka lc kc cs) (hb : Below w.heap.size w w') : Open w' v t la ka lc kc cs := by
  have keep : ∀ {a : Addr} {u : Value}, w.cell? a = some u → w'.cell? a = some u := fun h => (hb.cell (World.block_lt_of_cell? w _ h)).trans h
  refine ⟨h.eq, h.hk, h.hn, h.hs, h.hl, h.hlc, h.hkl, h.hkc, ?_, fun j hj => (h.hr j hj).kept hb, ?_⟩
  · intro j hj
    obtain ⟨b, o, h1, h2⟩ := h.hla j hj
    exact ⟨b, o, h1, fun i hi => keep (h2 i hi)⟩
  · intro j hj
    obtain ⟨h0, b, o, h1, h2⟩ := h.hka j hj
    exact ⟨h0, b, o, h1, keep h2⟩

section
variable {ops : Array Oper} {rest : List Oper} {o : Oper} {a : Act} {w : World} {Q : Exit → Act → World → Prop}

/-- A value of package impl is loaded, whole. -/
theorem wpList_load26 (hgd : Region.wanted o (yielded ops a.tmps) = true) (x : Operand) (ho : o.op = .load 26 x) (b off : Nat) (hx : a.eval x = .pointer (some ⟨b, off, none⟩)) (c : Nat → Value)
    (hc : ∀ i, i < 6 → w.cell? ⟨b, off + i, none⟩ = some (c i)) (h : wpList Tryz.prog ops Q rest (a.put o.dst (.agg #[c 0, c 1, c 2, c 3, c 4, c 5])) w) : wpList Tryz.prog ops Q (o :: rest) a w := by
  refine BigFrame.wpList_want hgd fun K hK => ?_
  have hk := hK _ _ h
  have hl := run_loadCells_list (P := Tryz.prog) w ⟨b, off, none⟩ [c 0, c 1, c 2, c 3, c 4, c 5] (fun j v hj => by
    have hadd : (⟨b, off, none⟩ : Addr).add j = ⟨b, off + j, none⟩ := by unfold Addr.add; split <;> simp_all
    rw [hadd]
    match j, hj with
    | 0, hj => rw [hc 0 (by decide)]; exact hj
    | 1, hj => rw [hc 1 (by decide)]; exact hj
    | 2, hj => rw [hc 2 (by decide)]; exact hj
    | 3, hj => rw [hc 3 (by decide)]; exact hj
    | 4, hj => rw [hc 4 (by decide)]; exact hj
    | 5, hj => rw [hc 5 (by decide)]; exact hj
    | j + 6, hj => simp at hj)
  clear h hK
  unfold Oper.wp execOp
  simp only [ho, hx, Instr.loadAt, Instr.sureAddr, Sem.run_bind, Sem.run_pure, Result.andThen_ok, loadVar]
  have hagg : (isAgg 26).run Tryz.prog w = .ok true w := by kernel_rfl
  have hsz : (sizeOf 26).run Tryz.prog w = .ok 6 w := by kernel_rfl
  simp only [hagg, hsz, Result.andThen_ok, Sem.run_bind, if_true, List.length_cons, List.length_nil, Nat.zero_add, Nat.reduceAdd] at hl ⊢
  rw [hl]
  exact hk
end

end Go.Proofs.YtonnmongipaheaaGreatDoor
