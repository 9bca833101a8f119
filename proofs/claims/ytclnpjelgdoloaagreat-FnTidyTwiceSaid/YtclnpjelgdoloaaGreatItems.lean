/- impl.items: plain data of an array as values, one behind the other. -/
import Derived.Test.YtclnpjelgdoloaaGreatRow6
namespace Go.Proofs.YtclnpjelgdoloaaGreat
open Go.RowKit Go.Maps
set_option linter.unusedVariables false
set_option linter.unusedSimpArgs false

/-- The variable in which a value is laid: its kind, its values, its keys. -/
def boxRow (k : Int) (L K : Value) : Array Value := #[.int .i64 k, .int .i64 0, .float .f64 0, .string ByteArray.empty, L, K]

theorem setCell_block {w : World} {g i : Nat} {v : Value} {cs : Array Value} {ty : TypeId} {fr : Nat × Nat} (h : w.heap[g]? = some (.cells cs ty fr)) : (w.setCell ⟨g, i, none⟩ v).heap[g]? = some (.cells (cs.setIfInBounds i v) ty fr) := by
  simp only [World.setCell, Array.getElem?_modify, if_pos, h, Option.map_some]
  rfl

theorem setCell_far {w : World} {g i k : Nat} {v : Value} (h : k ≠ g) : (w.setCell ⟨g, i, none⟩ v).heap[k]? = w.heap[k]? := Below.heap_setCell _ _ _ _ (fun e => h (by simpa using e))

/-- The values of an array so far. -/
structure ItemsAt (l : List V) (n0 : Nat) (w0 wr : World) (Lv : Value) (cells : List Value) (Ts : List V) : Prop where
  blk : wr.heap[n0 + 1]? = some (.cells (boxRow 7 Lv (.slice none 0 0)) 26 (0, 0))
  res : wr.heap[n0]? = some (.cells #[.int .i64 0, .int .i64 0, .float .f64 0, .string ByteArray.empty, .slice none 0 0, .slice none 0 0] 26 (0, 0))
  own : wr.ownsRow (n0 + 2) 26 6 Lv Ts.length cells
  row : Row6 wr (besides (n0 + 2) Lv) l cells Ts
  bel : Below n0 w0 wr

theorem ItemsAt.low {l : List V} {n0 : Nat} {w0 wr : World} {Lv : Value} {cells : List Value} {Ts : List V} (h : ItemsAt l n0 w0 wr Lv cells Ts) : n0 + 2 ≤ wr.heap.size := block_lt h.blk

theorem ItemsAt.next {l : List V} {n0 : Nat} {w0 wr w2 w4 : World} {Lv v' : Value} {cells : List Value} {Ts : List V} {x0 x1 x2 x3 x4 x5 : Value} {t' : V} {X : Obj} (h : ItemsAt l n0 w0 wr Lv cells Ts) (hlt : Ts.length < l.length)
    (hb : Below wr.heap.size wr w2) (hr : Rep (w2.only (above wr.heap.size)) (.agg #[x0, x1, x2, x3, x4, x5]) t') (hs : Same l[Ts.length] t') (hf : Fine t')
    (hown : w4.ownsRow (n0 + 2) 26 6 v' (Ts.length + 1) (cells ++ [x0, x1, x2, x3, x4, x5])) (hg : (w2.alloc X).grownBy w4 Lv.ownBlock) (hat : v'.ownBlock = Lv.ownBlock ∨ v'.ownBlock = some (w2.alloc X).heap.size) :
    ItemsAt l n0 w0 (w4.setCell ⟨n0 + 1, 4, none⟩ v') v' (cells ++ [x0, x1, x2, x3, x4, x5]) (Ts ++ [t']) := by
  have hl := h.low
  have hs2 := hb.size
  have hs4 := hg.size
  have esz : (w2.alloc X).heap.size = w2.heap.size + 1 := by simp
  -- blocks that are neither the row nor the box are as they were
  have old : ∀ k, k ≠ n0 + 1 → k < w2.heap.size → Lv.ownBlock ≠ some k → (w4.setCell ⟨n0 + 1, 4, none⟩ v').heap[k]? = w2.heap[k]? := fun k h1 h2 h3 => by
    rw [setCell_far h1, hg.block k (by omega) (fun e => h3 e.symm), Below.heap_alloc _ _ _ h2]
  have rowlt : ∀ k, Lv.ownBlock = some k → n0 + 2 ≤ k ∧ k < wr.heap.size := fun k e => ownsRow_block h.own e
  have box4 : w4.heap[n0 + 1]? = some (.cells (boxRow 7 Lv (.slice none 0 0)) 26 (0, 0)) := by
    rw [hg.block (n0 + 1) (by omega) (fun e => by have := (rowlt _ e.symm).1; omega), Below.heap_alloc _ _ _ (by omega), hb.block _ (by omega)]
    exact h.blk
  refine ⟨?_, ?_, ?_, ?_, ?_⟩
  · rw [setCell_block box4]
    rfl
  · rw [old n0 (by omega) (by omega) (fun e => by have := (rowlt _ e).1; omega), hb.block _ (by omega)]
    exact h.res
  · have e : (Ts ++ [t']).length = Ts.length + 1 := by simp
    rw [e]
    refine ownsRow_move hown fun g hg' => setCell_far (fun e2 => ?_)
    have := (ownsRow_block hown hg').1
    omega
  · have hrow : Row6 (w4.setCell ⟨n0 + 1, 4, none⟩ v') (besides (n0 + 2) v') l cells Ts := h.row.kept fun k h1 h2 => by
      rw [besides_iff] at h1 ⊢
      refine ⟨⟨h1.1, fun e => ?_⟩, ?_⟩
      · rcases hat with e' | e'
        · rw [e'] at e; exact h1.2 e
        · rw [e'] at e
          simp only [Option.some.injEq] at e
          omega
      · rw [old k (by omega) (by omega) h1.2, hb.block _ h2]
    refine hrow.add hlt (only_keep hr fun k h1 h2 => ?_) hs hf
    have h1' : wr.heap.size ≤ k := by simpa [above] using h1
    rw [besides_iff]
    refine ⟨⟨by omega, fun e => ?_⟩, old k (by omega) h2 (fun e => by have := (rowlt _ e).2; omega)⟩
    rcases hat with e' | e'
    · rw [e'] at e
      have := (rowlt _ e).2
      omega
    · rw [e'] at e
      simp only [Option.some.injEq] at e
      omega
  · have b1 : Below n0 w0 w2 := h.bel.trans (hb.mono (by omega))
    have b2 : Below n0 w0 w4 := (b1.alloc (by have := b1.size; omega) X).grown hg (by rw [esz]; omega) (fun k e => by have := (rowlt k e).1; omega)
    exact b2.setCell (by simp) _

theorem ItemsAt.value {l : List V} {n0 : Nat} {w0 wr wf : World} {Lv : Value} {cells : List Value} {Ts : List V} {t : V} (h : ItemsAt l n0 w0 wr Lv cells Ts) (hl : l = t.l) (hn : Ts.length = l.length) (hk : t.k = 7) (hsz : t.l.length ≤ 300) (ho : ∀ k, k ≠ n0 → wf.heap[k]? = wr.heap[k]?) :
    Rep (wf.only (above n0)) (.agg (boxRow 7 Lv (.slice none 0 0))) (.mk 7 0 0 ByteArray.empty Ts []) ∧ Same t (.mk 7 0 0 ByteArray.empty Ts []) ∧ Fine (.mk 7 0 0 ByteArray.empty Ts []) := by
  subst hl
  obtain ⟨la, lc, rfl, h1, h2, h3⟩ := ownsRow_form h.own
  refine ⟨?_, ?_, ?_⟩
  · refine Rep.mk 7 0 0 ByteArray.empty Ts [] la none lc 0 (fun j i => cells.getD (j * 6 + i) undef) (by unfold isI64; omega) (by unfold isI64; omega) (by simp) h1 (by omega) (Nat.le_refl _) (by simp) ?_ ?_ (fun j hj => absurd hj (by simp))
    · intro j hj
      obtain ⟨g, rfl, hg, _⟩ := h3 (j * 6) (by omega)
      refine ⟨g, 0, rfl, fun i hi => ?_⟩
      obtain ⟨g', e, _, hc⟩ := h3 (j * 6 + i) (by omega)
      simp only [Option.some.injEq, Addr.mk.injEq, and_true] at e
      subst e
      rw [only_cell]
      refine ⟨by simp [above]; omega, ?_⟩
      rw [Nat.zero_add]
      exact (World.cell?_of_block (a := ⟨g, j * 6 + i, none⟩) (ho g (by omega))).trans hc
    · intro j hj
      refine only_keep (h.row.rep j hj) fun k q1 q2 => ?_
      rw [besides_iff] at q1
      exact ⟨by simp [above]; omega, ho k (by omega)⟩
  · exact .arr _ _ hk rfl hn fun j hj hj' => h.row.same j hj hj'
  · refine .mk _ (by simp [V.k]) (fun h => by simp [V.k] at h) (fun h => by simp [V.k] at h) ⟨by show Ts.length ≤ 300; omega, by simp [V.keys]⟩ (fun h => absurd (.inl rfl) h) (fun h => by simp [V.k] at h) ?_
    intro x hx
    obtain ⟨j, hj, rfl⟩ := List.getElem_of_mem (show x ∈ Ts from hx)
    exact h.row.fine j hj

theorem Rep.six {w : World} {v : Value} {t : V} (h : Rep w v t) : ∃ x0 x1 x2 x3 x4 x5, v = .agg #[x0, x1, x2, x3, x4, x5] := by
  obtain ⟨la, ka, lc, kc, cs, ho⟩ := h.open_
  exact ⟨_, _, _, _, _, _, ho.eq⟩

theorem Then.go {P : Program} {ops : Array Oper} {Q : Exit → Act → World → Prop} {S : World → Prop} {late : Nat → Bool} {i n : Nat} {l : Array Bool} {a : Act} {w : World} (h1 : late i = false → S w) (h2 : Ways P ops Q S late n (l.setIfInBounds i true) a w) :
    Then Q (fun a' w' => (late i = false → S w') ∧ Ways P ops Q S late n (l.setIfInBounds i true) a' w') .normal a w := ⟨h1, h2⟩

theorem ItemsAt.start {l : List V} {w w2 : World} (h0 : w2.heap[w.heap.size]? = some (.cells #[.int .i64 0, .int .i64 0, .float .f64 0, .string ByteArray.empty, .slice none 0 0, .slice none 0 0] 26 (0, 0))) (h1 : w2.heap[w.heap.size + 1]? = some (.cells (boxRow 7 (.slice none 0 0) (.slice none 0 0)) 26 (0, 0))) (hb : Below w.heap.size w w2) :
    ItemsAt l w.heap.size w w2 (.slice none 0 0) [] [] := ⟨h1, h0, World.ownsRow_nil _ _ _ _, Row6.nil _ _ _, hb⟩

section
variable {ops : Array Oper} {rest : List Oper} {o : Oper} {a : Act} {w : World} {Q : Exit → Act → World → Prop}
/-- A value of package impl is stored: no other block turns. -/
theorem wpList_store26at (hgd : o.guard = none) (hd : o.dst = none) (x y : Operand) (ho : o.op = .store 26 x y) (g : Nat) (cs : Array Value) (hx : a.eval x = .pointer (some ⟨g, 0, none⟩)) (hy : a.eval y = .agg cs)
    (hs : cs.size = 6) (h1 : cs.all (·.oneCell') = true) (old : Array Value) (hold : old.size = 6) (hg : w.heap[g]? = some (.cells old 26 (0, 0)))
    (h : ∀ w', w'.heap[g]? = some (.cells cs 26 (0, 0)) → (∀ k, k ≠ g → w'.heap[k]? = w.heap[k]?) → Below g w w' → w'.heap.size = w.heap.size → wpList Tryz.prog ops Q rest a w') : wpList Tryz.prog ops Q (o :: rest) a w := by
  refine wpList_store_row hgd 26 x y ho g cs hx hy 26 old hg (by rw [hs]; kernel_rfl) (by rw [hold, hs]) h1 ?_
  rw [hd]
  exact h _ (setRow_heap w g old cs 26 (0, 0) hg) (fun k hk => setRow_block hk) ⟨rfl, rfl, rfl, by simp [World.setRow], fun k hk => setRow_block (by omega)⟩ (by simp [World.setRow])
end

def zeroRow : Array Value := #[.int .i64 0, .int .i64 0, .float .f64 0, .string ByteArray.empty, .slice none 0 0, .slice none 0 0]

theorem info26 : (Tryz.prog.info? 26).map (fun i => (i.zero, i.size, i.bytes)) = some (some (.agg zeroRow), 6, 88) := by kernel_rfl

theorem two_new (w : World) (A B : Obj) : ((w.alloc A).alloc B).heap[w.heap.size]? = some A ∧ ((w.alloc A).alloc B).heap[w.heap.size + 1]? = some B ∧ Below w.heap.size w ((w.alloc A).alloc B) := by
  have e := heap_alloc_new (w.alloc A) B
  simp only [World.size_alloc] at e
  refine ⟨?_, e, ((Below.refl _ _).alloc (Nat.le_refl _) _).alloc (by simp) _⟩
  rw [Below.heap_alloc _ _ _ (by simp)]
  exact heap_alloc_new w _

theorem news_six (w : World) (x0 x1 x2 x3 x4 x5 : Value) : ∀ j u, [x0, x1, x2, x3, x4, x5][j]? = some u → (w.alloc (.cells #[x0, x1, x2, x3, x4, x5] 26)).cell? ((⟨w.heap.size, 0, none⟩ : Addr).add j) = some u := by
  intro j u hj
  have hadd : (⟨w.heap.size, 0, none⟩ : Addr).add j = ⟨w.heap.size, j, none⟩ := by unfold Addr.add; split <;> simp_all
  rw [hadd, cell_of_row _ w.heap.size j _ 26 (0, 0) (heap_alloc_new w _)]
  simpa using hj

theorem one_six {x0 x1 x2 x3 x4 x5 : Value} (h : #[x0, x1, x2, x3, x4, x5].all (·.oneCell') = true) : ∀ u ∈ [x0, x1, x2, x3, x4, x5], u.oneCell' = true := by
  intro u hu
  rw [Array.all_eq_true_iff_forall_mem] at h
  exact h u (by simpa using hu)

def lateI (i : Nat) : Bool := i == 0 || i == 2 || i == 6 || i == 7

set_option maxRecDepth 100000 in
set_option maxHeartbeats 4000000 in
theorem items_any (t : V) (g0 cap : Nat) (xs : Nat → Value) (w : World) (hk : t.k = 7) (hl : t.l.length ≤ 300) (hx : ∀ j, j < t.l.length → w.cell? ⟨g0, j, none⟩ = some (xs j))
    (ih : ∀ j (hj : j < t.l.length) (w' : World), Below w.heap.size w w' → Calls Tryz.prog 18 #[xs j] w' (ValAt t.l[j] w')) :
    Calls Tryz.prog 31 #[.slice (some ⟨g0, 0, none⟩) t.l.length cap] w (ValAt t w) := by
  have HX := hid hx
  have HK := hid hk
  have IH := hid ih
  obtain ⟨i0, hi, hz0, hz1, hz2⟩ := info_parts info26
  clear hx hk ih
  have N2 := hid (two_new w (.cells zeroRow 26) (.cells zeroRow 26))
  unfold zeroRow at N2
  go_enter Tryz.func31, Tryz.ntmps31
  go_wp2_with (refine wpList_store26at rfl rfl (.tmp 3) (.tmp 6) rfl (w.heap.size + 1) (boxRow 7 (.slice none 0 0) (.slice none 0 0)) rfl rfl rfl (by simp [boxRow, Value.oneCell']) _ rfl N2.out.2.1 ?_; intro w2 hg2 ho2 hb2 hz2; have D0 : Hid (ItemsAt t.l w.heap.size w w2 (.slice none 0 0) [] []) := hid (ItemsAt.start ((ho2 _ (by omega)).trans N2.out.1) hg2 (N2.out.2.2.trans (hb2.mono (by omega)))); clear hg2 ho2 hb2 hz2)
  go_loopw [9] (fun k wr => ∃ (Lv : Value) (cells : List Value) (Ts : List V), k = .int .i64 (Ts.length : Int) ∧ Hid (ItemsAt t.l w.heap.size w wr Lv cells Ts)) (fun k _ => t.l.length - (intOf k).toNat)
  case atStart => exact ⟨_, [], [], rfl, D0⟩
  case round =>
    clear D0
    obtain ⟨Lv, cells, Ts, rfl, DA⟩ := hrel
    by_cases hlt : Ts.length < t.l.length
    · have cx := (DA.out.bel.cell (p := ⟨g0, Ts.length, none⟩) (World.block_lt_of_cell? w _ (HX.out _ hlt))).trans (HX.out _ hlt)
      have BL : Hid (Below w.heap.size w wr.drew) := hid DA.out.bel.drew
      have SB : Hid (wr.drew.heap[w.heap.size + 1]? = some (.cells (boxRow 7 Lv (.slice none 0 0)) 26 (0, 0))) := hid DA.out.blk
      have BA := hid hlt
      go_wp2_with (fail)
      refine wp_region_ways (fun w' => w'.heap[w.heap.size + 1]? = some (.cells (boxRow 7 Lv (.slice none 0 0)) 26 (0, 0))) lateI 8 rfl (by kernel_rfl) ?_
      refine ways_still (i := 0) (oi := ⟨some 13, .fieldAddr 26 (.tmp 3) 4, 0, _, _, none⟩) (v := .pointer (some ⟨w.heap.size + 1, 4, none⟩)) rfl (by kernel_rfl) rfl (by kernel_rfl) (by kernel_rfl) (fun _ _ _ h => h) rfl (fun w => by go_simp) ?_
      simp only [Act.put, List.setIfInBounds_toArray, List.set_cons_zero, List.set_cons_succ]
      refine ways_still (i := 2) (oi := ⟨some 15, .move (.tmp 5), 20, _, _, none⟩) (v := xs Ts.length) rfl (by kernel_rfl) rfl (by kernel_rfl) (by kernel_rfl) (fun _ _ _ h => h) rfl (fun w => by go_simp) ?_
      simp only [Act.put, List.setIfInBounds_toArray, List.set_cons_zero, List.set_cons_succ]
      refine ways_load (i := 1) (oi := ⟨some 14, .load 23 (.tmp 13), 23, _, _, none⟩) (v := Lv) rfl (by kernel_rfl) rfl (by kernel_rfl) (by kernel_rfl) (by kernel_rfl) (fun _ _ _ h => h) rfl SB.out (fun w' hS => by have hc : w'.cell? ⟨w.heap.size + 1, 4, none⟩ = some Lv := (cell_of_row _ _ 4 _ 26 (0, 0) hS).trans rfl; go_simp) ?_
      simp only [Act.put, List.setIfInBounds_toArray, List.set_cons_zero, List.set_cons_succ]
      refine ways_one (i := 3) (o := ⟨some 16, .call { callee := .value (.func 18), args := #[.tmp 15], argTypes := #[20] }, 26, _, _, none⟩) rfl (by kernel_rfl) ?_
      go_wp2_with (go_at_call 18; refine (IH.out _ hlt _ BL.out).mono ?_; rintro e w2 ⟨x, t', rfl, hr, hs, hf, hb⟩; obtain ⟨x0, x1, x2, x3, x4, x5, rfl⟩ := (only_rep hr).six; have R2 := hid hr; have S2 := hid hs; have F2 := hid hf; have B2 : Hid (Below wr.heap.size wr w2) := hid ((Below.refl _ _).drew.trans hb); have C1 := hid (only_rep hr).cells.2; clear hr hs hf hb)
      refine Then.go (fun _ => (B2.out.block _ DA.out.low).trans SB.out) ?_
      refine ways_one (i := 4) (o := ⟨some 17, .buildSlice 23 1 #[(0, .tmp 16)], 23, _, _, none⟩) rfl (by kernel_rfl) ?_
      go_wp2_with (fail)
      have LO := hid DA.out.low
      have BZ := hid B2.out.size
      have SB3 : Hid ((w2.alloc (.cells #[x0, x1, x2, x3, x4, x5] 26)).heap[w.heap.size + 1]? = some (.cells (boxRow 7 Lv (.slice none 0 0)) 26 (0, 0))) := hid (by rw [Below.heap_alloc _ _ _ (by have := LO.out; have := BZ.out; omega), B2.out.block _ LO.out]; exact DA.out.blk)
      have OW3 : Hid ((w2.alloc (.cells #[x0, x1, x2, x3, x4, x5] 26)).ownsRow (w.heap.size + 2) 26 6 Lv Ts.length cells) := hid (ownsRow_move DA.out.own fun g hg' => by have q := (ownsRow_block DA.out.own hg').2; have := BZ.out; rw [Below.heap_alloc _ _ _ (by omega), B2.out.block _ q])
      refine Then.go (fun _ => SB3.out) ?_
      refine ways_one (i := 5) (o := ⟨some 18, .call { callee := .builtin .append, args := #[.tmp 14, .tmp 17], argTypes := #[23, 23] }, 23, _, _, none⟩) rfl (by kernel_rfl) ?_
      go_wp2_with (at_builtin; go_loud (refine wpList_append_own_at _ rfl (.tmp 14) (.tmp 17) 23 rfl (w.heap.size + 2) 26 i0 _ 6 88 Tryz.underlying23 hi hz0 hz1 hz2 rfl (by decide) Lv Ts.length cells rfl OW3.out ⟨w2.heap.size, 0, none⟩ 1 1 [x0, x1, x2, x3, x4, x5] rfl rfl (news_six w2 x0 x1 x2 x3 x4 x5) (one_six C1.out) (by unfold maxLen; omega) (by omega) (by have := LO.out; have := BZ.out; simp; omega) ?_); intro v' w4 hown4 hgrow4 hnil4 hat4; obtain ⟨la', lc', rfl, _⟩ := ownsRow_form hown4; have DN := hid (DA.out.next hlt B2.out R2.out S2.out F2.out hown4 hgrow4 hat4); have BX4 : Hid (w4.heap[w.heap.size + 1]? = some (.cells (boxRow 7 Lv (.slice none 0 0)) 26 (0, 0))) := hid ((hgrow4.block _ (block_lt SB3.out) (fun e => by have := (ownsRow_block DA.out.own e.symm).1; omega)).trans SB3.out); clear hown4 hgrow4 hnil4 hat4)
      refine Then.go (fun _ => BX4.out) ?_
      refine ways_one (i := 6) (o := ⟨some 19, .fieldAddr 26 (.tmp 3) 4, 0, _, _, none⟩) rfl (by kernel_rfl) ?_
      go_wp2_with (fail)
      refine Then.go (fun h => absurd h (by decide)) ?_
      refine ways_one (i := 7) (o := ⟨none, .store 23 (.tmp 19) (.tmp 18), 0, _, _, none⟩) rfl (by kernel_rfl) ?_
      have c4 : w4.cell? ⟨w.heap.size + 1, 4, none⟩ = some Lv := (cell_of_row _ _ 4 _ 26 (0, 0) BX4.out).trans rfl
      have f4 : w4.frozen? ⟨w.heap.size + 1, 4, none⟩ = false := by simp [World.frozen?, BX4.out]
      go_wp2_with (fail)
      refine Then.go (fun h => absurd h (by decide)) (ways_done (by kernel_rfl) ?_)
      go_wp2_with (fail)
      go_roundw
      case rel => exact ⟨_, _, Ts ++ [t'], by simp, DN⟩
      case measure => simp only [intOf]; omega
    · obtain ⟨la, lc, rfl, _⟩ := ownsRow_form DA.out.own
      have hle := DA.out.row.le
      have EN : Hid (Ts.length = t.l.length) := hid (by omega)
      clear hle
      go_wp2_with (first
        | (refine wpList_loadBox rfl (.tmp 3) rfl (w.heap.size + 1) rfl (boxRow 7 (.slice la Ts.length lc) (.slice none 0 0)) rfl DA.out.blk ?_)
        | (refine wpList_store26at rfl rfl (.tmp 2) (.tmp 21) rfl w.heap.size (boxRow 7 (.slice la Ts.length lc) (.slice none 0 0)) rfl rfl rfl (by simp [boxRow, Value.oneCell']) _ rfl DA.out.res ?_; intro wf hgf hof hbf hzf; have GF := hid hgf; have OF := hid hof; have BF := hid hbf; clear hgf hof hbf hzf))
      have hc := fun i => cell_of_row _ w.heap.size i _ 26 (0, 0) GF.out
      have c0 := (hc 0).trans rfl
      have c1 := (hc 1).trans rfl
      have c2 := (hc 2).trans rfl
      have c3 := (hc 3).trans rfl
      have c4 := (hc 4).trans rfl
      have c5 := (hc 5).trans rfl
      clear hc
      have VV := DA.out.value (wf := wf) rfl EN.out HK.out hl OF.out
      refine bodyPost_ret (v := .agg (boxRow 7 (.slice la Ts.length lc) (.slice none 0 0))) (by simp [results, Tryz.results31, go_sem, c0, c1, c2, c3, c4, c5, boxRow]) rfl ⟨_, _, rfl, VV.1, VV.2.1, VV.2.2, DA.out.bel.trans BF.out⟩


end Go.Proofs.YtclnpjelgdoloaaGreat
