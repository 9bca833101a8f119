/- impl.plain: a tree of plain data is laid into memory as an interface value. impl.plain at an array. -/
import Derived.Test.YtonnmongipaheaaGreatDoorPRep
namespace Go.Proofs.YtonnmongipaheaaGreatDoor
open Go.RowKit Go.Maps
set_option linter.unusedVariables false

theorem info20 : (Tryz.prog.info? 20).map (fun i => (i.zero, i.size, i.bytes)) = some (some .nilIface, 1, 16) := by kernel_rfl

section
variable {ops : Array Oper} {rest : List Oper} {o : Oper} {a : Act} {w : World} {Q : Exit → Act → World → Prop}
set_option maxRecDepth 100000 in
theorem wpList_buildSlice_any (hgd : Region.wanted o (yielded ops a.tmps) = true) (T : TypeId) (hT : T = 63) (y : Operand) (ho : o.op = .buildSlice T 1 #[(0, y)])
    (x : Value) (hy : a.eval y = x) (hx : x = .nilIface ∨ ∃ ty v, x = .iface ty v)
    (h : wpList Tryz.prog ops Q rest (a.put o.dst (.slice (some ⟨w.heap.size, 0, none⟩) 1 1)) (w.alloc (.cells #[x] 20))) : wpList Tryz.prog ops Q (o :: rest) a w := by
  refine BigFrame.wpList_want hgd fun K hK => ?_
  have hk := hK _ _ h
  clear h hK
  subst hT
  unfold Oper.wp execOp
  simp only [ho]
  simp only [List.map_toArray, List.map_cons, List.map_nil, hy]
  clear hy ho
  rcases hx with e | ⟨ty, v, e⟩
  · rw [e] at hk ⊢
    clear e
    go_simp
    exact hk
  · rw [e] at hk ⊢
    clear e
    go_simp
    exact hk
end

def PlainPost (t : V) (w : World) (e : Ending) (w' : World) : Prop := ∃ x, e = .returned x ∧ PSep w' w.heap.size w'.heap.size x t ∧ Below w.heap.size w w'

set_option maxRecDepth 100000 in
set_option maxHeartbeats 1000000 in
theorem plain_scalar (t : V) (v : Value) (w : World) (hrep : Rep w v t) (hk : t.k = 1 ∨ t.k = 2 ∨ t.k = 3 ∨ t.k = 5 ∨ t.k = 4) : Calls Tryz.prog 18 #[v] w (PlainPost t w) := by
  obtain ⟨la, ka, lc, kc, cs, ho⟩ := hrep.open_
  obtain rfl := ho.eq
  have HB0 := fun (X : Array Value) => hid ((Below.refl w.heap.size w).alloc (Nat.le_refl _) (.cells X 26))
  clear ho hrep
  rcases hk with hk | hk | hk | hk | hk
  · have HK := hid hk
    rw [hk]
    clear hk
    go_enter Tryz.func18, Tryz.ntmps18
    go_wp2_with (fail)
    go_ret
    exact ⟨_, rfl, .null _ _ t HK.out, (HB0 _).out⟩
  · have HK := hid hk
    rw [hk]
    clear hk
    go_enter Tryz.func18, Tryz.ntmps18
    go_wp2_with (fail)
    go_ret
    exact ⟨_, rfl, .bool _ _ t HK.out, (HB0 _).out⟩
  · have HK := hid hk
    rw [hk]
    clear hk
    go_enter Tryz.func18, Tryz.ntmps18
    go_wp2_with (fail)
    go_ret
    exact ⟨_, rfl, .int _ _ t HK.out, (HB0 _).out⟩
  · have HK := hid hk
    rw [hk]
    clear hk
    go_enter Tryz.func18, Tryz.ntmps18
    go_wp2_with (fail)
    go_ret
    exact ⟨_, rfl, .str _ _ t HK.out, (HB0 _).out⟩
  · have HK := hid hk
    rw [hk]
    clear hk
    go_enter Tryz.func18, Tryz.ntmps18
    go_wp2_with (fail)
    go_ret
    exact ⟨_, rfl, .flo _ _ t HK.out, (HB0 _).out⟩
end Go.Proofs.YtonnmongipaheaaGreatDoor

namespace Go.Proofs.YtonnmongipaheaaGreatDoor
open Go.RowKit Go.Maps
set_option linter.unusedVariables false

theorem Rep.cells {w : World} {X : Array Value} {t : V} (h : Rep w (.agg X) t) : X.size = 6 ∧ X.all (·.oneCell') = true := by
  obtain ⟨la, ka, lc, kc, cs, ho⟩ := h.open_
  have e := ho.eq
  injection e with e
  subst e
  exact ⟨rfl, by simp [Value.oneCell']⟩

theorem setRow_block {w : World} {g k : Nat} {cs : Array Value} (h : k ≠ g) : (w.setRow g cs).heap[k]? = w.heap[k]? := by
  simp only [World.setRow, Array.getElem?_modify]
  rw [if_neg (by omega)]

section
variable {ops : Array Oper} {rest : List Oper} {o : Oper} {a : Act} {w : World} {Q : Exit → Act → World → Prop}
/-- A value of package impl is stored into a variable of the call's own. -/
theorem wpList_store26 (hgd : o.guard = none) (hd : o.dst = none) (x y : Operand) (ho : o.op = .store 26 x y) (g : Nat) (cs : Array Value) (hx : a.eval x = .pointer (some ⟨g, 0, none⟩)) (hy : a.eval y = .agg cs)
    (hs : cs.size = 6) (h1 : cs.all (·.oneCell') = true) (old : Array Value) (hold : old.size = 6) (hg : w.heap[g]? = some (.cells old 26 (0, 0)))
    (h : ∀ w', w'.heap[g]? = some (.cells cs 26 (0, 0)) → Below g w w' → w'.heap.size = w.heap.size → wpList Tryz.prog ops Q rest a w') : wpList Tryz.prog ops Q (o :: rest) a w := by
  refine wpList_store_row hgd 26 x y ho g cs hx hy 26 old hg (by rw [hs]; kernel_rfl) (by rw [hold, hs]) h1 ?_
  rw [hd]
  exact h _ (setRow_heap w g old cs 26 (0, 0) hg) ⟨rfl, rfl, rfl, by simp [World.setRow], fun k hk => setRow_block (by omega)⟩ (by simp [World.setRow])
end

/-- The values laid so far, each in blocks of its own above g. -/
def Laid (w : World) (g : Nat) (l : List V) (L : List Value) : Prop := L.length ≤ l.length ∧ ∃ los his : Nat → Nat, (∀ j, j < L.length → g < los j ∧ his j ≤ w.heap.size) ∧ (∀ i j, i < j → j < L.length → his i ≤ los j) ∧
  ∀ j (hj : j < L.length) (hj' : j < l.length), PSep w (los j) (his j) L[j] l[j]

theorem Laid.nil (w : World) (g : Nat) (l : List V) : Laid w g l [] := ⟨by simp, fun _ => 0, fun _ => 0, fun j hj => absurd hj (by simp), fun i j _ hj => absurd hj (by simp), fun j hj => absurd hj (by simp)⟩

theorem Laid.kept {w w' : World} {g : Nat} {l : List V} {L : List Value} (h : Laid w g l L) (hs : w.heap.size ≤ w'.heap.size) (ha : ∀ k, g < k → k < w.heap.size → w'.heap[k]? = w.heap[k]?) : Laid w' g l L := by
  obtain ⟨h0, los, his, h1, h2, h3⟩ := h
  exact ⟨h0, los, his, fun j hj => ⟨(h1 j hj).1, by have := (h1 j hj).2; omega⟩, h2, fun j hj hj' => (h3 j hj hj').kept fun k k1 k2 k3 => ha k (by have := (h1 j hj).1; omega) k3⟩

/-- One value more, in blocks that were made since. -/
theorem Laid.add {w0 w : World} {g : Nat} {l : List V} {L : List Value} {x : Value} (h : Laid w0 g l L) (hs : w0.heap.size ≤ w.heap.size) (ha : ∀ k, g < k → k < w0.heap.size → w.heap[k]? = w0.heap[k]?) (hlt : L.length < l.length) {lo hi : Nat} (hx : PSep w lo hi x l[L.length]) (hlo : w0.heap.size ≤ lo) (hg : g < w0.heap.size) (hhi : hi ≤ w.heap.size) : Laid w g l (L ++ [x]) := by
  obtain ⟨h0, los, his, h1, h2, h3⟩ := h
  refine ⟨by simp; omega, fun j => if j < L.length then los j else lo, fun j => if j < L.length then his j else hi, ?_, ?_, ?_⟩
  · intro j hj
    by_cases hjl : j < L.length
    · simp only [if_pos hjl]
      have := h1 j hjl
      omega
    · simp only [if_neg hjl]
      omega
  · intro i j hij hj
    simp at hj
    by_cases hjl : j < L.length
    · simp only [if_pos hjl, if_pos (show i < L.length by omega)]
      exact h2 i j hij hjl
    · simp only [if_neg hjl, if_pos (show i < L.length by omega)]
      have := (h1 i (by omega)).2
      omega
  · intro j hj hj'
    by_cases hjl : j < L.length
    · simp only [if_pos hjl, List.getElem_append_left hjl]
      exact (h3 j hjl hj').kept fun k k1 k2 k3 => ha k (by have := (h1 j hjl).1; omega) k3
    · have e : j = L.length := by simp at hj; omega
      subst e
      simp only [if_neg hjl]
      simpa using hx

theorem own_below {w w1 : World} {base : Nat} {e : TypeId} {size n : Nat} {v : Value} {xs : List Value} (h : w.ownsRow base e size v n xs) (hb : Below w.heap.size w w1) : w1.ownsRow base e size v n xs := by
  refine h.kept (row := none) ⟨hb.os, hb.tape, hb.output, hb.size, fun k hk _ => hb.block k hk⟩ ?_
  exact Classical.em _

theorem own_lt' {w : World} {base g k cap : Nat} {e : TypeId} {size n : Nat} {xs : List Value} (h : w.ownsRow base e size (.slice (some ⟨g, 0, none⟩) k cap) n xs) : g < w.heap.size := by
  rcases h.2 with ⟨hv, _⟩ | ⟨g', c', cur, hv, _, hg, _⟩
  · cases hv
  · cases hv
    rcases Nat.lt_or_ge g w.heap.size with h' | h'
    · exact h'
    · simp [Array.getElem?_eq_none h'] at hg

theorem Above.trans {B : Nat} {a b c : World} (h : Above B a b) (h' : Above B b c) (hs : a.heap.size ≤ b.heap.size) : Above B a c := fun k hk hl => (h' k hk (by omega)).trans (h k hk hl)

theorem above_alloc (w : World) (o : Obj) (B : Nat) : Above B w (w.alloc o) := fun k _ hk => Below.heap_alloc w o k hk

theorem getD_len {α : Type} (L : List α) (d : α) (j : Nat) (hj : j < L.length) : L.getD j d = L[j] := by
  rw [List.getD_eq_getElem?_getD, List.getElem?_eq_getElem hj]; rfl

set_option maxRecDepth 100000 in
set_option maxHeartbeats 2000000 in
theorem plain_arr (t : V) (v : Value) (w : World) (hrep : Rep w v t) (hk : t.k = 7) (hl : t.l.length ≤ 1000000)
    (ih : ∀ j (hj : j < t.l.length) (u : Value) (w' : World), Rep w' u t.l[j] → Calls Tryz.prog 18 #[u] w' (PlainPost t.l[j] w')) : Calls Tryz.prog 18 #[v] w (PlainPost t w) := by
  obtain ⟨la, ka, lc, kc, cs, ho⟩ := hrep.open_
  obtain rfl := ho.eq
  have s4 := ho.hl
  have s5 := ho.hlc
  have HK := hid hk
  have HO := hid ho
  obtain ⟨i0, hi, hz0, hz1, hz2⟩ := info_parts info20
  rw [hk] at HO ⊢
  clear ho hrep hk
  go_enter Tryz.func18, Tryz.ntmps18
  go_wp2_with (at_make; refine wpList_make_own _ rfl _ _ 63 rfl (w.heap.size + 1) 20 i0 .nilIface 1 Tryz.underlying63 hi hz0 hz1 .i64 .i64 t.l.length t.l.length rfl rfl rfl (by rw [hz2]; omega) (by unfold maxLen; omega) (by simp) ?_; intro w1 hown hgrow; have HOW : Hid (w1.ownsRow (w.heap.size + 1) 20 1 (.slice (some ⟨w.heap.size + 1, 0, none⟩) 0 t.l.length) 0 []) := hid (by simpa using hown); have HG := hid hgrow; have cL1 : w1.cell? ⟨w.heap.size, 4, none⟩ = some (.slice la t.l.length lc) := (by rw [World.cell?_of_block (w := w.alloc _) (hgrow.block w.heap.size (by simp) (by simp)), cell_of_row _ w.heap.size 4 _ 26 (0, 0) (heap_alloc_new w _)]; rfl); clear hown hgrow)
  go_loopw [3, 46] (fun out k wr => ∃ (L : List Value), k = .int .i64 (L.length : Int) ∧ out = .slice (some ⟨w.heap.size + 1, 0, none⟩) L.length t.l.length ∧ L.length ≤ t.l.length ∧ Hid (wr.ownsRow (w.heap.size + 1) 20 1 (.slice (some ⟨w.heap.size + 1, 0, none⟩) L.length t.l.length) L.length L) ∧
      Hid (Laid wr (w.heap.size + 1) t.l L) ∧ Hid (Below w.heap.size w wr)) (fun _ k _ => t.l.length - (intOf k).toNat)
  case atStart => exact ⟨[], rfl, rfl, by simp, HOW, hid (Laid.nil _ _ _), hid (((Below.refl _ w).alloc (Nat.le_refl _) _).grown HG.out (by simp) (fun j e => by cases e))⟩
  case round =>
    obtain ⟨L, rfl, rfl, hL, OW, LD, BW⟩ := hrel
    by_cases hlt : L.length < t.l.length
    · obtain ⟨b, o, rfl, hc⟩ := (HO.out.kept BW.out).hla L.length hlt
      have HC := hid hc
      clear hc
      have RP := hid ((HO.out.kept BW.out).hr L.length hlt)
      go_wp2_with (first
        | (refine wpList_load26 rfl (.tmp 48) rfl b (o + L.length * 6) rfl (cs L.length) HC.out ?_)
        | (refine wpList_store26 rfl rfl (.tmp 5) (.tmp 49) rfl wr.heap.size _ rfl rfl RP.out.cells.1 RP.out.cells.2 _ rfl (heap_alloc_new wr _) ?_; intro w2 hg2 hb2 hz2'; have G2 := hid hg2; have B2 : Hid (Below wr.heap.size wr w2) := hid (((Below.refl _ wr).alloc (Nat.le_refl _) _).trans hb2); have Z2 := hid hz2'; clear hg2 hb2 hz2')
        | (refine wpList_loadBox rfl (.tmp 5) rfl wr.heap.size rfl _ RP.out.cells.1 G2.out ?_)
        | (go_at_call 18; refine (ih L.length hlt _ w2 (RP.out.kept B2.out)).mono ?_; rintro e w3 ⟨x, rfl, hx3, hb3⟩; have X3 := hid hx3; have B3 := hid hb3; clear hx3 hb3)
        | (refine wpList_buildSlice_any rfl 63 rfl (.tmp 52) rfl x rfl X3.out.one ?_)
        | (at_builtin; go_loud (refine wpList_append_fits _ rfl (.tmp 50) (.tmp 53) 63 rfl (w.heap.size + 1) 20 i0 1 Tryz.underlying63 hi hz1 (w.heap.size + 1) L.length t.l.length L rfl ((own_below (own_below OW.out B2.out) B3.out).alloc _) ⟨w3.heap.size, 0, none⟩ 1 1 [x] rfl rfl (by intro j u hu; match j, hu with | 0, hu => simp at hu; subst hu; exact (cell_of_row _ w3.heap.size 0 _ 20 (0, 0) (heap_alloc_new w3 _)).trans rfl) (by intro u hu; simp at hu; subst hu; rcases X3.out.one with e | ⟨_, _, e⟩ <;> subst e <;> rfl) (by omega) ?_); intro w4 hown4 hgrow4; have OW4 := hid hown4; have GR4 := hid hgrow4; clear hown4 hgrow4))
      go_roundw
      have hsz1 : w.heap.size + 2 ≤ wr.heap.size := by have := own_lt' OW.out; omega
      have B12 : Below wr.heap.size wr w3 := B2.out.trans (B3.out.mono B2.out.size)
      have sz34 : w3.heap.size ≤ w4.heap.size := by have := GR4.out.size; simp at this; omega
      have A34 : ∀ k, w.heap.size + 1 < k → k < w3.heap.size → w4.heap[k]? = w3.heap[k]? := fun k h1 h2 => (GR4.out.block k (by simp; omega) (fun e => by cases e; omega)).trans (Below.heap_alloc _ _ _ h2)
      have A4 : ∀ k, w.heap.size + 1 < k → k < wr.heap.size → w4.heap[k]? = wr.heap[k]? := fun k h1 h2 => (A34 k h1 (by have := B12.size; omega)).trans (B12.block k h2)
      refine ⟨L ++ [x], ?_, by simp, by simp; omega, ?_, ?_, ?_⟩
      · simp
      · simpa using OW4
      · exact hid (LD.out.add (by have := B12.size; omega) A4 hlt (X3.out.kept fun k k1 k2 k3 => A34 k (by have := B2.out.size; omega) k3) B2.out.size (by omega) sz34)
      · exact hid ((((BW.out.trans (B12.mono (by omega))).alloc (by have := B12.size; omega) _)).grown GR4.out (by simp; have := B12.size; omega) (fun k e => by cases e; omega))
      · simp only [intOf]; omega
    · go_wp2_with (fail)
      go_ret
      refine ⟨_, rfl, ?_, BW.out⟩
      have e : L.length = t.l.length := by omega
      have hL' := LD.out
      rw [e]
      obtain ⟨_, los, his, h1, h2, h3⟩ := hL'
      rcases OW.out.2 with ⟨hv, _⟩ | ⟨g', cap', cur, hv, _, hg, _, _, hcs, htk⟩
      · cases hv
      · injection hv with e1 e2 e3
        injection e1 with e1
        injection e1 with e1
        subst e1
        subst e3
        have hg1 := block_lt hg
        refine .arr _ _ t HK.out (w.heap.size + 1) t.l.length cur (fun j => L.getD j undef) los his (by omega) hg1 (Nat.le_refl _) hl hg ?_ (fun j hj => ⟨by have := (h1 j (by omega)).1; omega, (h1 j (by omega)).2, .inl (h1 j (by omega)).1⟩) ?_ ?_
        · intro j hj
          have h4 : (cur.toList.take (L.length * 1))[j]? = L[j]? := by rw [htk]
          rw [List.getElem?_take, if_pos (by omega)] at h4
          rw [getD_len _ _ _ (by omega), ← List.getElem?_eq_getElem, ← h4]
          simp
        · intro i j hi' hj hne
          rcases Nat.lt_or_gt_of_ne hne with h | h
          · exact .inl (h2 i j h (by omega))
          · exact .inr (h2 j i h (by omega))
        · intro j hj
          rw [getD_len _ _ _ (by omega)]
          exact h3 j (by omega) hj
end Go.Proofs.YtonnmongipaheaaGreatDoor
