/- alt.decompose: a copy that is made tidy. -/
import Derived.Test.YtclnpjelgdoloaaGreatCond
namespace Go.Proofs.YtclnpjelgdoloaaGreat
open Go.RowKit Go.Maps
set_option linter.unusedVariables false
set_option linter.unusedSimpArgs false

def DecPost (on oe : Bool) (t : V) (w : World) (e : Ending) (w' : World) : Prop := ∃ y t', e = .returned y ∧ Tid on oe t t' ∧ PRep w' w.heap.size y t' ∧ Below w.heap.size w w'

def SameV (v : Value) (w : World) (e : Ending) (w' : World) : Prop := e = .returned v ∧ w' = w

set_option maxRecDepth 100000 in
theorem dec_null (q : Value) (w : World) : Calls Tryz.prog 42 #[.nilIface, q] w (SameV .nilIface w) := by
  have t4 := tan4; unfold Ta at t4
  have t2 := tan2; unfold Ta at t2
  have t22 := tan22; unfold Ta at t22
  have t9 := tan9; unfold Ta at t9
  go_enter Tryz.func42, Tryz.ntmps42
  go_wp2_with (fail)
  go_ret
  exact ⟨rfl, rfl⟩

set_option maxRecDepth 100000 in
theorem dec_bool (b : Bool) (q : Value) (w : World) : Calls Tryz.prog 42 #[.iface 4 (.bool b), q] w (SameV (.iface 4 (.bool b)) w) := by
  have t4 := tab4 (.bool b); unfold Ta at t4
  have t2 := tab2 (.bool b); unfold Ta at t2
  have t22 := tab22 (.bool b); unfold Ta at t22
  have t9 := tab9 (.bool b); unfold Ta at t9
  go_enter Tryz.func42, Tryz.ntmps42
  go_wp2_with (fail)
  go_ret
  exact ⟨rfl, rfl⟩

set_option maxRecDepth 100000 in
theorem dec_int (b : Int) (q : Value) (w : World) : Calls Tryz.prog 42 #[.iface 2 (.int .i64 b), q] w (SameV (.iface 2 (.int .i64 b)) w) := by
  have t4 := tai4 (.int .i64 b); unfold Ta at t4
  have t2 := tai2 (.int .i64 b); unfold Ta at t2
  have t22 := tai22 (.int .i64 b); unfold Ta at t22
  have t9 := tai9 (.int .i64 b); unfold Ta at t9
  go_enter Tryz.func42, Tryz.ntmps42
  go_wp2_with (fail)
  go_ret
  exact ⟨rfl, rfl⟩

set_option maxRecDepth 100000 in
theorem dec_flo (b : Nat) (q : Value) (w : World) : Calls Tryz.prog 42 #[.iface 22 (.float .f64 b), q] w (SameV (.iface 22 (.float .f64 b)) w) := by
  have t4 := taf4 (.float .f64 b); unfold Ta at t4
  have t2 := taf2 (.float .f64 b); unfold Ta at t2
  have t22 := taf22 (.float .f64 b); unfold Ta at t22
  have t9 := taf9 (.float .f64 b); unfold Ta at t9
  go_enter Tryz.func42, Tryz.ntmps42
  go_wp2_with (fail)
  go_ret
  exact ⟨rfl, rfl⟩

set_option maxRecDepth 100000 in
theorem dec_str (b : ByteArray) (q : Value) (w : World) : Calls Tryz.prog 42 #[.iface 9 (.string b), q] w (SameV (.iface 9 (.string b)) w) := by
  have t4 := tas4 (.string b); unfold Ta at t4
  have t2 := tas2 (.string b); unfold Ta at t2
  have t22 := tas22 (.string b); unfold Ta at t22
  have t9 := tas9 (.string b); unfold Ta at t9
  go_enter Tryz.func42, Tryz.ntmps42
  go_wp2_with (fail)
  go_ret
  exact ⟨rfl, rfl⟩

section
variable {ops : Array Oper} {rest : List Oper} {o : Oper} {a : Act} {w : World} {Q : Exit → Act → World → Prop}
set_option maxRecDepth 100000 in
theorem wpList_store20 (hgd : Region.wanted o (yielded ops a.tmps) = true) (hd : o.dst = none) (x y : Operand) (ho : o.op = .store 20 x y) (g i : Nat) (v : Value) (hx : a.eval x = .pointer (some ⟨g, i, none⟩)) (hy : a.eval y = v) (h1 : v = .nilIface ∨ ∃ ty u, v = .iface ty u)
    (cur : Array Value) (hg : w.heap[g]? = some (.cells cur 20 (0, 0))) (hi : i < cur.size) (h : wpList Tryz.prog ops Q rest a (w.setCell ⟨g, i, none⟩ v)) : wpList Tryz.prog ops Q (o :: rest) a w := by
  refine BigFrame.wpList_want hgd fun K hK => ?_
  have hc : w.cell? ⟨g, i, none⟩ = some cur[i] := (cell_of_row _ g i _ 20 (0, 0) hg).trans (Array.getElem?_eq_getElem hi)
  have hf : w.frozen? ⟨g, i, none⟩ = false := by simp [World.frozen?, hg]
  have hk := hK a (w.setCell ⟨g, i, none⟩ v) h
  clear h hK hg
  unfold Oper.wp execOp
  simp only [ho, hx, hy]
  clear hy ho hx
  rcases h1 with e | ⟨ty, u, e⟩
  · rw [e] at hk ⊢
    clear e
    go_simp
    exact hk
  · rw [e] at hk ⊢
    clear e
    go_simp
    exact hk
end

theorem Above.trans' {B : Nat} {a b c : World} (h : Above B a b) (h' : Above B b c) (hs : a.heap.size ≤ b.heap.size) : Above B a c := h.trans h' hs

theorem above_cell (w : World) (g i : Nat) (v : Value) (B : Nat) (hg : g < B) : Above B w (w.setCell ⟨g, i, none⟩ v) := fun k hk _ => Below.heap_setCell _ _ _ _ (fun e => by simp at e; omega)

/-- The copy of an array so far. -/
structure DecArr (on oe : Bool) (t : V) (g : Nat) (w0 wr : World) (L : List Value) (Ts : List V) : Prop where
  blk : ∃ cur, wr.heap[g]? = some (.cells cur 20 (0, 0)) ∧ cur.size = t.l.length ∧ ∀ j, j < L.length → cur[j]? = L[j]?
  len : Ts.length = L.length
  le : L.length ≤ t.l.length
  tid : ∀ j (h : j < Ts.length) (h' : j < t.l.length), Tid on oe t.l[j] Ts[j]
  rep : ∀ j (h : j < L.length) (h' : j < Ts.length), PRep wr (g + 1) L[j] Ts[j]
  bel : Below g w0 wr
  low : g < wr.heap.size

theorem DecArr.next {on oe : Bool} {t : V} {g : Nat} {w0 wr w2 : World} {L : List Value} {Ts : List V} {y : Value} {t' : V} (h : DecArr on oe t g w0 wr L Ts) (hlt : L.length < t.l.length) (hb : Below wr.heap.size wr w2) (ht : Tid on oe t.l[L.length] t') (hr : PRep w2 wr.heap.size y t') :
    DecArr on oe t g w0 (w2.setCell ⟨g, L.length, none⟩ y) (L ++ [y]) (Ts ++ [t']) := by
  obtain ⟨cur, h1, h2, h3⟩ := h.blk
  have hlen := h.len
  have h1' : w2.heap[g]? = some (.cells cur 20 (0, 0)) := (hb.block g h.low).trans h1
  have a2 : Above (g + 1) wr w2 := Above.of_below hb
  have a3 : Above (g + 1) w2 (w2.setCell ⟨g, L.length, none⟩ y) := above_cell _ _ _ _ _ (by omega)
  refine ⟨⟨cur.setIfInBounds L.length y, ?_, by simpa using h2, ?_⟩, by simp [hlen], by simp; omega, ?_, ?_, ?_, ?_⟩
  · simp only [World.setCell, Array.getElem?_modify, if_pos, h1', Option.map_some]
    rfl
  · intro j hj
    rw [Array.getElem?_setIfInBounds]
    by_cases e : j = L.length
    · subst e
      simp [h2, hlt]
    · rw [if_neg (by omega), h3 j (by simp at hj; omega), List.getElem?_append_left (by simp at hj; omega)]
  · intro j hj hj'
    by_cases e : j < Ts.length
    · rw [List.getElem_append_left e]
      exact h.tid j e hj'
    · have e2 : j = Ts.length := by simp at hj; omega
      subst e2
      simp only [hlen] at ht ⊢
      simpa [hlen] using ht
  · intro j hj hj'
    by_cases e : j < L.length
    · rw [List.getElem_append_left e, List.getElem_append_left (by omega)]
      exact ((h.rep j e (by omega)).kept a2).kept a3
    · have e2 : j = L.length := by simp at hj; omega
      subst e2
      have q1 : (L ++ [y])[L.length]'hj = y := by simp
      have q2 : (Ts ++ [t'])[L.length]'hj' = t' := by simp [← hlen]
      rw [q1, q2]
      exact (hr.mono (by have := h.low; omega)).kept a3
  · exact (h.bel.trans (hb.mono (by have := h.low; omega))).setCell (by simp) _
  · simp [World.setCell]
    have := h.low
    have := hb.size
    omega

theorem DecArr.start {on oe : Bool} {t : V} {w w1 : World} {xs : List Value} (ho : w1.ownsRow w.heap.size 20 1 (.slice (some ⟨w.heap.size, 0, none⟩) t.l.length t.l.length) t.l.length xs) (hg : w.grownBy w1 none) : DecArr on oe t w.heap.size w w1 [] [] := by
  rcases ho.2 with ⟨hv, _⟩ | ⟨g', cap', cur, hv, _, hb, _, _, hcs, _⟩
  · cases hv
  · injection hv with e1 e2 e3
    injection e1 with e1
    injection e1 with e1
    subst e1
    subst e3
    exact ⟨⟨cur, hb, by simpa using hcs, fun j hj => absurd hj (by simp)⟩, rfl, by simp, fun j hj => absurd hj (by simp), fun j hj => absurd hj (by simp), (Below.refl _ _).grown hg (Nat.le_refl _) (fun k e => by cases e), block_lt hb⟩

set_option maxRecDepth 100000 in
set_option maxHeartbeats 2000000 in
theorem dec_arr (on oe : Bool) (t : V) (g0 cap ob : Nat) (xs : Nat → Value) (w : World) (hk : t.k = 7) (hl : t.l.length ≤ 300) (hx : ∀ j, j < t.l.length → w.cell? ⟨g0, j, none⟩ = some (xs j)) (ho : Opts w ob on oe)
    (ih : ∀ j (hj : j < t.l.length) (w' : World), Below w.heap.size w w' → Calls Tryz.prog 42 #[xs j, .pointer (some ⟨ob, 0, none⟩)] w' (DecPost on oe t.l[j] w')) :
    Calls Tryz.prog 42 #[.iface 56 (.slice (some ⟨g0, 0, none⟩) t.l.length cap), .pointer (some ⟨ob, 0, none⟩)] w (DecPost on oe t w) := by
  have HX := hid hx
  have HK := hid hk
  have IH := hid ih
  obtain ⟨i0, hi, hz0, hz1, hz2⟩ := info_parts info20
  clear hx hk ih ho
  have t4 := taa4 (.slice (some ⟨g0, 0, none⟩) t.l.length cap); unfold Ta at t4
  have t2 := taa2 (.slice (some ⟨g0, 0, none⟩) t.l.length cap); unfold Ta at t2
  have t22 := taa22 (.slice (some ⟨g0, 0, none⟩) t.l.length cap); unfold Ta at t22
  have t9 := taa9 (.slice (some ⟨g0, 0, none⟩) t.l.length cap); unfold Ta at t9
  have t3 := taa3 (.slice (some ⟨g0, 0, none⟩) t.l.length cap); unfold Ta at t3
  have t87 := taa87 (.slice (some ⟨g0, 0, none⟩) t.l.length cap); unfold Ta at t87
  have t88 := taa88 (.slice (some ⟨g0, 0, none⟩) t.l.length cap); unfold Ta at t88
  have t21 := taa21 (.slice (some ⟨g0, 0, none⟩) t.l.length cap); unfold Ta at t21
  have t89 := taa89 (.slice (some ⟨g0, 0, none⟩) t.l.length cap); unfold Ta at t89
  have t5 := taa5 (.slice (some ⟨g0, 0, none⟩) t.l.length cap); unfold Ta at t5
  have t90 := taa90 (.slice (some ⟨g0, 0, none⟩) t.l.length cap); unfold Ta at t90
  have t91 := taa91 (.slice (some ⟨g0, 0, none⟩) t.l.length cap); unfold Ta at t91
  have t77 := taa77 (.slice (some ⟨g0, 0, none⟩) t.l.length cap); unfold Ta at t77
  have t92 := taa92 (.slice (some ⟨g0, 0, none⟩) t.l.length cap); unfold Ta at t92
  have t56 := taa56 (.slice (some ⟨g0, 0, none⟩) t.l.length cap); unfold Ta at t56
  go_enter Tryz.func42, Tryz.ntmps42
  go_wp2_with (at_make; go_loud (refine wpList_make_full _ rfl _ _ 56 rfl w.heap.size 20 i0 .nilIface 1 Tryz.underlying56 hi hz0 hz1 .i64 .i64 t.l.length t.l.length t.l.length rfl rfl rfl rfl (by rw [hz2]; omega) (by unfold maxLen; omega) (Nat.le_refl _) ?_); intro w1 hown hgrow; have D0 : Hid (DecArr on oe t w.heap.size w w1 [] []) := hid (DecArr.start hown hgrow); clear hown hgrow)
  go_loopw [123] (fun k wr => ∃ (L : List Value) (Ts : List V), k = .int .i64 (L.length : Int) ∧ Hid (DecArr on oe t w.heap.size w wr L Ts)) (fun k _ => t.l.length - (intOf k).toNat)
  case atStart => exact ⟨[], [], rfl, D0⟩
  case round =>
    obtain ⟨L, Ts, rfl, DA⟩ := hrel
    by_cases hlt : L.length < t.l.length
    · have cx := (DA.out.bel.cell (p := ⟨g0, L.length, none⟩) (World.block_lt_of_cell? w _ (HX.out _ hlt))).trans (HX.out _ hlt)
      obtain ⟨cur, hc1, hc2, hc3⟩ := DA.out.blk
      have C1 := hid hc1
      have C2 : Hid (L.length < cur.size) := hid (by rw [hc2]; exact hlt)
      have BL : Hid (Below w.heap.size w wr) := hid DA.out.bel
      clear hc1 hc2 hc3
      go_wp2_with (first
        | (go_at_call 42; refine (IH.out _ hlt wr BL.out).mono ?_; rintro e w2 ⟨y, t', rfl, ht, hr, hb⟩; have TT := hid ht; have RR := hid hr; have B2 := hid hb; clear ht hr hb)
        | (refine wpList_store20 rfl rfl (.tmp 133) (.tmp 132) rfl w.heap.size L.length y rfl rfl RR.out.one cur ((B2.out.block _ DA.out.low).trans C1.out) C2.out ?_))
      have DN := hid (DA.out.next hlt B2.out TT.out RR.out)
      go_roundw
      case rel => exact ⟨L ++ [y], Ts ++ [t'], by simp, DN⟩
      case measure => simp only [intOf]; omega
    · go_wp2_with (fail)
      go_ret
      have hle := DA.out.le
      have e : L.length = t.l.length := by omega
      obtain ⟨cur, hc1, hc2, hc3⟩ := DA.out.blk
      have hTl : Ts.length = t.l.length := by rw [DA.out.len, e]
      refine ⟨_, .mk 7 0 0 ByteArray.empty Ts [], rfl, .arr t _ HK.out rfl rfl hTl (fun j hj hj' => DA.out.tid j hj' hj), ?_, DA.out.bel⟩
      have hp := PRep.arr (w := wr) (B := w.heap.size) (.mk 7 0 0 ByteArray.empty Ts []) rfl w.heap.size t.l.length (fun j => L.getD j undef) (Nat.le_refl _) (by show Ts.length ≤ _; omega) (by omega) (fun j hj => by
        have hj2 : j < L.length := by have : j < Ts.length := hj; omega
        rw [cell_of_row _ _ j _ 20 (0, 0) hc1, hc3 j hj2]
        rw [getD_len _ _ _ hj2, List.getElem?_eq_getElem hj2]) (fun j hj => by
        have hj2 : j < L.length := by have : j < Ts.length := hj; omega
        rw [getD_len _ _ _ hj2]
        exact (DA.out.rep j hj2 hj).mono (by omega))
      have e2 : (V.mk 7 0 0 ByteArray.empty Ts []).l.length = t.l.length := hTl
      rw [e2] at hp
      exact hp

theorem keyOf9_inv {v : Value} {kl : Lit} (h : keyOf Tryz.prog 9 v = some kl) : ∃ x, v = .string x ∧ kl = keyLit x := by
  cases v <;> simp [keyOf, Tryz.underlying9, mapKey] at h
  obtain ⟨_, rfl⟩ := h
  exact ⟨_, rfl, rfl⟩

theorem struck_iff (left : Lit → Bool) (x k : ByteArray) : (left (keyLit k) && !(keyLit k).sameKey (keyLit x)) = false ↔ left (keyLit k) = false ∨ k = x := by
  by_cases e : k = x
  · subst e
    simp [(sameKey_keyLit k k).2 rfl]
  · have : (keyLit k).sameKey (keyLit x) = false := by
      rcases h : (keyLit k).sameKey (keyLit x) with _ | _
      · rfl
      · exact absurd ((sameKey_keyLit k x).1 h) e
    simp [this, e]

theorem ranges_move {w w' : World} {b r n cnt : Nat} {D : DataW Value} {left : Lit → Bool} (h : w.ranges Tryz.prog 9 heldElem b r n D left cnt) (hb : w'.heap[b]? = w.heap[b]?) (hr : w'.heap[r]? = w.heap[r]?) : w'.ranges Tryz.prog 9 heldElem b r n D left cnt := by
  obtain ⟨es, clock, since, seen, c0, h1, F, hs, hD, h2, rest⟩ := h
  exact ⟨es, clock, since, seen, c0, hb.trans h1, F, hs, hD, hr.trans h2, rest⟩

theorem lookIn_out : ∀ (ks : List ByteArray) (l : List V) (k : ByteArray), k ∉ ks → lookIn ks l k = nullV
  | [], _, k, _ => rfl
  | _ :: _, [], k, _ => rfl
  | k0 :: ks, x :: l, k, h => by
    simp only [List.mem_cons, not_or] at h
    simp only [lookIn]
    rw [if_neg (Ne.symm h.1)]
    exact lookIn_out ks l k h.2

theorem look_rep {w : World} {B : Nat} {t : V} {D : DataW Value} {xs : Nat → Value} (hD : MapIs D t.keys xs) (hkl : t.keys.length = t.l.length) (hd : t.keys.Nodup) (hr : ∀ j (hj : j < t.l.length), PRep w B (xs j) t.l[j]) {k : ByteArray} {x : Value}
    (h : D.atKey (keyLit k) (.held .nilIface) = .held x) : PRep w B x (t.look k) := by
  by_cases hk : k ∈ t.keys
  · obtain ⟨j, hj, rfl⟩ := List.getElem_of_mem hk
    rw [hD.at_ j hj] at h
    injection h with h
    subst h
    rw [look_at hkl hd j hj]
    exact hr j (by omega)
  · have h0 : has D (keyLit k) = false := by
      rcases e : has D (keyLit k) with _ | _
      · rfl
      · exact absurd ((hD.has_iff k).1 e) hk
    rw [atKey_of_not_has h0] at h
    injection h with h
    subst h
    have e : t.look k = nullV := lookIn_out _ _ _ hk
    rw [e]
    exact .null _ rfl

/-- The copy of an object so far. -/
structure DecObj (on oe : Bool) (t : V) (b nD : Nat) (D : DataW Value) (g : Nat) (w0 wr : World) (left : Lit → Bool) (cnt nn : Nat) (D' : DataW Value) (ks : List ByteArray) (L : List Value) (Ts : List V) (m : ByteArray → V) : Prop where
  rg : wr.ranges Tryz.prog 9 heldElem b (g + 1) nD D left cnt
  own : wr.ownsMap Tryz.prog 9 heldElem g nn D'
  le : nn + cnt ≤ 300
  is : MapIs D' ks (fun j => L.getD j undef)
  lenL : L.length = ks.length
  lenT : Ts.length = ks.length
  nd : ks.Nodup
  mem : ∀ k, k ∈ ks ↔ (k ∈ t.keys ∧ left (keyLit k) = false) ∧ gone on oe (m k) = false
  tid : ∀ k, k ∈ t.keys → left (keyLit k) = false → Tid on oe (t.look k) (m k)
  lk : ∀ j (h : j < ks.length) (h' : j < Ts.length), m ks[j] = Ts[j]
  rep : ∀ j (h : j < L.length) (h' : j < Ts.length), PRep wr (g + 2) L[j] Ts[j]
  bel : Below g w0 wr
  low : g + 2 ≤ wr.heap.size

section
variable {on oe : Bool} {t : V} {b nD : Nat} {D : DataW Value} {g : Nat} {w0 wr w1 w2 : World} {left : Lit → Bool} {cnt nn : Nat} {D' : DataW Value} {ks : List ByteArray} {L : List Value} {Ts : List V} {m : ByteArray → V}

/-- A member that is left out. -/
theorem DecObj.skip (h : DecObj on oe t b nD D g w0 wr left cnt nn D' ks L Ts m) {x : ByteArray} {t' : V} {cnt1 : Nat} (hx : left (keyLit x) = true) (hg : wr.grownBy w1 (some (g + 1))) (hrg : w1.ranges Tryz.prog 9 heldElem b (g + 1) nD D (fun z => left z && !z.sameKey (keyLit x)) cnt1)
    (hc : cnt1 < cnt) (hb : Below w1.heap.size w1 w2) (ht : Tid on oe (t.look x) t') (hgone : gone on oe t' = true) :
    DecObj on oe t b nD D g w0 w2 (fun z => left z && !z.sameKey (keyLit x)) cnt1 nn D' ks L Ts (fun k => if k = x then t' else m k) := by
  have hl := h.low
  have a1 : Above (g + 2) wr w1 := fun k h1 h2 => hg.block k h2 (fun e => by cases e; omega)
  have a2 : Above (g + 2) w1 w2 := Above.of_below hb
  have nx : x ∉ ks := fun hm => by
    have := ((h.mem x).1 hm).1.2
    rw [hx] at this
    cases this
  refine ⟨ranges_move hrg (hb.block _ hrg.owns.lt) (hb.block _ hrg.lt), ?_, by have := h.le; omega, h.is, h.lenL, h.lenT, h.nd, ?_, ?_, ?_, fun j h1 h2 => ((h.rep j h1 h2).kept a1).kept a2, ?_, ?_⟩
  · exact ownsMap_below (h.own.kept hg (fun e => by cases e)) hb
  · intro k
    rw [struck_iff]
    by_cases e : k = x
    · subst e
      simp only [if_true, hgone]
      exact ⟨fun h' => absurd h' nx, fun h' => by cases h'.2⟩
    · simp only [if_neg e, e, or_false]
      exact h.mem k
  · intro k hk hl'
    rw [struck_iff] at hl'
    by_cases e : k = x
    · subst e
      simp only [if_true]
      exact ht
    · simp only [if_neg e]
      exact h.tid k hk (by rcases hl' with q | q; exact q; exact absurd q e)
  · intro j h1 h2
    have : ks[j] ≠ x := fun e => nx (by rw [← e]; exact List.getElem_mem h1)
    simp only [if_neg this]
    exact h.lk j h1 h2
  · exact (h.bel.grown hg (by omega) (fun k e => by cases e; omega)).trans (hb.mono (by have := hg.size; omega))
  · have := hg.size
    have := hb.size
    omega

/-- A member that is set. -/
theorem DecObj.set (h : DecObj on oe t b nD D g w0 wr left cnt nn D' ks L Ts m) {w3 : World} {x : ByteArray} {y : Value} {t' : V} {cnt1 : Nat} (hx : left (keyLit x) = true) (hxt : x ∈ t.keys) (hbg : b ≠ g) (hg : wr.grownBy w1 (some (g + 1))) (hrg : w1.ranges Tryz.prog 9 heldElem b (g + 1) nD D (fun z => left z && !z.sameKey (keyLit x)) cnt1)
    (hc : cnt1 < cnt) (hb : Below w1.heap.size w1 w2) (ht : Tid on oe (t.look x) t') (hgone : gone on oe t' = false) (hr : PRep w2 w1.heap.size y t') (hown : w3.ownsMap Tryz.prog 9 heldElem g (nn + 1) (D'.put (keyLit x) (.held y))) (hg3 : w2.grownBy w3 (some g)) :
    DecObj on oe t b nD D g w0 w3 (fun z => left z && !z.sameKey (keyLit x)) cnt1 (nn + 1) (D'.put (keyLit x) (.held y)) (ks ++ [x]) (L ++ [y]) (Ts ++ [t']) (fun k => if k = x then t' else m k) := by
  have hl := h.low
  have hs1 := hg.size
  have hs2 := hb.size
  have hs3 := hg3.size
  have a1 : Above (g + 2) wr w1 := fun k h1 h2 => hg.block k h2 (fun e => by cases e; omega)
  have a2 : Above (g + 2) w1 w2 := Above.of_below hb
  have a3 : Above (g + 2) w2 w3 := fun k h1 h2 => hg3.block k h2 (fun e => by cases e; omega)
  have nx : x ∉ ks := fun hm => by
    have := ((h.mem x).1 hm).1.2
    rw [hx] at this
    cases this
  have hlL := h.lenL
  have hlT := h.lenT
  have r2 := ranges_move hrg (hb.block _ hrg.owns.lt) (hb.block _ hrg.lt)
  refine ⟨r2.kept hg3 (fun e => by cases e; exact hbg rfl) (fun e => by cases e), hown, by have := h.le; omega, ?_, by simp [hlL], by simp [hlT], ?_, ?_, ?_, ?_, ?_, ?_, by omega⟩
  · refine h.is.put x nx y _ ?_ ?_
    · intro j hj
      simp [List.getD_eq_getElem?_getD, List.getElem?_append_left (show j < L.length by omega)]
    · rw [← hlL]
      simp [List.getD_eq_getElem?_getD]
  · rw [List.nodup_append]
    exact ⟨h.nd, by simp, fun p hp q hq e => nx (by simp at hq; rw [← hq, ← e]; exact hp)⟩
  · intro k
    rw [struck_iff]
    simp only [List.mem_append, List.mem_singleton]
    by_cases e : k = x
    · subst e
      simp [hgone, hxt]
    · simp only [if_neg e, e, or_false]
      exact h.mem k
  · intro k hk hl'
    rw [struck_iff] at hl'
    by_cases e : k = x
    · subst e
      simp only [if_true]
      exact ht
    · simp only [if_neg e]
      exact h.tid k hk (by rcases hl' with q | q; exact q; exact absurd q e)
  · intro j h1 h2
    by_cases e : j < ks.length
    · have : ks[j] ≠ x := fun e' => nx (by rw [← e']; exact List.getElem_mem e)
      simp only [List.getElem_append_left e, List.getElem_append_left (show j < Ts.length by omega), if_neg this]
      exact h.lk j e (by omega)
    · have e2 : j = ks.length := by simp at h1; omega
      subst e2
      have q1 : (ks ++ [x])[ks.length]'h1 = x := by simp
      have q2 : (Ts ++ [t'])[ks.length]'h2 = t' := by simp [← hlT]
      simp only [q1, q2, if_true]
  · intro j h1 h2
    by_cases e : j < L.length
    · rw [List.getElem_append_left e, List.getElem_append_left (show j < Ts.length by omega)]
      exact (((h.rep j e (by omega)).kept a1).kept a2).kept a3
    · have e2 : j = L.length := by simp at h1; omega
      subst e2
      have q1 : (L ++ [y])[L.length]'h1 = y := by simp
      have q2 : (Ts ++ [t'])[L.length]'h2 = t' := by simp [show L.length = Ts.length by omega]
      rw [q1, q2]
      exact (hr.mono (by omega)).kept a3
  · exact ((h.bel.grown hg (by omega) (fun k e => by cases e; omega)).trans (hb.mono (by omega))).grown hg3 (by omega) (fun k e => by cases e; omega)
end

end Go.Proofs.YtclnpjelgdoloaaGreat
