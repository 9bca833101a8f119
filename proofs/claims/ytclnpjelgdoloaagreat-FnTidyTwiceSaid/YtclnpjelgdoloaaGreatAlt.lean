/- alt.alter: a value is made tidy in place: scalars, arrays; the plain part of objects. -/
import Derived.Test.YtclnpjelgdoloaaGreatDec2
namespace Go.Proofs.YtclnpjelgdoloaaGreat
open Go.RowKit Go.Maps
set_option linter.unusedVariables false
set_option linter.unusedSimpArgs false

/-- Only blocks from lo up to hi, and new ones, have turned. -/
structure Outside (lo hi : Nat) (w w' : World) : Prop where
  os : w'.os = w.os
  tape : w'.tape = w.tape
  output : w'.output = w.output
  size : w.heap.size ≤ w'.heap.size
  block : ∀ k, k < w.heap.size → (k < lo ∨ hi ≤ k) → w'.heap[k]? = w.heap[k]?

theorem Outside.refl (lo hi : Nat) (w : World) : Outside lo hi w w := ⟨rfl, rfl, rfl, Nat.le_refl _, fun _ _ _ => rfl⟩

theorem Outside.trans {lo hi : Nat} {a b c : World} (h : Outside lo hi a b) (h' : Outside lo hi b c) : Outside lo hi a c :=
  ⟨h'.os.trans h.os, h'.tape.trans h.tape, h'.output.trans h.output, Nat.le_trans h.size h'.size, fun k hk hn => (h'.block k (Nat.lt_of_lt_of_le hk h.size) hn).trans (h.block k hk hn)⟩

theorem Outside.mono {lo hi lo' hi' : Nat} {a b : World} (h : Outside lo hi a b) (h1 : lo' ≤ lo) (h2 : hi ≤ hi') : Outside lo' hi' a b := ⟨h.os, h.tape, h.output, h.size, fun k hk hn => h.block k hk (by omega)⟩

theorem Outside.grown {lo hi : Nat} {a b c : World} (h : Outside lo hi a b) {g : Nat} (hg : b.grownBy c (some g)) (hin : (lo ≤ g ∧ g < hi) ∨ a.heap.size ≤ g) : Outside lo hi a c :=
  ⟨hg.os.trans h.os, hg.tape.trans h.tape, hg.output.trans h.output, Nat.le_trans h.size hg.size, fun k hk hn => (hg.block k (Nat.lt_of_lt_of_le hk h.size) (fun e => by cases e; omega)).trans (h.block k hk hn)⟩

theorem Outside.fresh {lo hi : Nat} {a b c : World} (h : Outside lo hi a b) (hg : b.grownBy c none) : Outside lo hi a c :=
  ⟨hg.os.trans h.os, hg.tape.trans h.tape, hg.output.trans h.output, Nat.le_trans h.size hg.size, fun k hk hn => (hg.block k (Nat.lt_of_lt_of_le hk h.size) (fun e => by cases e)).trans (h.block k hk hn)⟩

def AltPost (on oe : Bool) (t : V) (lo hi : Nat) (x : Value) (w : World) (e : Ending) (w' : World) : Prop := e = .returned x ∧ ∃ t', Tid on oe t t' ∧ PSep w' lo hi x t' ∧ Outside lo hi w w'

set_option maxRecDepth 100000 in
theorem alt_null (q : Value) (w : World) : Calls Tryz.prog 41 #[.nilIface, q] w (SameV .nilIface w) := by
  have t4 := tan4; unfold Ta at t4
  have t2 := tan2; unfold Ta at t2
  have t22 := tan22; unfold Ta at t22
  have t9 := tan9; unfold Ta at t9
  go_enter Tryz.func41, Tryz.ntmps41
  go_wp2_with (fail)
  go_ret
  exact ⟨rfl, rfl⟩

set_option maxRecDepth 100000 in
theorem alt_bool (b : Bool) (q : Value) (w : World) : Calls Tryz.prog 41 #[.iface 4 (.bool b), q] w (SameV (.iface 4 (.bool b)) w) := by
  have t4 := tab4 (.bool b); unfold Ta at t4
  have t2 := tab2 (.bool b); unfold Ta at t2
  have t22 := tab22 (.bool b); unfold Ta at t22
  have t9 := tab9 (.bool b); unfold Ta at t9
  go_enter Tryz.func41, Tryz.ntmps41
  go_wp2_with (fail)
  go_ret
  exact ⟨rfl, rfl⟩

set_option maxRecDepth 100000 in
theorem alt_int (b : Int) (q : Value) (w : World) : Calls Tryz.prog 41 #[.iface 2 (.int .i64 b), q] w (SameV (.iface 2 (.int .i64 b)) w) := by
  have t4 := tai4 (.int .i64 b); unfold Ta at t4
  have t2 := tai2 (.int .i64 b); unfold Ta at t2
  have t22 := tai22 (.int .i64 b); unfold Ta at t22
  have t9 := tai9 (.int .i64 b); unfold Ta at t9
  go_enter Tryz.func41, Tryz.ntmps41
  go_wp2_with (fail)
  go_ret
  exact ⟨rfl, rfl⟩

set_option maxRecDepth 100000 in
theorem alt_flo (b : Nat) (q : Value) (w : World) : Calls Tryz.prog 41 #[.iface 22 (.float .f64 b), q] w (SameV (.iface 22 (.float .f64 b)) w) := by
  have t4 := taf4 (.float .f64 b); unfold Ta at t4
  have t2 := taf2 (.float .f64 b); unfold Ta at t2
  have t22 := taf22 (.float .f64 b); unfold Ta at t22
  have t9 := taf9 (.float .f64 b); unfold Ta at t9
  go_enter Tryz.func41, Tryz.ntmps41
  go_wp2_with (fail)
  go_ret
  exact ⟨rfl, rfl⟩

set_option maxRecDepth 100000 in
theorem alt_str (b : ByteArray) (q : Value) (w : World) : Calls Tryz.prog 41 #[.iface 9 (.string b), q] w (SameV (.iface 9 (.string b)) w) := by
  have t4 := tas4 (.string b); unfold Ta at t4
  have t2 := tas2 (.string b); unfold Ta at t2
  have t22 := tas22 (.string b); unfold Ta at t22
  have t9 := tas9 (.string b); unfold Ta at t9
  go_enter Tryz.func41, Tryz.ntmps41
  go_wp2_with (fail)
  go_ret
  exact ⟨rfl, rfl⟩

/-- The array so far: the first j elements are tidy. -/
structure AltArr (on oe : Bool) (t : V) (lo hi g : Nat) (cur : Array Value) (xs : Nat → Value) (los his : Nat → Nat) (w0 wr : World) (j : Nat) (T : Nat → V) : Prop where
  done : ∀ i (h : i < t.l.length), i < j → Tid on oe t.l[i] (T i) ∧ PSep wr (los i) (his i) (xs i) (T i)
  todo : ∀ i (h : i < t.l.length), j ≤ i → PSep wr (los i) (his i) (xs i) t.l[i]
  row : wr.heap[g]? = some (.cells cur 20 (0, 0))
  out : Outside lo hi w0 wr

theorem AltArr.next {on oe : Bool} {t : V} {lo hi g : Nat} {cur : Array Value} {xs : Nat → Value} {los his : Nat → Nat} {w0 wr w2 : World} {j : Nat} {T : Nat → V} {t' : V} (h : AltArr on oe t lo hi g cur xs los his w0 wr j T) (hlt : j < t.l.length)
    (hin : ∀ j, j < t.l.length → lo ≤ los j ∧ his j ≤ hi ∧ (g < los j ∨ his j ≤ g)) (hdis : ∀ i j, i < t.l.length → j < t.l.length → i ≠ j → his i ≤ los j ∨ his j ≤ los i)
    (ht : Tid on oe t.l[j] t') (hp : PSep w2 (los j) (his j) (xs j) t') (ho : Outside (los j) (his j) wr w2) : AltArr on oe t lo hi g cur xs los his w0 w2 (j + 1) (fun i => if i = j then t' else T i) := by
  have keep : ∀ i (h' : i < t.l.length), i ≠ j → ∀ k, los i ≤ k → k < his i → k < wr.heap.size → w2.heap[k]? = wr.heap[k]? := fun i h' hne k h1 h2 h3 => ho.block k h3 (by
    rcases hdis i j h' hlt hne with q | q
    · exact .inl (by omega)
    · exact .inr (by omega))
  have hi' := hin j hlt
  refine ⟨?_, ?_, ?_, h.out.trans (ho.mono hi'.1 hi'.2.1)⟩
  · intro i h' hij
    by_cases e : i = j
    · subst e
      simp only [if_true]
      exact ⟨ht, hp⟩
    · simp only [if_neg e]
      have := h.done i h' (by omega)
      exact ⟨this.1, this.2.kept (keep i h' e)⟩
  · intro i h' hij
    exact (h.todo i h' (by omega)).kept (keep i h' (by omega))
  · exact (ho.block g (block_lt h.row) (by omega)).trans h.row

set_option maxRecDepth 100000 in
set_option maxHeartbeats 2000000 in
theorem alt_arr (on oe : Bool) (t : V) (lo hi g cap ob : Nat) (cur : Array Value) (xs : Nat → Value) (los his : Nat → Nat) (w : World) (hk : t.k = 7) (hl : t.l.length ≤ 300) (hg : lo ≤ g) (hg' : g < hi) (hle : t.l.length ≤ cap) (hcap : cap ≤ 1000000) (hb : w.heap[g]? = some (.cells cur 20 (0, 0))) (hc : ∀ j, j < t.l.length → cur[j]? = some (xs j))
    (hin : ∀ j, j < t.l.length → lo ≤ los j ∧ his j ≤ hi ∧ (g < los j ∨ his j ≤ g)) (hdis : ∀ i j, i < t.l.length → j < t.l.length → i ≠ j → his i ≤ los j ∨ his j ≤ los i) (hr : ∀ j (hj : j < t.l.length), PSep w (los j) (his j) (xs j) t.l[j])
    (ho : Opts w ob on oe) (hob : ob < lo ∨ hi ≤ ob) (hsz : hi ≤ w.heap.size)
    (ih : ∀ j (hj : j < t.l.length) (w' : World), PSep w' (los j) (his j) (xs j) t.l[j] → Opts w' ob on oe → hi ≤ w'.heap.size → Calls Tryz.prog 41 #[xs j, .pointer (some ⟨ob, 0, none⟩)] w' (AltPost on oe t.l[j] (los j) (his j) (xs j) w')) :
    Calls Tryz.prog 41 #[.iface 56 (.slice (some ⟨g, 0, none⟩) t.l.length cap), .pointer (some ⟨ob, 0, none⟩)] w (AltPost on oe t lo hi (.iface 56 (.slice (some ⟨g, 0, none⟩) t.l.length cap)) w) := by
  have HK := hid hk
  have HC := hid hc
  have HIN := hid hin
  have HDIS := hid hdis
  have IH := hid ih
  have HO := hid ho
  have HOB := hid hob
  have HSZ := hid hsz
  have HG := hid (show lo ≤ g ∧ g < hi from ⟨hg, hg'⟩)
  have D0 : Hid (AltArr on oe t lo hi g cur xs los his w w 0 (fun _ => t)) := hid ⟨fun i h h' => absurd h' (by omega), fun i h _ => hr i h, hb, Outside.refl _ _ _⟩
  clear hk hc hin hdis ih ho hob hsz hr hb hg hg'
  have t4 := taa4 (.slice (some ⟨g, 0, none⟩) t.l.length cap); unfold Ta at t4
  have t2 := taa2 (.slice (some ⟨g, 0, none⟩) t.l.length cap); unfold Ta at t2
  have t22 := taa22 (.slice (some ⟨g, 0, none⟩) t.l.length cap); unfold Ta at t22
  have t9 := taa9 (.slice (some ⟨g, 0, none⟩) t.l.length cap); unfold Ta at t9
  have t3 := taa3 (.slice (some ⟨g, 0, none⟩) t.l.length cap); unfold Ta at t3
  have t87 := taa87 (.slice (some ⟨g, 0, none⟩) t.l.length cap); unfold Ta at t87
  have t88 := taa88 (.slice (some ⟨g, 0, none⟩) t.l.length cap); unfold Ta at t88
  have t21 := taa21 (.slice (some ⟨g, 0, none⟩) t.l.length cap); unfold Ta at t21
  have t89 := taa89 (.slice (some ⟨g, 0, none⟩) t.l.length cap); unfold Ta at t89
  have t5 := taa5 (.slice (some ⟨g, 0, none⟩) t.l.length cap); unfold Ta at t5
  have t90 := taa90 (.slice (some ⟨g, 0, none⟩) t.l.length cap); unfold Ta at t90
  have t91 := taa91 (.slice (some ⟨g, 0, none⟩) t.l.length cap); unfold Ta at t91
  have t77 := taa77 (.slice (some ⟨g, 0, none⟩) t.l.length cap); unfold Ta at t77
  have t92 := taa92 (.slice (some ⟨g, 0, none⟩) t.l.length cap); unfold Ta at t92
  have t56 := taa56 (.slice (some ⟨g, 0, none⟩) t.l.length cap); unfold Ta at t56
  go_enter Tryz.func41, Tryz.ntmps41
  go_wp2_with (fail)
  go_loopw [125] (fun k wr => ∃ (j : Nat) (T : Nat → V), k = .int .i64 (j : Int) ∧ j ≤ t.l.length ∧ Hid (AltArr on oe t lo hi g cur xs los his w wr j T)) (fun k _ => t.l.length - (intOf k).toNat)
  case atStart => exact ⟨0, _, rfl, Nat.zero_le _, D0⟩
  case round =>
    clear D0
    obtain ⟨j, T, rfl, hj, AA⟩ := hrel
    by_cases hlt : j < t.l.length
    · have cx : wr.cell? ⟨g, j, none⟩ = some (xs j) := (cell_of_row _ g j _ 20 (0, 0) AA.out.row).trans (HC.out j hlt)
      have JC : Hid (j < cur.size) := hid (Array.getElem?_eq_some_iff.1 (HC.out j hlt)).1
      have CX := hid cx
      have IHj := hid (IH.out j hlt wr (AA.out.todo j hlt (Nat.le_refl _)) (HO.out.kept (AA.out.out.block _ HO.out.lt HOB.out)) (Nat.le_trans HSZ.out AA.out.out.size))
      go_wp2_with (first
        | (go_at_call 41; refine IHj.out.mono ?_; rintro e w2 ⟨rfl, t', ht, hp, ho2⟩; have DN := hid (AA.out.next hlt HIN.out HDIS.out ht hp ho2); have ON := hid hp.one; clear ht hp ho2)
        | (refine wpList_store20 rfl rfl (.tmp 135) (.tmp 134) rfl g j (xs j) rfl rfl ON.out cur DN.out.row JC.out ?_; rw [setCell_same ((cell_of_row _ g j _ 20 (0, 0) DN.out.row).trans (HC.out j hlt))]))
      go_roundw
      case rel => exact ⟨j + 1, _, by simp, by omega, DN⟩
      case measure => simp only [intOf]; omega
    · go_wp2_with (fail)
      go_ret
      have ej : j = t.l.length := by omega
      have A := AA.out
      refine ⟨rfl, .mk 7 0 0 ByteArray.empty ((List.range t.l.length).map T) [], .arr t _ HK.out rfl rfl (by show ((List.range t.l.length).map T).length = _; simp) (fun i h h' => ?_), ?_, A.out⟩
      · have e : ((List.range t.l.length).map T)[i]'(by simpa using h) = T i := by simp
        show Tid on oe t.l[i] (((List.range t.l.length).map T)[i]'(by simpa using h))
        rw [e]
        exact (A.done i h (by omega)).1
      · have hll : (V.mk 7 0 0 ByteArray.empty ((List.range t.l.length).map T) []).l.length = t.l.length := by show ((List.range t.l.length).map T).length = _; simp
        have hp := PSep.arr (w := wr) lo hi (.mk 7 0 0 ByteArray.empty ((List.range t.l.length).map T) []) rfl g cap cur xs los his HG.out.1 HG.out.2 (by rw [hll]; exact hle) hcap A.row (fun i hi => HC.out i (by rw [hll] at hi; exact hi)) (fun i hi => HIN.out i (by rw [hll] at hi; exact hi))
          (fun i i' hi hi' => HDIS.out i i' (by rw [hll] at hi; exact hi) (by rw [hll] at hi'; exact hi')) (fun i hi => by
            have hi2 : i < t.l.length := by rw [hll] at hi; exact hi
            have e : ((List.range t.l.length).map T)[i]'(by simpa using hi2) = T i := by simp
            show PSep wr (los i) (his i) (xs i) (((List.range t.l.length).map T)[i]'(by simpa using hi2))
            rw [e]
            exact (A.done i hi2 (by omega)).2)
        rw [hll] at hp
        exact hp
end Go.Proofs.YtclnpjelgdoloaaGreat
