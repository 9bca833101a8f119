/- impl.simple, impl.Tidy. -/
import Derived.Test.YtclnpjelgdoloaaGreatValue
namespace Go.Proofs.YtclnpjelgdoloaaGreat
open Go.RowKit Go.Maps Go.Sort
set_option linter.unusedVariables false
set_option linter.unusedSimpArgs false

set_option maxRecDepth 100000 in
theorem simple_any (t : V) (v : Value) (w : World) (hrep : Rep w v t) (hf : Fine t) : Calls Tryz.prog 17 #[v, .int .i64 0] w (BoolPost true w) := by
  obtain ⟨x0, x1, x2, x3, x4, x5, rfl⟩ := hrep.six
  have HR := hid hrep
  have HF := hid hf
  clear hrep hf
  have R0 : Hid (Rep (w.alloc (.cells #[x0, x1, x2, x3, x4, x5] 26)) (.agg #[x0, x1, x2, x3, x4, x5]) t) := hid (HR.out.kept ((Below.refl _ w).alloc (Nat.le_refl _) _))
  have G0 : Hid ((w.alloc (.cells #[x0, x1, x2, x3, x4, x5] 26)).heap[w.heap.size]? = some (.cells #[x0, x1, x2, x3, x4, x5] 26)) := hid (heap_alloc_new w _)
  have B0 : Hid (Below (w.heap.size + 1) (w.alloc (.cells #[x0, x1, x2, x3, x4, x5] 26)) (w.alloc (.cells #[x0, x1, x2, x3, x4, x5] 26))) := hid (Below.refl _ _)
  go_enter Tryz.func17, Tryz.ntmps17
  go_wp2_with (first
    | (refine wpList_loadBox rfl (.tmp 2) rfl w.heap.size rfl #[x0, x1, x2, x3, x4, x5] rfl (by first | exact G0.out | exact box_block B1.out) ?_)
    | (go_at_call 28; refine (right_any _ t _ _ (Nat.le_refl _) R0.out HF.out).mono ?_; rintro e w1 ⟨rfl, hb⟩; have B1 := hid (box_trans B0.out hb); have R1 := hid (R0.out.kept hb); clear hb)
    | (go_at_call 29; refine (big_any _ t _ _ (Nat.le_refl _) R1.out HF.out).mono ?_; rintro e w2 ⟨rfl, hb⟩; have B2 := hid (box_trans B1.out hb); clear hb))
  go_ret
  exact ⟨rfl, box_below B2.out⟩
/-- The options, laid in a block of their own, stand. -/
theorem opts_after {w1 w3 : World} {c : Array Value} {on oe : Bool} (hb : Below (w1.alloc (.cells c 41)).heap.size (w1.alloc (.cells c 41)) w3) (h3 : c[3]? = some (.bool on)) (h4 : c[4]? = some (.bool oe)) : Opts w3 w1.heap.size on oe := by
  have hg : w3.heap[w1.heap.size]? = some (.cells c 41 (0, 0)) := (hb.block _ (by simp)).trans (heap_alloc_new w1 _)
  exact ⟨(cell_of_row _ _ 3 _ 41 (0, 0) hg).trans h3, (cell_of_row _ _ 4 _ 41 (0, 0) hg).trans h4⟩

theorem block_alloc {w : World} {g : Nat} {o X : Obj} (h : w.heap[g]? = some o) : (w.alloc X).heap[g]? = some o := (Below.heap_alloc _ _ _ (block_lt h)).trans h

theorem Outside.below {lo hi : Nat} {a b : World} (h : Outside lo hi a b) (hlo : lo ≤ a.heap.size) : Below lo a b := ⟨h.os, h.tape, h.output, h.size, fun k hk => h.block k (by omega) (.inl hk)⟩

/-- What impl.Tidy gives: the tree made tidy, and that it could. -/
def TidyPost (on oe : Bool) (t : V) (w : World) (e : Ending) (w' : World) : Prop := ∃ v t1 t2, e = .returned (.tuple #[v, .bool false]) ∧ Tid on oe t t1 ∧ Same t1 t2 ∧ Rep w' v t2 ∧ Fine t2 ∧ Below w.heap.size w w'

set_option maxRecDepth 100000 in
set_option maxHeartbeats 2000000 in
theorem tidy_place (on oe : Bool) (t : V) (v : Value) (w : World) (hrep : Rep w v t) (hf : Fine t) : Calls Tryz.prog 7 #[v, .bool on, .bool oe, .bool true] w (TidyPost on oe t w) := by
  obtain ⟨x0, x1, x2, x3, x4, x5, rfl⟩ := hrep.six
  have HB := hid (rep_bnd hrep)
  have HF := hid hf
  have N2 := hid (two_new w (.cells #[x0, x1, x2, x3, x4, x5] 26) (.cells zeroRow 26))
  have R0 := hid (hrep.kept N2.out.2.2)
  unfold zeroRow at N2 R0
  clear hrep hf
  go_enter Tryz.func7, Tryz.ntmps7
  go_wp2_with (first
    | (refine wpList_loadBox rfl (.tmp 4) rfl w.heap.size rfl #[x0, x1, x2, x3, x4, x5] rfl (by first | exact N2.out.1 | exact block_alloc G1.out) ?_)
    | (go_at_call 17; refine (simple_any t _ _ R0.out HF.out).mono ?_; rintro e w1 ⟨rfl, hb⟩; have B1 : Hid (Below w.heap.size w w1) := hid (N2.out.2.2.trans (hb.mono (by simp; omega))); have G1 := hid ((hb.block w.heap.size (by simp; omega)).trans N2.out.1); have N1 := hid ((hb.block (w.heap.size + 1) (by simp)).trans N2.out.2.1); have R1 := hid (R0.out.kept hb); have L1 : Hid (w.heap.size + 2 ≤ w1.heap.size) := hid (by have := hb.size; simpa using this); clear hb)
    | (go_at_call 20; refine (plain_any _ t _ _ (Nat.le_refl _) (R1.out.kept ((Below.refl _ _).alloc (Nat.le_refl _) _)) HF.out).mono ?_; rintro e w3 ⟨x, rfl, hx, hb⟩; have P3 := hid hx; have OP3 : Hid (Opts w3 w1.heap.size on oe) := hid (opts_after hb rfl rfl); have B3 : Hid (Below w.heap.size w w3) := hid ((B1.out.alloc B1.out.size _).trans (hb.mono (by have := L1.out; simp; omega))); have N3 := hid ((hb.block (w.heap.size + 1) (by have := L1.out; simp; omega)).trans (block_alloc N1.out)); have Z3 := hid hb.size; clear hx hb)
    | (go_at_call 19; refine (alter_top P3.out HF.out OP3.out (.inl (by simp)) (Nat.le_refl _)).mono ?_; rintro e w4 ⟨rfl, t1, ht, hp, ho⟩; have T4 := hid ht; have P4 := hid hp.weak; have B4 : Hid (Below w.heap.size w w4) := hid (B3.out.trans ((Outside.below ho (by have := Z3.out; simpa using this)).mono (by have := L1.out; simp; omega))); have G4 := hid ((ho.block _ (by have := Z3.out; have := L1.out; simp at *; omega) (.inl (by have := L1.out; simp; omega))).trans N3.out); clear ht hp ho)
    | (go_at_call 18; refine (value_any _ t1 _ _ (Nat.le_refl _) P4.out (T4.out.fine HF.out) (T4.out.bnd HF.out HB.out)).mono ?_; rintro e w5 ⟨y5, t2, rfl, hr, hs, hf, hb⟩; obtain ⟨y0, y1, y2, y3, y4, y5', rfl⟩ := (only_rep hr).six; have R5 := hid (only_rep hr); have S5 := hid hs; have F5 := hid hf; have B5 : Hid (Below w.heap.size w w5) := hid (B4.out.trans (hb.mono B4.out.size)); have G5 := hid ((hb.block _ (block_lt G4.out)).trans G4.out); have C5 := hid (only_rep hr).cells.2; have K5 := hid (show ∀ wf : World, (∀ k, k ≠ w.heap.size + 1 → wf.heap[k]? = w5.heap[k]?) → Rep (wf.only (above w4.heap.size)) (.agg #[y0, y1, y2, y3, y4, y5']) t2 from fun wf h => only_keep hr fun k h1 h2 => ⟨h1, h k (by have h3 : w4.heap.size ≤ k := (by simpa [above] using h1); have := block_lt G4.out; omega)⟩); clear hr hs hf hb)
    | (refine wpList_store26at rfl rfl (.tmp 8) (.tmp 24) rfl (w.heap.size + 1) #[y0, y1, y2, y3, y4, y5'] rfl rfl rfl C5.out _ rfl G5.out ?_; intro wf hgf hof hbf hzf; have GF := hid hgf; have OF := hid hof; have BF : Hid (Below w.heap.size w wf) := hid (B5.out.trans (hbf.mono (by omega))); clear hgf hof hbf hzf))
  have hc := fun i => cell_of_row _ (w.heap.size + 1) i _ 26 (0, 0) GF.out
  have c0 := (hc 0).trans rfl
  have c1 := (hc 1).trans rfl
  have c2 := (hc 2).trans rfl
  have c3 := (hc 3).trans rfl
  have c4 := (hc 4).trans rfl
  have c5 := (hc 5).trans rfl
  clear hc
  refine bodyPost_ret (v := .tuple #[.agg #[y0, y1, y2, y3, y4, y5'], .bool false]) (by simp [results, Tryz.results7, go_sem, c0, c1, c2, c3, c4, c5]) rfl ⟨_, t1, t2, rfl, T4.out, S5.out, only_rep (K5.out wf OF.out), F5.out, BF.out⟩

set_option maxRecDepth 100000 in
set_option maxHeartbeats 2000000 in
theorem tidy_copy (on oe : Bool) (t : V) (v : Value) (w : World) (hrep : Rep w v t) (hf : Fine t) : Calls Tryz.prog 7 #[v, .bool on, .bool oe, .bool false] w (TidyPost on oe t w) := by
  obtain ⟨x0, x1, x2, x3, x4, x5, rfl⟩ := hrep.six
  have HB := hid (rep_bnd hrep)
  have HF := hid hf
  have N2 := hid (two_new w (.cells #[x0, x1, x2, x3, x4, x5] 26) (.cells zeroRow 26))
  have R0 := hid (hrep.kept N2.out.2.2)
  unfold zeroRow at N2 R0
  clear hrep hf
  go_enter Tryz.func7, Tryz.ntmps7
  go_wp2_with (first
    | (refine wpList_loadBox rfl (.tmp 4) rfl w.heap.size rfl #[x0, x1, x2, x3, x4, x5] rfl (by first | exact N2.out.1 | exact block_alloc G1.out) ?_)
    | (go_at_call 17; refine (simple_any t _ _ R0.out HF.out).mono ?_; rintro e w1 ⟨rfl, hb⟩; have B1 : Hid (Below w.heap.size w w1) := hid (N2.out.2.2.trans (hb.mono (by simp; omega))); have G1 := hid ((hb.block w.heap.size (by simp; omega)).trans N2.out.1); have N1 := hid ((hb.block (w.heap.size + 1) (by simp)).trans N2.out.2.1); have R1 := hid (R0.out.kept hb); have L1 : Hid (w.heap.size + 2 ≤ w1.heap.size) := hid (by have := hb.size; simpa using this); clear hb)
    | (go_at_call 20; refine (plain_any _ t _ _ (Nat.le_refl _) (R1.out.kept ((Below.refl _ _).alloc (Nat.le_refl _) _)) HF.out).mono ?_; rintro e w3 ⟨x, rfl, hx, hb⟩; have P3 := hid hx; have OP3 : Hid (Opts w3 w1.heap.size on oe) := hid (opts_after hb rfl rfl); have B3 : Hid (Below w.heap.size w w3) := hid ((B1.out.alloc B1.out.size _).trans (hb.mono (by have := L1.out; simp; omega))); have N3 := hid ((hb.block (w.heap.size + 1) (by have := L1.out; simp; omega)).trans (block_alloc N1.out)); have Z3 := hid hb.size; clear hx hb)
    | (go_at_call 21; refine (decompose_top P3.out.weak HF.out OP3.out).mono ?_; rintro e w4 ⟨y, t1, rfl, ht, hp, hb⟩; have T4 := hid ht; have P4 := hid hp; have B4 : Hid (Below w.heap.size w w4) := hid (B3.out.trans (hb.mono B3.out.size)); have G4 := hid ((hb.block _ (by have := Z3.out; have := L1.out; simp at *; omega)).trans N3.out); clear ht hp hb)
    | (go_at_call 18; refine (value_any _ t1 _ _ (Nat.le_refl _) P4.out (T4.out.fine HF.out) (T4.out.bnd HF.out HB.out)).mono ?_; rintro e w5 ⟨y5, t2, rfl, hr, hs, hf, hb⟩; obtain ⟨y0, y1, y2, y3, y4, y5', rfl⟩ := (only_rep hr).six; have R5 := hid (only_rep hr); have S5 := hid hs; have F5 := hid hf; have B5 : Hid (Below w.heap.size w w5) := hid (B4.out.trans (hb.mono B4.out.size)); have G5 := hid ((hb.block _ (block_lt G4.out)).trans G4.out); have C5 := hid (only_rep hr).cells.2; have K5 := hid (show ∀ wf : World, (∀ k, k ≠ w.heap.size + 1 → wf.heap[k]? = w5.heap[k]?) → Rep (wf.only (above w4.heap.size)) (.agg #[y0, y1, y2, y3, y4, y5']) t2 from fun wf h => only_keep hr fun k h1 h2 => ⟨h1, h k (by have h3 : w4.heap.size ≤ k := (by simpa [above] using h1); have := block_lt G4.out; omega)⟩); clear hr hs hf hb)
    | (refine wpList_store26at rfl rfl (.tmp 8) (.tmp 29) rfl (w.heap.size + 1) #[y0, y1, y2, y3, y4, y5'] rfl rfl rfl C5.out _ rfl G5.out ?_; intro wf hgf hof hbf hzf; have GF := hid hgf; have OF := hid hof; have BF : Hid (Below w.heap.size w wf) := hid (B5.out.trans (hbf.mono (by omega))); clear hgf hof hbf hzf))
  have hc := fun i => cell_of_row _ (w.heap.size + 1) i _ 26 (0, 0) GF.out
  have c0 := (hc 0).trans rfl
  have c1 := (hc 1).trans rfl
  have c2 := (hc 2).trans rfl
  have c3 := (hc 3).trans rfl
  have c4 := (hc 4).trans rfl
  have c5 := (hc 5).trans rfl
  clear hc
  refine bodyPost_ret (v := .tuple #[.agg #[y0, y1, y2, y3, y4, y5'], .bool false]) (by simp [results, Tryz.results7, go_sem, c0, c1, c2, c3, c4, c5]) rfl ⟨_, t1, t2, rfl, T4.out, S5.out, only_rep (K5.out wf OF.out), F5.out, BF.out⟩

theorem tidy_any (on oe ip : Bool) (t : V) (v : Value) (w : World) (hrep : Rep w v t) (hf : Fine t) : Calls Tryz.prog 7 #[v, .bool on, .bool oe, .bool ip] w (TidyPost on oe t w) := by
  cases ip
  · exact tidy_copy on oe t v w hrep hf
  · exact tidy_place on oe t v w hrep hf
end Go.Proofs.YtclnpjelgdoloaaGreat
