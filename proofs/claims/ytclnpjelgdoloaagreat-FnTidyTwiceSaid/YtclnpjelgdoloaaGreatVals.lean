/- impl.value: what it makes of plain data; at null, a bool, a number, a text. -/
import Derived.Test.YtclnpjelgdoloaaGreatWays
namespace Go.Proofs.YtclnpjelgdoloaaGreat
open Go.RowKit Go.Maps
set_option linter.unusedVariables false
set_option linter.unusedSimpArgs false

/-- Numbers, texts and keys are of the size that a value can have. -/
inductive Bnd : V → Prop
  | mk (t : V) (hn : t.k = 2 ∨ t.k = 3 → isI64 t.n) (hs : t.k = 5 → t.s.size ≤ 140737488351232) (hk : ∀ k ∈ t.keys, k.size ≤ 140737488351232) (hr : ∀ x ∈ t.l, Bnd x) : Bnd t

theorem Bnd.num {t : V} (h : Bnd t) : t.k = 2 ∨ t.k = 3 → isI64 t.n := by cases h; assumption
theorem Bnd.text {t : V} (h : Bnd t) : t.k = 5 → t.s.size ≤ 140737488351232 := by cases h; assumption
theorem Bnd.key {t : V} (h : Bnd t) : ∀ k ∈ t.keys, k.size ≤ 140737488351232 := by cases h; assumption
theorem Bnd.mem {t : V} (h : Bnd t) : ∀ x ∈ t.l, Bnd x := by cases h; assumption

theorem rep_bnd {w : World} {v : Value} {t : V} (h : Rep w v t) : Bnd t := by
  induction h with
  | mk k n f s l keys la ka lc kc cs hk hn hs hl hlc hkl hkc hla hr hka ih =>
    refine .mk _ (fun _ => hn) (fun _ => hs) (fun x hx => ?_) (fun x hx => ?_)
    · obtain ⟨j, hj, rfl⟩ := List.getElem_of_mem (show x ∈ keys from hx)
      exact (hka j hj).1
    · obtain ⟨j, hj, rfl⟩ := List.getElem_of_mem (show x ∈ l from hx)
      exact ih j hj

theorem Tid.bnd {on oe : Bool} {v t : V} (h : Tid on oe v t) : Fine v → Bnd v → Bnd t := by
  induction h with
  | flat t h => exact fun _ h => h
  | arr t t' h h' hk hl hr ih =>
    intro hf hb
    refine .mk _ (fun h => by omega) (fun h => by omega) (fun k hk' => by rw [hk] at hk'; simp at hk') ?_
    intro x hx
    obtain ⟨j, hj, rfl⟩ := List.getElem_of_mem hx
    exact ih j (by omega) hj (fine_elem hf j (by omega)) (hb.mem _ (List.getElem_mem (by omega)))
  | obj t t' h h' hkl hnd m hm hk hl ih =>
    intro hf hb
    refine .mk _ (fun h => by omega) (fun h => by omega) (fun k hk' => hb.key k ((hk k).1 hk').1) ?_
    intro x hx
    obtain ⟨j, hj, rfl⟩ := List.getElem_of_mem hx
    have hmem := List.getElem_mem (show j < t'.keys.length by omega)
    have e1 := look_at hkl hnd j (by omega)
    rw [← e1, hl _ hmem]
    have hin := ((hk _).1 hmem).1
    have hlk := lookIn_mem t.keys t.l _ (hf.obj h).1 hin
    exact ih _ hin (hf.mem _ hlk) (hb.mem _ hlk)

/-- What impl.value gives: a value that is the same tree. -/
def ValPost (t : V) (w : World) (e : Ending) (w' : World) : Prop := ∃ v t', e = .returned v ∧ Rep w' v t' ∧ Same t t' ∧ Fine t' ∧ Below w.heap.size w w'

theorem rep_flat (w : World) (k n : Int) (f : Nat) (s : ByteArray) (hk : isI64 k) (hn : isI64 n) (hs : s.size ≤ 140737488351232) : Rep w (.agg #[.int .i64 k, .int .i64 n, .float .f64 f, .string s, .slice none 0 0, .slice none 0 0]) (.mk k n f s [] []) :=
  Rep.mk k n f s [] [] none none 0 0 (fun _ _ => undef) hk hn hs (Nat.le_refl _) (by simp) (Nat.le_refl _) (by simp) (fun j hj => absurd hj (by simp)) (fun j hj => absurd hj (by simp)) (fun j hj => absurd hj (by simp))

theorem fine_flat (k n : Int) (f : Nat) (s : ByteArray) (hk : k = 1 ∨ k = 2 ∨ k = 3 ∨ k = 4 ∨ k = 5) (hb : k = 2 → n = 0 ∨ n = 1) (hf : k = 4 → nanB f = false ∧ infB f = false) : Fine (.mk k n f s [] []) := by
  refine .mk _ (by show k = 1 ∨ k = 2 ∨ k = 3 ∨ k = 4 ∨ k = 5 ∨ k = 7 ∨ k = 8; omega) hb hf ⟨by simp [V.l], by simp [V.keys]⟩ (fun _ => rfl) (fun h => ?_) (fun x hx => by simp [V.l] at hx)
  have : k = 8 := h
  omega

set_option maxRecDepth 100000 in
theorem val_null (w : World) : Calls Tryz.prog 18 #[.nilIface] w (fun e w' => e = .returned (.agg #[.int .i64 1, .int .i64 0, .float .f64 0, .string ByteArray.empty, .slice none 0 0, .slice none 0 0]) ∧ Below w.heap.size w w') := by
  go_enter Tryz.func18, Tryz.ntmps18
  go_wp2_with (refine wpList_store26 rfl rfl (.tmp 2) (.tmp 23) rfl w.heap.size #[.int .i64 1, .int .i64 0, .float .f64 0, .string ByteArray.empty, .slice none 0 0, .slice none 0 0] rfl rfl rfl (by simp [Value.oneCell']) _ rfl (heap_alloc_new w _) ?_; intro w2 hg2 hb2 hz2; have G2 := hid hg2; have B2 : Hid (Below w.heap.size w w2) := hid (((Below.refl _ w).alloc (Nat.le_refl _) _).trans hb2); clear hg2 hb2 hz2)
  have hc := fun i => cell_of_row _ w.heap.size i _ 26 (0, 0) G2.out
  have c0 := (hc 0).trans rfl
  have c1 := (hc 1).trans rfl
  have c2 := (hc 2).trans rfl
  have c3 := (hc 3).trans rfl
  have c4 := (hc 4).trans rfl
  have c5 := (hc 5).trans rfl
  clear hc
  refine bodyPost_ret (v := .agg #[.int .i64 1, .int .i64 0, .float .f64 0, .string ByteArray.empty, .slice none 0 0, .slice none 0 0]) (by simp [results, Tryz.results18, go_sem, c0, c1, c2, c3, c4, c5]) rfl ⟨rfl, B2.out⟩

set_option maxRecDepth 100000 in
theorem val_int (n : Int) (w : World) : Calls Tryz.prog 18 #[.iface 2 (.int .i64 n)] w (fun e w' => e = .returned (.agg #[.int .i64 3, .int .i64 n, .float .f64 0, .string ByteArray.empty, .slice none 0 0, .slice none 0 0]) ∧ Below w.heap.size w w') := by
  have t4 := tai4 (.int .i64 n); unfold Ta at t4
  have t50 := tai50 (.int .i64 n); unfold Ta at t50
  have t3 := tai3 (.int .i64 n); unfold Ta at t3
  have t2 := tai2 (.int .i64 n); unfold Ta at t2
  go_enter Tryz.func18, Tryz.ntmps18
  go_wp2_with (refine wpList_store26 rfl rfl (.tmp 2) (.tmp 43) rfl w.heap.size #[.int .i64 3, .int .i64 n, .float .f64 0, .string ByteArray.empty, .slice none 0 0, .slice none 0 0] rfl rfl rfl (by simp [Value.oneCell']) _ rfl (heap_alloc_new w _) ?_; intro w2 hg2 hb2 hz2; have G2 := hid hg2; have B2 : Hid (Below w.heap.size w w2) := hid (((Below.refl _ w).alloc (Nat.le_refl _) _).trans hb2); clear hg2 hb2 hz2)
  have hc := fun i => cell_of_row _ w.heap.size i _ 26 (0, 0) G2.out
  have c0 := (hc 0).trans rfl
  have c1 := (hc 1).trans rfl
  have c2 := (hc 2).trans rfl
  have c3 := (hc 3).trans rfl
  have c4 := (hc 4).trans rfl
  have c5 := (hc 5).trans rfl
  clear hc
  refine bodyPost_ret (v := .agg #[.int .i64 3, .int .i64 n, .float .f64 0, .string ByteArray.empty, .slice none 0 0, .slice none 0 0]) (by simp [results, Tryz.results18, go_sem, c0, c1, c2, c3, c4, c5]) rfl ⟨rfl, B2.out⟩

set_option maxRecDepth 100000 in
theorem val_flo (f : Nat) (w : World) : Calls Tryz.prog 18 #[.iface 22 (.float .f64 f)] w (fun e w' => e = .returned (.agg #[.int .i64 4, .int .i64 0, .float .f64 f, .string ByteArray.empty, .slice none 0 0, .slice none 0 0]) ∧ Below w.heap.size w w') := by
  have t4 := taf4 (.float .f64 f); unfold Ta at t4
  have t50 := taf50 (.float .f64 f); unfold Ta at t50
  have t3 := taf3 (.float .f64 f); unfold Ta at t3
  have t2 := taf2 (.float .f64 f); unfold Ta at t2
  have t51 := taf51 (.float .f64 f); unfold Ta at t51
  have t22 := taf22 (.float .f64 f); unfold Ta at t22
  go_enter Tryz.func18, Tryz.ntmps18
  go_wp2_with (refine wpList_store26 rfl rfl (.tmp 2) (.tmp 53) rfl w.heap.size #[.int .i64 4, .int .i64 0, .float .f64 f, .string ByteArray.empty, .slice none 0 0, .slice none 0 0] rfl rfl rfl (by simp [Value.oneCell']) _ rfl (heap_alloc_new w _) ?_; intro w2 hg2 hb2 hz2; have G2 := hid hg2; have B2 : Hid (Below w.heap.size w w2) := hid (((Below.refl _ w).alloc (Nat.le_refl _) _).trans hb2); clear hg2 hb2 hz2)
  have hc := fun i => cell_of_row _ w.heap.size i _ 26 (0, 0) G2.out
  have c0 := (hc 0).trans rfl
  have c1 := (hc 1).trans rfl
  have c2 := (hc 2).trans rfl
  have c3 := (hc 3).trans rfl
  have c4 := (hc 4).trans rfl
  have c5 := (hc 5).trans rfl
  clear hc
  refine bodyPost_ret (v := .agg #[.int .i64 4, .int .i64 0, .float .f64 f, .string ByteArray.empty, .slice none 0 0, .slice none 0 0]) (by simp [results, Tryz.results18, go_sem, c0, c1, c2, c3, c4, c5]) rfl ⟨rfl, B2.out⟩

set_option maxRecDepth 100000 in
theorem val_str (s : ByteArray) (w : World) : Calls Tryz.prog 18 #[.iface 9 (.string s)] w (fun e w' => e = .returned (.agg #[.int .i64 5, .int .i64 0, .float .f64 0, .string s, .slice none 0 0, .slice none 0 0]) ∧ Below w.heap.size w w') := by
  have t4 := tas4 (.string s); unfold Ta at t4
  have t50 := tas50 (.string s); unfold Ta at t50
  have t3 := tas3 (.string s); unfold Ta at t3
  have t2 := tas2 (.string s); unfold Ta at t2
  have t51 := tas51 (.string s); unfold Ta at t51
  have t22 := tas22 (.string s); unfold Ta at t22
  have t52 := tas52 (.string s); unfold Ta at t52
  have t9 := tas9 (.string s); unfold Ta at t9
  go_enter Tryz.func18, Tryz.ntmps18
  go_wp2_with (refine wpList_store26 rfl rfl (.tmp 2) (.tmp 63) rfl w.heap.size #[.int .i64 5, .int .i64 0, .float .f64 0, .string s, .slice none 0 0, .slice none 0 0] rfl rfl rfl (by simp [Value.oneCell']) _ rfl (heap_alloc_new w _) ?_; intro w2 hg2 hb2 hz2; have G2 := hid hg2; have B2 : Hid (Below w.heap.size w w2) := hid (((Below.refl _ w).alloc (Nat.le_refl _) _).trans hb2); clear hg2 hb2 hz2)
  have hc := fun i => cell_of_row _ w.heap.size i _ 26 (0, 0) G2.out
  have c0 := (hc 0).trans rfl
  have c1 := (hc 1).trans rfl
  have c2 := (hc 2).trans rfl
  have c3 := (hc 3).trans rfl
  have c4 := (hc 4).trans rfl
  have c5 := (hc 5).trans rfl
  clear hc
  refine bodyPost_ret (v := .agg #[.int .i64 5, .int .i64 0, .float .f64 0, .string s, .slice none 0 0, .slice none 0 0]) (by simp [results, Tryz.results18, go_sem, c0, c1, c2, c3, c4, c5]) rfl ⟨rfl, B2.out⟩

set_option maxRecDepth 100000 in
theorem truth_true (w : World) : Calls Tryz.prog 30 #[.bool true] w (fun e w' => e = .returned (.agg #[.int .i64 2, .int .i64 1, .float .f64 0, .string ByteArray.empty, .slice none 0 0, .slice none 0 0]) ∧ Below w.heap.size w w') := by
  go_enter Tryz.func30, Tryz.ntmps30
  go_wp2_with (refine wpList_store26 rfl rfl (.tmp 2) (.tmp 4) rfl w.heap.size #[.int .i64 2, .int .i64 1, .float .f64 0, .string ByteArray.empty, .slice none 0 0, .slice none 0 0] rfl rfl rfl (by simp [Value.oneCell']) _ rfl (heap_alloc_new w _) ?_; intro w2 hg2 hb2 hz2; have G2 := hid hg2; have B2 : Hid (Below w.heap.size w w2) := hid (((Below.refl _ w).alloc (Nat.le_refl _) _).trans hb2); clear hg2 hb2 hz2)
  have hc := fun i => cell_of_row _ w.heap.size i _ 26 (0, 0) G2.out
  have c0 := (hc 0).trans rfl
  have c1 := (hc 1).trans rfl
  have c2 := (hc 2).trans rfl
  have c3 := (hc 3).trans rfl
  have c4 := (hc 4).trans rfl
  have c5 := (hc 5).trans rfl
  clear hc
  refine bodyPost_ret (v := .agg #[.int .i64 2, .int .i64 1, .float .f64 0, .string ByteArray.empty, .slice none 0 0, .slice none 0 0]) (by simp [results, Tryz.results30, go_sem, c0, c1, c2, c3, c4, c5]) rfl ⟨rfl, B2.out⟩

set_option maxRecDepth 100000 in
theorem val_true (w : World) : Calls Tryz.prog 18 #[.iface 4 (.bool true)] w (fun e w' => e = .returned (.agg #[.int .i64 2, .int .i64 1, .float .f64 0, .string ByteArray.empty, .slice none 0 0, .slice none 0 0]) ∧ Below w.heap.size w w') := by
  have t4 := tab4 (.bool true); unfold Ta at t4
  have N := hid (heap_alloc_new w (.cells #[.int .i64 0, .int .i64 0, .float .f64 0, .string ByteArray.empty, .slice none 0 0, .slice none 0 0] 26))
  have BA : Hid (Below w.heap.size w (w.alloc (.cells #[.int .i64 0, .int .i64 0, .float .f64 0, .string ByteArray.empty, .slice none 0 0, .slice none 0 0] 26))) := hid ((Below.refl _ w).alloc (Nat.le_refl _) _)
  go_enter Tryz.func18, Tryz.ntmps18
  go_wp2_with (first
    | (go_at_call 30; refine (truth_true _).mono ?_; rintro e w1 ⟨rfl, hb⟩; have B1 := hid hb; have N1 := hid ((hb.block _ (by simp)).trans N.out); clear hb)
    | (refine wpList_store26 rfl rfl (.tmp 2) (.tmp 28) rfl w.heap.size #[.int .i64 2, .int .i64 1, .float .f64 0, .string ByteArray.empty, .slice none 0 0, .slice none 0 0] rfl rfl rfl (by simp [Value.oneCell']) _ rfl N1.out ?_; intro w2 hg2 hb2 hz2; have G2 := hid hg2; have B2 : Hid (Below w.heap.size w w2) := hid ((BA.out.trans (B1.out.mono (by simp))).trans hb2); clear hg2 hb2 hz2))
  have hc := fun i => cell_of_row _ w.heap.size i _ 26 (0, 0) G2.out
  have c0 := (hc 0).trans rfl
  have c1 := (hc 1).trans rfl
  have c2 := (hc 2).trans rfl
  have c3 := (hc 3).trans rfl
  have c4 := (hc 4).trans rfl
  have c5 := (hc 5).trans rfl
  clear hc
  refine bodyPost_ret (v := .agg #[.int .i64 2, .int .i64 1, .float .f64 0, .string ByteArray.empty, .slice none 0 0, .slice none 0 0]) (by simp [results, Tryz.results18, go_sem, c0, c1, c2, c3, c4, c5]) rfl ⟨rfl, B2.out⟩

set_option maxRecDepth 100000 in
theorem truth_false (w : World) : Calls Tryz.prog 30 #[.bool false] w (fun e w' => e = .returned (.agg #[.int .i64 2, .int .i64 0, .float .f64 0, .string ByteArray.empty, .slice none 0 0, .slice none 0 0]) ∧ Below w.heap.size w w') := by
  go_enter Tryz.func30, Tryz.ntmps30
  go_wp2_with (refine wpList_store26 rfl rfl (.tmp 2) (.tmp 5) rfl w.heap.size #[.int .i64 2, .int .i64 0, .float .f64 0, .string ByteArray.empty, .slice none 0 0, .slice none 0 0] rfl rfl rfl (by simp [Value.oneCell']) _ rfl (heap_alloc_new w _) ?_; intro w2 hg2 hb2 hz2; have G2 := hid hg2; have B2 : Hid (Below w.heap.size w w2) := hid (((Below.refl _ w).alloc (Nat.le_refl _) _).trans hb2); clear hg2 hb2 hz2)
  have hc := fun i => cell_of_row _ w.heap.size i _ 26 (0, 0) G2.out
  have c0 := (hc 0).trans rfl
  have c1 := (hc 1).trans rfl
  have c2 := (hc 2).trans rfl
  have c3 := (hc 3).trans rfl
  have c4 := (hc 4).trans rfl
  have c5 := (hc 5).trans rfl
  clear hc
  refine bodyPost_ret (v := .agg #[.int .i64 2, .int .i64 0, .float .f64 0, .string ByteArray.empty, .slice none 0 0, .slice none 0 0]) (by simp [results, Tryz.results30, go_sem, c0, c1, c2, c3, c4, c5]) rfl ⟨rfl, B2.out⟩

set_option maxRecDepth 100000 in
theorem val_false (w : World) : Calls Tryz.prog 18 #[.iface 4 (.bool false)] w (fun e w' => e = .returned (.agg #[.int .i64 2, .int .i64 0, .float .f64 0, .string ByteArray.empty, .slice none 0 0, .slice none 0 0]) ∧ Below w.heap.size w w') := by
  have t4 := tab4 (.bool false); unfold Ta at t4
  have N := hid (heap_alloc_new w (.cells #[.int .i64 0, .int .i64 0, .float .f64 0, .string ByteArray.empty, .slice none 0 0, .slice none 0 0] 26))
  have BA : Hid (Below w.heap.size w (w.alloc (.cells #[.int .i64 0, .int .i64 0, .float .f64 0, .string ByteArray.empty, .slice none 0 0, .slice none 0 0] 26))) := hid ((Below.refl _ w).alloc (Nat.le_refl _) _)
  go_enter Tryz.func18, Tryz.ntmps18
  go_wp2_with (first
    | (go_at_call 30; refine (truth_false _).mono ?_; rintro e w1 ⟨rfl, hb⟩; have B1 := hid hb; have N1 := hid ((hb.block _ (by simp)).trans N.out); clear hb)
    | (refine wpList_store26 rfl rfl (.tmp 2) (.tmp 28) rfl w.heap.size #[.int .i64 2, .int .i64 0, .float .f64 0, .string ByteArray.empty, .slice none 0 0, .slice none 0 0] rfl rfl rfl (by simp [Value.oneCell']) _ rfl N1.out ?_; intro w2 hg2 hb2 hz2; have G2 := hid hg2; have B2 : Hid (Below w.heap.size w w2) := hid ((BA.out.trans (B1.out.mono (by simp))).trans hb2); clear hg2 hb2 hz2))
  have hc := fun i => cell_of_row _ w.heap.size i _ 26 (0, 0) G2.out
  have c0 := (hc 0).trans rfl
  have c1 := (hc 1).trans rfl
  have c2 := (hc 2).trans rfl
  have c3 := (hc 3).trans rfl
  have c4 := (hc 4).trans rfl
  have c5 := (hc 5).trans rfl
  clear hc
  refine bodyPost_ret (v := .agg #[.int .i64 2, .int .i64 0, .float .f64 0, .string ByteArray.empty, .slice none 0 0, .slice none 0 0]) (by simp [results, Tryz.results18, go_sem, c0, c1, c2, c3, c4, c5]) rfl ⟨rfl, B2.out⟩

end Go.Proofs.YtclnpjelgdoloaaGreat
