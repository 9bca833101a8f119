/- impl.value: plain data as a value. -/
import Derived.Test.YtclnpjelgdoloaaGreatObj
namespace Go.Proofs.YtclnpjelgdoloaaGreat
open Go.RowKit Go.Maps Go.Sort
set_option linter.unusedVariables false
set_option linter.unusedSimpArgs false

set_option maxRecDepth 100000 in
set_option maxHeartbeats 1000000 in
theorem val_arr (t : V) (g0 cap : Nat) (xs : Nat → Value) (w : World) (hk : t.k = 7) (hl : t.l.length ≤ 300) (hx : ∀ j, j < t.l.length → w.cell? ⟨g0, j, none⟩ = some (xs j))
    (ih : ∀ j (hj : j < t.l.length) (w' : World), Below w.heap.size w w' → Calls Tryz.prog 18 #[xs j] w' (ValAt t.l[j] w')) :
    Calls Tryz.prog 18 #[.iface 56 (.slice (some ⟨g0, 0, none⟩) t.l.length cap)] w (ValAt t w) := by
  have N0 := hid (heap_alloc_new w (.cells zeroRow 26))
  have BA : Hid (Below w.heap.size w (w.alloc (.cells zeroRow 26))) := hid ((Below.refl _ w).alloc (Nat.le_refl _) _)
  have H := hid (items_any t g0 cap xs (w.alloc (.cells zeroRow 26)) hk hl (fun j hj => (BA.out.cell (p := ⟨g0, j, none⟩) (World.block_lt_of_cell? w _ (hx j hj))).trans (hx j hj)) (fun j hj w' hb => ih j hj w' (BA.out.trans (hb.mono (by simp)))))
  unfold zeroRow at N0 BA H
  clear hk ih hx
  have t4 := taa4 (.slice (some ⟨g0, 0, none⟩) t.l.length cap); unfold Ta at t4
  have t50 := taa50 (.slice (some ⟨g0, 0, none⟩) t.l.length cap); unfold Ta at t50
  have t3 := taa3 (.slice (some ⟨g0, 0, none⟩) t.l.length cap); unfold Ta at t3
  have t2 := taa2 (.slice (some ⟨g0, 0, none⟩) t.l.length cap); unfold Ta at t2
  have t51 := taa51 (.slice (some ⟨g0, 0, none⟩) t.l.length cap); unfold Ta at t51
  have t22 := taa22 (.slice (some ⟨g0, 0, none⟩) t.l.length cap); unfold Ta at t22
  have t52 := taa52 (.slice (some ⟨g0, 0, none⟩) t.l.length cap); unfold Ta at t52
  have t9 := taa9 (.slice (some ⟨g0, 0, none⟩) t.l.length cap); unfold Ta at t9
  have t53 := taa53 (.slice (some ⟨g0, 0, none⟩) t.l.length cap); unfold Ta at t53
  have t54 := taa54 (.slice (some ⟨g0, 0, none⟩) t.l.length cap); unfold Ta at t54
  have t55 := taa55 (.slice (some ⟨g0, 0, none⟩) t.l.length cap); unfold Ta at t55
  have t56 := taa56 (.slice (some ⟨g0, 0, none⟩) t.l.length cap); unfold Ta at t56
  go_enter Tryz.func18, Tryz.ntmps18
  go_wp2_with (first
    | (go_at_call 31; refine H.out.mono ?_; rintro e w1 ⟨y, t', rfl, hr, hs, hf, hb⟩; obtain ⟨x0, x1, x2, x3, x4, x5, rfl⟩ := (only_rep hr).six; have R1 := hid hr; have S1 := hid hs; have F1 := hid hf; have B1 := hid hb; have N1 := hid ((hb.block _ (by simp)).trans N0.out); have C1 := hid (only_rep hr).cells.2; clear hr hs hf hb)
    | (refine wpList_store26at rfl rfl (.tmp 2) (.tmp 83) rfl w.heap.size #[x0, x1, x2, x3, x4, x5] rfl rfl rfl C1.out _ rfl N1.out ?_; intro w2 hg2 ho2 hb2 hz2; have G2 := hid hg2; have O2 := hid ho2; have B2 : Hid (Below w.heap.size w w2) := hid ((BA.out.trans (B1.out.mono (by simp))).trans hb2); clear hg2 ho2 hb2 hz2))
  have hc := fun i => cell_of_row _ w.heap.size i _ 26 (0, 0) G2.out
  have c0 := (hc 0).trans rfl
  have c1 := (hc 1).trans rfl
  have c2 := (hc 2).trans rfl
  have c3 := (hc 3).trans rfl
  have c4 := (hc 4).trans rfl
  have c5 := (hc 5).trans rfl
  clear hc
  refine bodyPost_ret (v := .agg #[x0, x1, x2, x3, x4, x5]) (by simp [results, Tryz.results18, go_sem, c0, c1, c2, c3, c4, c5]) rfl ⟨_, t', rfl, only_keep R1.out (fun k h1 h2 => ?_), S1.out, F1.out, B2.out⟩
  have h3 : w.heap.size + 1 ≤ k := by simpa [above] using h1
  exact ⟨by simp [above]; omega, O2.out k (by omega)⟩

set_option maxRecDepth 100000 in
set_option maxHeartbeats 1000000 in
theorem val_obj (t : V) (b nD : Nat) (D : DataW Value) (xs : Nat → Value) (w : World) (hk : t.k = 8) (h8 : t.keys.length = t.l.length ∧ t.keys.Nodup) (hlen : t.keys.length ≤ 300) (hks : ∀ k ∈ t.keys, k.size ≤ 140737488351232) (hm : w.ownsMap Tryz.prog 9 heldElem b nD D) (hD : MapIs D t.keys xs)
    (ih : ∀ k, k ∈ t.keys → ∀ x, D.atKey (keyLit k) (.held .nilIface) = .held x → ∀ (w' : World), Below w.heap.size w w' → Calls Tryz.prog 18 #[x] w' (ValAt (t.look k) w')) :
    Calls Tryz.prog 18 #[.iface 66 (.map (some b))] w (ValAt t w) := by
  have BL : Hid (b < w.heap.size) := hid hm.lt
  have N2 := hid (two_new w (.cells zeroRow 26) (.cells #[.map (some b)] 66))
  have M2 : Hid (((w.alloc (.cells zeroRow 26)).alloc (.cells #[.map (some b)] 66)).ownsMap Tryz.prog 9 heldElem b nD D) := hid (ownsMap_below hm N2.out.2.2)
  have HKO := hid (keysOf_any t b nD D xs _ M2.out hD hlen)
  have ARGS := hid (And.intro hk (And.intro h8 (And.intro hlen (And.intro hks hD))))
  have IH := hid ih
  have E2 : Hid (((w.alloc (.cells zeroRow 26)).alloc (.cells #[.map (some b)] 66)).heap.size = w.heap.size + 2) := hid (by simp)
  unfold zeroRow at N2 M2 HKO E2
  clear hk h8 hlen hks hm hD ih
  have t4 := tao4 (.map (some b)); unfold Ta at t4
  have t50 := tao50 (.map (some b)); unfold Ta at t50
  have t3 := tao3 (.map (some b)); unfold Ta at t3
  have t2 := tao2 (.map (some b)); unfold Ta at t2
  have t51 := tao51 (.map (some b)); unfold Ta at t51
  have t22 := tao22 (.map (some b)); unfold Ta at t22
  have t52 := tao52 (.map (some b)); unfold Ta at t52
  have t9 := tao9 (.map (some b)); unfold Ta at t9
  have t53 := tao53 (.map (some b)); unfold Ta at t53
  have t54 := tao54 (.map (some b)); unfold Ta at t54
  have t55 := tao55 (.map (some b)); unfold Ta at t55
  have t56 := tao56 (.map (some b)); unfold Ta at t56
  have t59 := tao59 (.map (some b)); unfold Ta at t59
  have t63 := tao63 (.map (some b)); unfold Ta at t63
  have t66 := tao66 (.map (some b)); unfold Ta at t66
  go_enter Tryz.func18, Tryz.ntmps18
  go_wp2_with (first
    | (go_at_call 34; refine HKO.out.mono ?_; rintro e w3 ⟨vk, ks, rfl, hown, hnd, hmem, hb⟩; obtain ⟨ad, cap, rfl⟩ := row_form hown; have B3 := hid hb; have OJ := hid (objectOf_any t (w.heap.size + 2) (w.heap.size + 1) b nD cap ad D xs ks w3 ARGS.out.1 (by rw [← E2.out]; exact hown) (by have := hb.size; rw [E2.out] at this; exact this) hnd hmem ARGS.out.2.1 ARGS.out.2.2.1 ARGS.out.2.2.2.1 ((hb.block _ (by rw [E2.out]; omega)).trans N2.out.2.1) (by omega) (ownsMap_below M2.out hb) (by have := BL.out; omega) ARGS.out.2.2.2.2 (fun k hk x hx w' hb' => IH.out k hk x hx w' ((N2.out.2.2.trans (hb.mono (by rw [E2.out]; omega))).trans (hb'.mono (by omega))))); clear hown hnd hmem hb)
    | (go_at_call 33; refine OJ.out.mono ?_; rintro e w4 ⟨y, t', rfl, hr, hs, hf, hb4⟩; obtain ⟨x0, x1, x2, x3, x4, x5, rfl⟩ := (only_rep hr).six; have R4 := hid hr; have S4 := hid hs; have F4 := hid hf; have B4 := hid hb4; have N4 := hid ((hb4.block w.heap.size (by omega)).trans ((B3.out.block w.heap.size (by rw [E2.out]; omega)).trans N2.out.1)); have C4 := hid (only_rep hr).cells.2; clear hr hs hf hb4)
    | (refine wpList_store26at rfl rfl (.tmp 2) (.tmp 103) rfl w.heap.size #[x0, x1, x2, x3, x4, x5] rfl rfl rfl C4.out _ rfl N4.out ?_; intro w5 hg5 ho5 hb5 hz5; have G5 := hid hg5; have O5 := hid ho5; have B5 : Hid (Below w.heap.size w w5) := hid (((N2.out.2.2.trans (B3.out.mono (by rw [E2.out]; omega))).trans (B4.out.mono (by omega))).trans hb5); clear hg5 ho5 hb5 hz5))
  have hc := fun i => cell_of_row _ w.heap.size i _ 26 (0, 0) G5.out
  have c0 := (hc 0).trans rfl
  have c1 := (hc 1).trans rfl
  have c2 := (hc 2).trans rfl
  have c3 := (hc 3).trans rfl
  have c4 := (hc 4).trans rfl
  have c5 := (hc 5).trans rfl
  clear hc
  refine bodyPost_ret (v := .agg #[x0, x1, x2, x3, x4, x5]) (by simp [results, Tryz.results18, go_sem, c0, c1, c2, c3, c4, c5]) rfl ⟨_, t', rfl, only_keep R4.out (fun k h1 h2 => ?_), S4.out, F4.out, B5.out⟩
  have h3 : w3.heap.size ≤ k := by simpa [above] using h1
  have h4 : w.heap.size + 2 ≤ w3.heap.size := by have := B3.out.size; rw [E2.out] at this; exact this
  exact ⟨by simp [above]; omega, O5.out k (by omega)⟩

theorem value_any (n : Nat) : ∀ {B : Nat} (t : V) (x : Value) (w : World), SizeOf.sizeOf t ≤ n → PRep w B x t → Fine t → Bnd t → Calls Tryz.prog 18 #[x] w (ValAt t w) := by
  induction n with
  | zero => intro B t x w hn; cases t; simp at hn
  | succ n ih =>
    intro B t x w hn hx hf hb
    have i0 : isI64 0 := by unfold isI64; omega
    have s0 : ByteArray.empty.size ≤ 140737488351232 := by simp
    cases hx with
    | null _ hk => exact (val_null w).mono fun e w' h => val_flat 1 0 0 ByteArray.empty h hk (by omega) i0 s0 (fun h => by omega) (fun h => by omega) (fun h => by omega) hf
    | bool _ hk =>
      rcases hf.bit hk with h0 | h1
      · rw [show (t.n == 1) = false by rw [h0]; rfl]
        exact (val_false w).mono fun e w' h => val_flat 2 0 0 ByteArray.empty h hk (by omega) i0 s0 (fun _ => h0.symm) (fun h => by omega) (fun h => by omega) hf
      · rw [show (t.n == 1) = true by rw [h1]; rfl]
        exact (val_true w).mono fun e w' h => val_flat 2 1 0 ByteArray.empty h hk (by omega) (by unfold isI64; omega) s0 (fun _ => h1.symm) (fun h => by omega) (fun h => by omega) hf
    | int _ hk => exact (val_int t.n w).mono fun e w' h => val_flat 3 t.n 0 ByteArray.empty h hk (by omega) (hb.num (.inr hk)) s0 (fun _ => rfl) (fun h => by omega) (fun h => by omega) hf
    | str _ hk => exact (val_str t.s w).mono fun e w' h => val_flat 5 0 0 t.s h hk (by omega) i0 (hb.text hk) (fun h => by omega) (fun h => by omega) (fun _ => rfl) hf
    | flo _ hk => exact (val_flo t.f w).mono fun e w' h => val_flat 4 0 t.f ByteArray.empty h hk (by omega) i0 s0 (fun h => by omega) (fun _ => rfl) (fun h => by omega) hf
    | arr _ hk g cap xs hg hle hcap hc hr =>
      refine val_arr t g cap xs w hk hf.len.1 hc ?_
      intro j hj w' hbel
      exact ih _ _ w' (by have := V.l_lt (t := t) (List.getElem_mem hj); omega) ((hr j hj).kept (Above.of_below hbel)) (fine_elem hf j hj) (hb.mem _ (List.getElem_mem hj))
    | obj _ hk b nD D xs hb' hm hn' hD hkl hr =>
      have h8 := hf.obj hk
      refine val_obj t b nD D xs w hk h8 hf.len.2 hb.key hm hD ?_
      intro k hk' x' hx' w' hbel
      have hmem := lookIn_mem _ _ _ h8.1 hk'
      exact ih _ _ w' (by have := V.l_lt (t := t) hmem; simp only [V.look]; omega) ((look_rep hD hkl h8.2 hr hx').kept (Above.of_below hbel)) (hf.mem _ hmem) (hb.mem _ hmem)

end Go.Proofs.YtclnpjelgdoloaaGreat
