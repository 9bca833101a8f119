/- laws.tidies: what it tries is as it says. -/
import Derived.Test.YtclnpjelgdoloaaGreatAlike4
namespace Go.Proofs.YtclnpjelgdoloaaGreat
open Go.RowKit Go.Maps Go.Sort
set_option linter.unusedVariables false
set_option linter.unusedSimpArgs false

def intV (n : Int) : V := .mk 3 n 0 ByteArray.empty [] []
def objV (k : ByteArray) (x : V) : V := .mk 8 0 0 ByteArray.empty [x] [k]

def RepPost (t : V) (w : World) (e : Ending) (w' : World) : Prop := ∃ v, e = .returned v ∧ Rep w' v t ∧ Below w.heap.size w w'

theorem rep_int (w : World) (n : Int) (hn : isI64 n) : Rep w (.agg #[.int .i64 3, .int .i64 n, .float .f64 0, .string ByteArray.empty, .slice none 0 0, .slice none 0 0]) (intV n) := rep_flat w 3 n 0 ByteArray.empty (by unfold isI64; omega) hn (by simp)

set_option maxRecDepth 100000 in
theorem integer_any (n : Int) (hn : isI64 n) (w : World) : Calls Tryz.prog 15 #[.int .i64 n] w (RepPost (intV n) w) := by
  have HN := hid hn
  clear hn
  go_enter Tryz.func15, Tryz.ntmps15
  go_wp2_with (refine wpList_store26 rfl rfl (.tmp 2) (.tmp 4) rfl w.heap.size #[.int .i64 3, .int .i64 n, .float .f64 0, .string ByteArray.empty, .slice none 0 0, .slice none 0 0] rfl rfl rfl (by simp [Value.oneCell']) _ rfl (heap_alloc_new w _) ?_; intro w2 hg2 hb2 hz2; have G2 := hid hg2; have B2 : Hid (Below w.heap.size w w2) := hid (((Below.refl _ w).alloc (Nat.le_refl _) _).trans hb2); clear hg2 hb2 hz2)
  have c0 := (cell_of_row _ w.heap.size 0 _ 26 (0, 0) G2.out).trans rfl
  have c1 := (cell_of_row _ w.heap.size 1 _ 26 (0, 0) G2.out).trans rfl
  have c2 := (cell_of_row _ w.heap.size 2 _ 26 (0, 0) G2.out).trans rfl
  have c3 := (cell_of_row _ w.heap.size 3 _ 26 (0, 0) G2.out).trans rfl
  have c4 := (cell_of_row _ w.heap.size 4 _ 26 (0, 0) G2.out).trans rfl
  have c5 := (cell_of_row _ w.heap.size 5 _ 26 (0, 0) G2.out).trans rfl
  refine bodyPost_ret (v := .agg #[.int .i64 3, .int .i64 n, .float .f64 0, .string ByteArray.empty, .slice none 0 0, .slice none 0 0]) (by simp [results, Tryz.results15, go_sem, c0, c1, c2, c3, c4, c5]) rfl ⟨_, rfl, rep_int _ n HN.out, B2.out⟩

theorem rep_obj {w : World} {vx : Value} {t : V} {k : ByteArray} {b kb : Nat} {X : Array Value} (hX : vx = .agg X) (h : Rep w vx t) (hk : k.size ≤ 140737488351232) (hb : w.heap[b]? = some (.cells X 26 (0, 0))) (hkb : w.heap[kb]? = some (.cells #[.string k] 9 (0, 0))) :
    Rep w (.agg #[.int .i64 8, .int .i64 0, .float .f64 0, .string ByteArray.empty, .slice (some ⟨b, 0, none⟩) 1 1, .slice (some ⟨kb, 0, none⟩) 1 1]) (objV k t) := by
  subst hX
  obtain ⟨x0, x1, x2, x3, x4, x5, e⟩ := h.six
  injection e with e
  subst e
  refine Rep.mk 8 0 0 ByteArray.empty [t] [k] _ _ 1 1 (fun _ i => #[x0, x1, x2, x3, x4, x5].getD i undef) (by unfold isI64; omega) (by unfold isI64; omega) (by simp) (Nat.le_refl _) (by simp) (Nat.le_refl _) (by simp) ?_ ?_ ?_
  · intro j hj
    have : j = 0 := by simpa using hj
    subst this
    refine ⟨b, 0, rfl, fun i hi => ?_⟩
    simp only [Nat.zero_mul, Nat.zero_add]
    rw [cell_of_row _ b i _ 26 (0, 0) hb]
    match i, hi with
    | 0, _ => rfl
    | 1, _ => rfl
    | 2, _ => rfl
    | 3, _ => rfl
    | 4, _ => rfl
    | 5, _ => rfl
  · intro j hj
    have : j = 0 := by simpa using hj
    subst this
    exact h
  · intro j hj
    have : j = 0 := by simpa using hj
    subst this
    exact ⟨hk, kb, 0, rfl, (cell_of_row _ kb 0 _ 9 (0, 0) hkb).trans rfl⟩

theorem four_blocks (w : World) (A B C D : Obj) : ((((w.alloc A).alloc B).alloc C).alloc D).heap[w.heap.size + 1]? = some B ∧ ((((w.alloc A).alloc B).alloc C).alloc D).heap[w.heap.size + 1 + 1]? = some C ∧ ((((w.alloc A).alloc B).alloc C).alloc D).heap[w.heap.size + 1 + 1 + 1]? = some D := by
  have hB := heap_alloc_new (w.alloc A) B
  have hC := heap_alloc_new ((w.alloc A).alloc B) C
  have hD := heap_alloc_new (((w.alloc A).alloc B).alloc C) D
  simp only [World.size_alloc] at hB hC hD
  refine ⟨?_, ?_, ?_⟩
  · rw [Below.heap_alloc _ _ _ (by simp), Below.heap_alloc _ _ _ (by simp)]
    exact hB
  · rw [Below.heap_alloc _ _ _ (by simp)]
    exact hC
  · exact hD

set_option maxRecDepth 100000 in
set_option maxHeartbeats 1000000 in
theorem object_any {w : World} {vx : Value} {t : V} (k : ByteArray) (hk : k.size ≤ 140737488351232) (h : Rep w vx t) : Calls Tryz.prog 16 #[.string k, vx] w (RepPost (objV k t) w) := by
  obtain ⟨x0, x1, x2, x3, x4, x5, rfl⟩ := h.six
  have H := hid h
  have HK := hid hk
  have F := hid (four_blocks w (.cells #[x0, x1, x2, x3, x4, x5] 26) (.cells #[.int .i64 0, .int .i64 0, .float .f64 0, .string ByteArray.empty, .slice none 0 0, .slice none 0 0] 26) (.cells #[.string k] 9) (.cells #[x0, x1, x2, x3, x4, x5] 26))
  have BE : Hid (Below w.heap.size w ((((w.alloc (.cells #[x0, x1, x2, x3, x4, x5] 26)).alloc (.cells #[.int .i64 0, .int .i64 0, .float .f64 0, .string ByteArray.empty, .slice none 0 0, .slice none 0 0] 26)).alloc (.cells #[.string k] 9)).alloc (.cells #[x0, x1, x2, x3, x4, x5] 26))) := hid (((((Below.refl _ w).alloc (Nat.le_refl _) _).alloc (by simp) _).alloc (by simp; omega) _).alloc (by simp; omega) _)
  have Z := hid (two_new w (.cells #[x0, x1, x2, x3, x4, x5] 26) (.cells #[.int .i64 0, .int .i64 0, .float .f64 0, .string ByteArray.empty, .slice none 0 0, .slice none 0 0] 26))
  have Z1 : Hid ((((w.alloc (.cells #[x0, x1, x2, x3, x4, x5] 26)).alloc (.cells #[.int .i64 0, .int .i64 0, .float .f64 0, .string ByteArray.empty, .slice none 0 0, .slice none 0 0] 26)).alloc (.cells #[.string k] 9)).heap[w.heap.size]? = some (.cells #[x0, x1, x2, x3, x4, x5] 26 (0, 0))) := hid (by rw [Below.heap_alloc _ _ _ (by simp; omega)]; exact Z.out.1)
  clear h hk
  go_enter Tryz.func16, Tryz.ntmps16
  go_wp2_with (first
    | (refine wpList_loadBox rfl (.tmp 3) rfl w.heap.size rfl #[x0, x1, x2, x3, x4, x5] rfl Z1.out ?_)
    | (refine wpList_store26at rfl rfl (.tmp 4) (.tmp 9) rfl (w.heap.size + 1) #[.int .i64 8, .int .i64 0, .float .f64 0, .string ByteArray.empty, .slice (some ⟨w.heap.size + 1 + 1 + 1, 0, none⟩) 1 1, .slice (some ⟨w.heap.size + 1 + 1, 0, none⟩) 1 1] rfl rfl rfl (by simp [Value.oneCell']) #[.int .i64 0, .int .i64 0, .float .f64 0, .string ByteArray.empty, .slice none 0 0, .slice none 0 0] rfl F.out.1 ?_; intro w2 hg2 ho2 hb2 hz2; have G2 := hid hg2; have O2 := hid ho2; have B2 := hid hb2; clear hg2 ho2 hb2 hz2))
  have K2 := hid ((O2.out (w.heap.size + 1 + 1) (by omega)).trans F.out.2.1)
  have X2 := hid ((O2.out (w.heap.size + 1 + 1 + 1) (by omega)).trans F.out.2.2)
  have BW : Hid (Below w.heap.size w w2) := hid (BE.out.trans (B2.out.mono (by omega)))
  have hc := fun i => cell_of_row _ (w.heap.size + 1) i _ 26 (0, 0) G2.out
  have c0 := (hc 0).trans rfl
  have c1 := (hc 1).trans rfl
  have c2 := (hc 2).trans rfl
  have c3 := (hc 3).trans rfl
  have c4 := (hc 4).trans rfl
  have c5 := (hc 5).trans rfl
  clear hc
  refine bodyPost_ret (v := .agg #[.int .i64 8, .int .i64 0, .float .f64 0, .string ByteArray.empty, .slice (some ⟨w.heap.size + 1 + 1 + 1, 0, none⟩) 1 1, .slice (some ⟨w.heap.size + 1 + 1, 0, none⟩) 1 1]) (by simp [results, Tryz.results16, go_sem, c0, c1, c2, c3, c4, c5]) rfl ⟨_, rfl, rep_obj rfl (H.out.kept BW.out) HK.out X2.out K2.out, BW.out⟩

def keyA : ByteArray := { data := #[97] }


end Go.Proofs.YtclnpjelgdoloaaGreat
