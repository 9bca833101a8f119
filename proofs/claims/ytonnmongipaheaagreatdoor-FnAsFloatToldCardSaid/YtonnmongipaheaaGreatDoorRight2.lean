/- impl.right at trees of plain data: yes. -/
import Derived.Test.YtonnmongipaheaaGreatDoorLight
import Derived.Deep.RegionWith
namespace Go.Proofs.YtonnmongipaheaaGreatDoor
open Go.RowKit Go.Sort
set_option linter.unusedVariables false

set_option maxRecDepth 100000 in
theorem notRight39 (X : Array Value) (hX : X.size = 6) (w : World) (hR : ∀ w', Below w.heap.size w w' → Calls Tryz.prog 27 #[.agg X] w' (BoolPost true w')) : Calls Tryz.prog 36 #[.agg X] w (BoolPost false w) := by
  have G0 : Hid ((w.alloc (.cells X 26)).heap[w.heap.size]? = some (.cells X 26)) := hid (heap_alloc_new w _)
  have B0 : Hid (Below w.heap.size w (w.alloc (.cells X 26))) := hid ((Below.refl _ w).alloc (Nat.le_refl _) _)
  have HR := hid hR
  have HX := hid hX
  clear hR hX
  go_enter Tryz.func36, Tryz.ntmps36
  go_wp2_with (first
    | (refine wpList_loadBox rfl (.tmp 1) rfl w.heap.size rfl X HX.out G0.out ?_)
    | (go_at_call 27; refine (HR.out _ B0.out).mono ?_; rintro e w2 ⟨rfl, hb2⟩; have HB := hid hb2; clear hb2))
  go_ret
  exact ⟨rfl, B0.out.trans (HB.out.mono B0.out.size)⟩

set_option maxRecDepth 100000 in
theorem notRight43 (X : Array Value) (hX : X.size = 6) (w : World) (hR : ∀ w', Below w.heap.size w w' → Calls Tryz.prog 27 #[.agg X] w' (BoolPost true w')) : Calls Tryz.prog 40 #[.agg X] w (BoolPost false w) := by
  have G0 : Hid ((w.alloc (.cells X 26)).heap[w.heap.size]? = some (.cells X 26)) := hid (heap_alloc_new w _)
  have B0 : Hid (Below w.heap.size w (w.alloc (.cells X 26))) := hid ((Below.refl _ w).alloc (Nat.le_refl _) _)
  have HR := hid hR
  have HX := hid hX
  clear hR hX
  go_enter Tryz.func40, Tryz.ntmps40
  go_wp2_with (first
    | (refine wpList_loadBox rfl (.tmp 1) rfl w.heap.size rfl X HX.out G0.out ?_)
    | (go_at_call 27; refine (HR.out _ B0.out).mono ?_; rintro e w2 ⟨rfl, hb2⟩; have HB := hid hb2; clear hb2))
  go_ret
  exact ⟨rfl, B0.out.trans (HB.out.mono B0.out.size)⟩

def CompactPost (base : Nat) (ad : Option Addr) (n cap : Nat) (w : World) (e : Ending) (w' : World) : Prop :=
  e = .returned (.slice ad n cap) ∧ Below base w w'

theorem compact_same (l : List (List UInt8)) (h : l.Nodup) : Lib.compact l = l := by
  have hg : ∀ j (hj : j < l.length), l.toArray[j]! = l[j] := fun j hj => by
    rw [getElem!_pos _ j (by simpa using hj)]
    simp
  unfold Lib.compact Lib.compactUpTo
  rw [List.filter_eq_self.2]
  · apply List.ext_getElem
    · simp
    · intro i h1 h2
      rw [List.getElem_map, List.getElem_range]
      exact hg i h2
  · intro j hj
    have hj' : j < l.length := List.mem_range.1 hj
    rcases Nat.eq_zero_or_pos j with rfl | hp
    · exact Lib.keeps_lt_one _ 0 (by omega)
    · refine Lib.keeps_pos ?_
      rw [hg j hj', hg (j - 1) (by omega)]
      intro e
      exact (List.pairwise_iff_getElem.1 h) (j - 1) j (by omega) hj' (by omega) e.symm

theorem compact_any {w : World} {base : Nat} {ad : Option Addr} {cap : Nat} {keys : List ByteArray} (h : w.ownsRow base 9 1 (.slice ad keys.length cap) keys.length ((sorted keys).map encStr)) (hbase : base ≤ w.heap.size) (hn : keys.length ≤ 1000000) (hd : keys.Nodup) :
    Calls Tryz.prog 39 #[.slice ad keys.length cap] w (CompactPost base ad keys.length cap w) := by
  have hs : Lib.compact (sorted keys) = sorted keys := compact_same _ ((sorted_perm keys).nodup_iff.2 (List.pairwise_map.2 (hd.imp fun {a b} hab e => hab (by cases a; cases b; simp only [Array.toList_inj] at e; rw [e]))))
  have hlen := sorted_length keys
  rcases h.2 with ⟨hv, hz⟩ | ⟨g, cp, cur, hv, hb, hg, h1, h2, h3, h4⟩
  · rw [hz]
    refine (Tryz.slices_Compact_string_empty ad cap w).mono ?_
    rintro e w' ⟨rfl, rfl⟩
    exact ⟨rfl, Below.refl _ _⟩
  · simp only [Value.slice.injEq, true_and] at hv
    obtain ⟨rfl, rfl⟩ := hv
    have hc := Tryz.slices_Compact_string g 0 cap (sorted keys) w (holds_of_block hg (by rw [hlen]; simpa using h4)) (by rw [hlen]; omega) (by rw [hlen]; exact h1)
    rw [hs, hlen] at hc
    refine hc.mono ?_
    rintro e w' ⟨rfl, q, rfl⟩
    refine ⟨rfl, ?_⟩
    have hgb := grownBy_sorted (w := w) (g := g) (n := q) (os := #[]) (sorted keys ++ List.replicate (keys.length - keys.length) []).toArray
    rw [grow_empty] at hgb
    exact (Below.refl _ w).grown hgb hbase (fun k e => by cases e; exact hb)

set_option maxRecDepth 100000 in
set_option maxHeartbeats 1000000 in
theorem right_scalar (t : V) (v : Value) (w : World) (hrep : Rep w v t) (hf : Fine t) (hk : t.k = 1 ∨ t.k = 3 ∨ t.k = 5 ∨ t.k = 2) : Calls Tryz.prog 27 #[v] w (BoolPost true w) := by
  obtain ⟨la, ka, lc, kc, cs, ho⟩ := hrep.open_
  obtain rfl := ho.eq
  have h01 := hf.bit
  have H01 := hid h01
  clear ho hrep hf h01
  rcases hk with hk | hk | hk | hk
  case inr.inr.inr =>
    have hn := H01.out hk
    clear H01
    rw [hk]
    clear hk
    rcases hn with hn | hn
    all_goals
      rw [hn]
      clear hn
      go_enter Tryz.func27, Tryz.ntmps27
      go_wp2_with (fail)
      go_ret
      exact ⟨rfl, (Below.refl _ w).alloc (Nat.le_refl _) _⟩
  all_goals
    rw [hk]
    clear hk H01
    go_enter Tryz.func27, Tryz.ntmps27
    go_wp2_with (fail)
    go_ret
    exact ⟨rfl, (Below.refl _ w).alloc (Nat.le_refl _) _⟩

set_option maxRecDepth 100000 in
set_option maxHeartbeats 1000000 in
theorem right_float (t : V) (v : Value) (w : World) (hrep : Rep w v t) (hf : Fine t) (hk : t.k = 4) : Calls Tryz.prog 27 #[v] w (BoolPost true w) := by
  obtain ⟨la, ka, lc, kc, cs, ho⟩ := hrep.open_
  obtain rfl := ho.eq
  have h4 := hf.fin hk
  have H1 := hid h4.1
  have H2 := hid h4.2
  clear ho hrep hf h4
  rw [hk]
  clear hk
  go_enter Tryz.func27, Tryz.ntmps27
  go_wp2_with (first
    | (go_at_call 31; refine (isNaN_any _ _).mono ?_; rw [H1.out]; rintro e w' ⟨rfl, rfl⟩)
    | (go_at_call 32; refine (isInf_any _ _).mono ?_; rw [H2.out]; rintro e w' ⟨rfl, rfl⟩))
  go_ret
  exact ⟨rfl, (Below.refl _ w).alloc (Nat.le_refl _) _⟩

set_option maxRecDepth 100000 in
set_option maxHeartbeats 2000000 in
theorem isRight_any (n : Nat) : ∀ (t : V) (v : Value) (w : World), SizeOf.sizeOf t ≤ n → Rep w v t → Fine t → Calls Tryz.prog 27 #[v] w (BoolPost true w) := by
  induction n with
  | zero => intro t v w hn; cases t; simp at hn
  | succ n ih =>
    intro t v w hn hrep hf
    by_cases hk : t.k = 7 ∨ t.k = 8
    case neg =>
      by_cases h4 : t.k = 4
      · exact right_float t v w hrep hf h4
      · exact right_scalar t v w hrep hf (by have := fine_kind hf; omega)
    have helem : ∀ j (hj : j < t.l.length), Fine t.l[j] := fun j hj => fine_elem hf j hj
    have hwh := hf.obj
    have hkw := hf.len.2
    obtain ⟨la, ka, lc, kc, cs, ho⟩ := hrep.open_
    obtain rfl := ho.eq
    have HO := hid ho
    have HW := hid hwh
    have hrec : ∀ (W : World), Below w.heap.size w W → ∀ j (hj : j < t.l.length), ∀ w', Below W.heap.size W w' → Calls Tryz.prog 27 #[.agg #[cs j 0, cs j 1, cs j 2, cs j 3, cs j 4, cs j 5]] w' (BoolPost true w') := fun W hW j hj w' hb =>
      ih t.l[j] _ w' (by have := V.l_lt (t := t) (List.getElem_mem hj); omega) ((((HO.out.kept hW).toLst).rep j hj).kept hb) (helem j hj)
    have N39 : Hid (∀ (W : World), Below w.heap.size w W → SaysNo 36 W t.l cs) := hid fun W hW j hj w' hb => notRight39 _ rfl w' fun w2 hb2 => hrec W hW j hj w2 (hb.trans (hb2.mono hb.size))
    have N43 : Hid (∀ (W : World), Below w.heap.size w W → SaysNo 40 W t.l cs) := hid fun W hW j hj w' hb => notRight43 _ rfl w' fun w2 hb2 => hrec W hW j hj w2 (hb.trans (hb2.mono hb.size))
    have HB0 := hid ((Below.refl w.heap.size w).alloc (Nat.le_refl _) (.cells #[Value.int .i64 t.k, .int .i64 t.n, .float .f64 t.f, .string t.s, .slice la t.l.length lc, .slice ka t.keys.length kc] 26))
    clear ho hrep helem hf hrec hwh
    rcases hk with hk | hk
    · rw [hk] at HB0 HO ⊢
      clear hk HW
      go_enter Tryz.func27, Tryz.ntmps27
      go_wp2_with (go_at_call 35; refine (containsFunc_none 36 enters39 (HO.out.kept HB0.out).toLst (N39.out _ HB0.out)).mono ?_; rintro e w2 ⟨rfl, hb2⟩; have HB := hid hb2; clear hb2)
      go_ret
      exact ⟨rfl, HB0.out.trans (HB.out.mono HB0.out.size)⟩
    · have HKL := hid (HW.out hk).1
      have hkb : (((t.keys.length : Nat) : Int) == ((t.l.length : Nat) : Int)) = true := by have := HKL.out; rw [beq_iff_eq]; omega
      have hkn : t.keys.length ≤ 1000000 := by omega
      have HD := hid (HW.out hk).2
      rw [hk] at HB0 HO ⊢
      clear hk HW
      go_enter Tryz.func27, Tryz.ntmps27
      go_wp2_with (first
        | (go_at_call 37; refine (clone_any (HO.out.kept HB0.out).toKeys hkn).mono ?_; rintro e w1 ⟨ad, cap, rfl, hown, hb⟩; have HO1 := hid hown; have HB1 := hid hb; clear hown hb)
        | (go_at_call 38; refine (sort_any HO1.out HB1.out.size hkn).mono ?_; rintro e w2 ⟨rfl, hown2, hb2⟩; have HO2 := hid hown2; have HB2 := hid hb2; clear hown2 hb2))
      have hBB : Below (w.heap.size + 1) (w.alloc (.cells #[Value.int .i64 8, .int .i64 t.n, .float .f64 t.f, .string t.s, .slice la t.l.length lc, .slice ka t.keys.length kc] 26)) w2 := (HB1.out.trans HB2.out).mono (by simp)
      have c4 : w2.cell? ⟨w.heap.size, 4, none⟩ = some (.slice la t.l.length lc) := box_cell hBB 4 _ rfl
      have c5 : w2.cell? ⟨w.heap.size, 5, none⟩ = some (.slice ka t.keys.length kc) := box_cell hBB 5 _ rfl
      have BB := hid hBB
      have CC := hid (compact_any (w := w2.drew) HO2.out.drew (Nat.le_trans HB1.out.size HB2.out.size) hkn HD.out)
      clear hBB
      go_region_with (first
        | (go_at_call 39; refine CC.out.mono ?_; rintro e w3 ⟨rfl, hb3⟩; have BB3 := hid (BB.out.drew.trans (hb3.mono (by simp))); have c4' : w3.cell? ⟨w.heap.size, 4, none⟩ = some (.slice la t.l.length lc) := box_cell BB3.out 4 _ rfl; clear hb3)
        | (go_at_call 35; refine (containsFunc_none 40 enters43 (HO.out.kept (box_below BB3.out)).toLst (N43.out _ (box_below BB3.out))).mono ?_; rintro e w4 ⟨rfl, hb4⟩; have HB4 := hid hb4; clear hb4))
      all_goals go_wp2_with (fail)
      all_goals go_ret
      all_goals exact ⟨rfl, (box_below BB3.out).trans (HB4.out.mono (box_below BB3.out).size)⟩
end Go.Proofs.YtonnmongipaheaaGreatDoor
