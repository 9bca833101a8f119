/- laws.tidies says yes. -/
import Derived.Test.YtclnpjelgdoloaaGreatTidies
import Derived.Deep.RegionHeld3
namespace Go.Proofs.YtclnpjelgdoloaaGreat
open Go.RowKit Go.Maps Go.Sort
set_option linter.unusedVariables false
set_option linter.unusedSimpArgs false

def keyB : ByteArray := { data := #[98] }
def twoT : V := .mk 8 0 0 ByteArray.empty [nullV, intV 1] [keyA, keyB]

theorem keyA_ne : keyA ≠ keyB := by
  intro h
  have := congrArg (fun k : ByteArray => k.data) h
  simp [keyA, keyB] at this

theorem fine_two : Fine twoT := by
  refine .mk _ (by simp [twoT, V.k]) (fun h => by simp [twoT, V.k] at h) (fun h => by simp [twoT, V.k] at h) ⟨by simp [twoT, V.l], by simp [twoT, V.keys]⟩ (fun h => absurd (.inr rfl) h) (fun _ => ⟨rfl, by simp [twoT, V.keys, keyA_ne]⟩) ?_
  intro x hx
  simp only [twoT, V.l, List.mem_cons, List.mem_nil_iff, or_false] at hx
  rcases hx with rfl | rfl
  · exact fine_flat 1 0 0 ByteArray.empty (by omega) (fun h => by omega) (fun h => by omega)
  · exact fine_flat 3 1 0 ByteArray.empty (by omega) (fun h => by omega) (fun h => by omega)

theorem fine_objB : Fine (objV keyB (intV 1)) := by
  refine .mk _ (by simp [objV, V.k]) (fun h => by simp [objV, V.k] at h) (fun h => by simp [objV, V.k] at h) ⟨by simp [objV, V.l], by simp [objV, V.keys]⟩ (fun h => absurd (.inr rfl) h) (fun _ => ⟨rfl, by simp [objV, V.keys]⟩) ?_
  intro x hx
  simp only [objV, V.l, List.mem_cons, List.mem_nil_iff, or_false] at hx
  subst hx
  exact fine_flat 3 1 0 ByteArray.empty (by omega) (fun h => by omega) (fun h => by omega)

theorem tid_flat {on oe : Bool} {t t' : V} (h : Tid on oe t t') (hf : ¬ (t.k = 7 ∨ t.k = 8)) : t' = t := by
  cases h with
  | flat => rfl
  | arr _ _ h => exact absurd (.inl h) hf
  | obj _ _ h => exact absurd (.inr h) hf

theorem tid_two {t : V} (h : Tid true false twoT t) : Same t (objV keyB (intV 1)) := by
  cases h with
  | flat _ h => exact absurd (.inr rfl) h
  | arr _ _ h => simp [twoT, V.k] at h
  | obj _ _ h h' hkl hnd m hm hk hl =>
    have la : twoT.look keyA = nullV := by simp [V.look, twoT, V.keys, V.l, lookIn]
    have lb : twoT.look keyB = intV 1 := by simp [V.look, twoT, V.keys, V.l, lookIn, keyA_ne]
    have ma : m keyA = nullV := by
      have q := hm keyA (by simp [twoT, V.keys])
      rw [la] at q
      exact tid_flat q (by simp [nullV, V.k])
    have mb : m keyB = intV 1 := by
      have q := hm keyB (by simp [twoT, V.keys])
      rw [lb] at q
      exact tid_flat q (by simp [intV, V.k])
    have hks : ∀ k, k ∈ t.keys ↔ k = keyB := fun k => by
      rw [hk k]
      simp only [twoT, V.keys, List.mem_cons, List.mem_nil_iff, or_false]
      constructor
      · rintro ⟨rfl | rfl, q⟩
        · rw [ma] at q
          simp [gone, nullV, V.k] at q
        · rfl
      · rintro rfl
        refine ⟨.inr rfl, ?_⟩
        rw [mb]
        simp [gone, intV, V.k]
    refine .obj _ _ h' rfl hkl hnd rfl (by simp [objV, V.keys]) (fun k => by rw [hks k]; simp [objV, V.keys]) fun k hk' => ?_
    have e := (hks k).1 hk'
    subst e
    rw [hl _ hk', mb]
    have lo : (objV keyB (intV 1)).look keyB = intV 1 := by simp [V.look, objV, V.keys, V.l, lookIn]
    rw [lo]
    exact .flat _ _ (by simp [intV, V.k]) rfl (fun _ => rfl) (fun _ => rfl) (fun _ => rfl)

theorem rep_two {w : World} {gK gL : Nat} {x0 x1 x2 x3 x4 x5 y0 y1 y2 y3 y4 y5 : Value} (hK : w.heap[gK]? = some (.cells #[.string keyA, .string keyB] 9 (0, 0))) (hL : w.heap[gL]? = some (.cells #[x0, x1, x2, x3, x4, x5, y0, y1, y2, y3, y4, y5] 26 (0, 0)))
    (hx : Rep w (.agg #[x0, x1, x2, x3, x4, x5]) nullV) (hy : Rep w (.agg #[y0, y1, y2, y3, y4, y5]) (intV 1)) :
    Rep w (.agg #[.int .i64 8, .int .i64 0, .float .f64 0, .string ByteArray.empty, .slice (some ⟨gL, 0, none⟩) 2 2, .slice (some ⟨gK, 0, none⟩) 2 2]) twoT := by
  refine Rep.mk 8 0 0 ByteArray.empty [nullV, intV 1] [keyA, keyB] _ _ 2 2 (fun j i => [x0, x1, x2, x3, x4, x5, y0, y1, y2, y3, y4, y5].getD (j * 6 + i) undef) (by unfold isI64; omega) (by unfold isI64; omega) (by simp) (Nat.le_refl _) (by simp) (Nat.le_refl _) (by simp) ?_ ?_ ?_
  · intro j hj
    refine ⟨gL, 0, rfl, fun i hi => ?_⟩
    rw [cell_of_row _ gL _ _ 26 (0, 0) hL]
    have hj' : j < 2 := hj
    match j, i, hj', hi with
    | 0, 0, _, _ => rfl
    | 0, 1, _, _ => rfl
    | 0, 2, _, _ => rfl
    | 0, 3, _, _ => rfl
    | 0, 4, _, _ => rfl
    | 0, 5, _, _ => rfl
    | 1, 0, _, _ => rfl
    | 1, 1, _, _ => rfl
    | 1, 2, _, _ => rfl
    | 1, 3, _, _ => rfl
    | 1, 4, _, _ => rfl
    | 1, 5, _, _ => rfl
  · intro j hj
    have hj' : j < 2 := hj
    match j, hj' with
    | 0, _ => exact hx
    | 1, _ => exact hy
  · intro j hj
    have hj' : j < 2 := hj
    match j, hj' with
    | 0, _ => exact ⟨show keyA.size ≤ 140737488351232 by decide, gK, 0, rfl, (cell_of_row _ gK 0 _ 9 (0, 0) hK).trans rfl⟩
    | 1, _ => exact ⟨show keyB.size ≤ 140737488351232 by decide, gK, 0, rfl, (cell_of_row _ gK 1 _ 9 (0, 0) hK).trans rfl⟩

set_option maxRecDepth 100000 in
theorem null_any (w : World) : Calls Tryz.prog 14 #[] w (fun e w' => e = .returned (.agg #[.int .i64 1, .int .i64 0, .float .f64 0, .string ByteArray.empty, .slice none 0 0, .slice none 0 0]) ∧ Below w.heap.size w w') := by
  go_enter Tryz.func14, Tryz.ntmps14
  go_wp2_with (refine wpList_store26 rfl rfl (.tmp 0) (.tmp 1) rfl w.heap.size #[.int .i64 1, .int .i64 0, .float .f64 0, .string ByteArray.empty, .slice none 0 0, .slice none 0 0] rfl rfl rfl (by simp [Value.oneCell']) _ rfl (heap_alloc_new w _) ?_; intro w2 hg2 hb2 hz2; have G2 := hid hg2; have B2 : Hid (Below w.heap.size w w2) := hid (((Below.refl _ w).alloc (Nat.le_refl _) _).trans hb2); clear hg2 hb2 hz2)
  have hc := fun i => cell_of_row _ w.heap.size i _ 26 (0, 0) G2.out
  have c0 := (hc 0).trans rfl
  have c1 := (hc 1).trans rfl
  have c2 := (hc 2).trans rfl
  have c3 := (hc 3).trans rfl
  have c4 := (hc 4).trans rfl
  have c5 := (hc 5).trans rfl
  clear hc
  refine bodyPost_ret (v := .agg #[.int .i64 1, .int .i64 0, .float .f64 0, .string ByteArray.empty, .slice none 0 0, .slice none 0 0]) (by simp [results, Tryz.results14, go_sem, c0, c1, c2, c3, c4, c5]) rfl ⟨rfl, B2.out⟩

set_option maxRecDepth 100000 in
set_option maxHeartbeats 2000000 in
theorem tidies_any (w : World) : Calls Tryz.prog 6 #[] w (BoolPost true w) := by
  have RN := fun W : World => hid (rep_flat W 1 0 0 ByteArray.empty (by unfold isI64; omega) (by unfold isI64; omega) (by simp))
  go_enter Tryz.func6, Tryz.ntmps6
  go_wp2_with (first
    | (go_at_call 14; refine (null_any _).mono ?_; rintro e w2 ⟨rfl, hb⟩; have B2 : Hid (Below w.heap.size w w2) := hid (((Below.refl _ w).alloc (Nat.le_refl _) _).trans (hb.mono (by simp))); have K2 : Hid (w2.heap[w.heap.size]? = some (.cells #[.string keyA, .string keyB] 9 (0, 0))) := hid ((hb.block _ (by simp)).trans (heap_alloc_new w _)); clear hb)
    | (go_at_call 15; refine (integer_any 1 (by unfold isI64; omega) _).mono ?_; rintro e w3 ⟨v, rfl, hr, hb⟩; obtain ⟨y0, y1, y2, y3, y4, y5, rfl⟩ := hr.six; have R3 := hid hr; have B3 : Hid (Below w.heap.size w w3) := hid (B2.out.trans (hb.mono B2.out.size)); have K3 := hid ((hb.block _ (block_lt K2.out)).trans K2.out); clear hr hb)
    | (go_at_call 7; refine (tidy_any true false false twoT _ _ (rep_two (block_alloc K3.out) (heap_alloc_new w3 _) (RN _).out (R3.out.kept ((Below.refl _ _).alloc (Nat.le_refl _) _))) fine_two).mono ?_; rintro e w5 ⟨v, t1, t2, rfl, ht, hs, hr, hf, hb⟩; obtain ⟨z0, z1, z2, z3, z4, z5, rfl⟩ := hr.six; have R5 := hid hr; have S5 : Hid (Same t2 (objV keyB (intV 1))) := hid (hs.symm.trans (tid_two ht)); have F5 := hid hf; have B5 : Hid (Below w.heap.size w w5) := hid ((B3.out.alloc B3.out.size _).trans (hb.mono (by have := B3.out.size; simp; omega))); have C5 := hid hr.cells.2; clear ht hs hr hf hb)
    | (refine wpList_store26at rfl rfl (.tmp 1) (.tmp 10) rfl w5.heap.size #[z0, z1, z2, z3, z4, z5] rfl rfl rfl C5.out _ rfl (heap_alloc_new w5 _) ?_; intro w6 hg6 ho6 hb6 hz6; have G6 := hid hg6; have BB6 : Hid (Below w5.heap.size w5 w6) := hid (((Below.refl _ w5).alloc (Nat.le_refl _) _).trans hb6); clear hg6 ho6 hb6 hz6))
  have R6 := hid (R5.out.kept BB6.out)
  have T6 : Hid (Reads [(⟨w5.heap.size, 0, none⟩, z0), (⟨w5.heap.size, 1, none⟩, z1), (⟨w5.heap.size, 2, none⟩, z2), (⟨w5.heap.size, 3, none⟩, z3), (⟨w5.heap.size, 4, none⟩, z4), (⟨w5.heap.size, 5, none⟩, z5)] w6.drew) := hid (by
    intro p hp
    simp only [List.mem_cons, List.mem_nil_iff, or_false] at hp
    rcases hp with rfl | rfl | rfl | rfl | rfl | rfl
    · exact (cell_of_row _ _ 0 _ 26 (0, 0) G6.out).trans rfl
    · exact (cell_of_row _ _ 1 _ 26 (0, 0) G6.out).trans rfl
    · exact (cell_of_row _ _ 2 _ 26 (0, 0) G6.out).trans rfl
    · exact (cell_of_row _ _ 3 _ 26 (0, 0) G6.out).trans rfl
    · exact (cell_of_row _ _ 4 _ 26 (0, 0) G6.out).trans rfl
    · exact (cell_of_row _ _ 5 _ 26 (0, 0) G6.out).trans rfl)
  go_region_held3 (fun w' => w'.cell? ⟨w5.heap.size, 0, none⟩ = some z0 ∧ w'.cell? ⟨w5.heap.size, 1, none⟩ = some z1 ∧ w'.cell? ⟨w5.heap.size, 2, none⟩ = some z2 ∧ w'.cell? ⟨w5.heap.size, 3, none⟩ = some z3 ∧ w'.cell? ⟨w5.heap.size, 4, none⟩ = some z4 ∧ w'.cell? ⟨w5.heap.size, 5, none⟩ = some z5)
    (first | (simpa [Reads] using T6.out) | (simpa [Reads] using T7.out) | (simpa [Reads] using T8.out) | (simpa [Reads] using T9.out))
    (first
      | (go_at_call 15; refine (integer_any 1 (by unfold isI64; omega) _).mono ?_; rintro e w7 ⟨v7, rfl, hr, hb⟩; have R7 := hid hr; have T7 := hid (T6.out.below hb); have D7 : Hid (Below w6.heap.size w6 w7) := hid ((Below.refl _ w6).drew.trans hb); clear hr hb)
      | (go_at_call 16; refine (object_any _ (by decide) R7.out).mono ?_; rintro e w8 ⟨v8, rfl, hr, hb⟩; have R8 := hid hr; have T8 := hid (T7.out.below hb); have D8 : Hid (Below w6.heap.size w6 w8) := hid (D7.out.trans (hb.mono D7.out.size)); clear hr hb)
      | (go_at_call 8; refine (alike_any _ _ _ _ _ _ (Nat.le_refl _) (R6.out.kept D8.out) R8.out S5.out F5.out fine_objB).mono ?_; rintro e w9 ⟨rfl, hb⟩; have T9 := hid (T8.out.below hb); have D9 : Hid (Below w6.heap.size w6 w9) := hid (D8.out.trans (hb.mono D8.out.size)); clear hb))
  go_wp2_with (fail)
  go_ret
  exact ⟨rfl, (B5.out.trans (BB6.out.mono B5.out.size)).trans (D9.out.mono (by have := B5.out.size; have := BB6.out.size; omega))⟩
end Go.Proofs.YtclnpjelgdoloaaGreat
