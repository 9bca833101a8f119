/- laws.FnTidyTwice answers yes, whatever it is given. -/
import Derived.Test.YtclnpjelgdoloaaGreatTidies2
namespace Go.Proofs.YtclnpjelgdoloaaGreat
open Go.RowKit Go.Maps Go.Sort
set_option linter.unusedVariables false
set_option linter.unusedSimpArgs false

set_option maxRecDepth 100000 in
set_option maxHeartbeats 2000000 in
theorem twice_any (on oe ip : Bool) (t : V) (v : Value) (w : World) (hrep : Rep w v t) : Calls Tryz.prog 3 #[v, .bool on, .bool oe, .bool ip] w (BoolPost true w) := by
  obtain ⟨x0, x1, x2, x3, x4, x5, rfl⟩ := hrep.six
  have HR := hid hrep
  clear hrep
  have R0 : Hid (Rep (w.alloc (.cells #[x0, x1, x2, x3, x4, x5] 26)) (.agg #[x0, x1, x2, x3, x4, x5]) t) := hid (HR.out.kept ((Below.refl _ w).alloc (Nat.le_refl _) _))
  have G0 : Hid ((w.alloc (.cells #[x0, x1, x2, x3, x4, x5] 26)).heap[w.heap.size]? = some (.cells #[x0, x1, x2, x3, x4, x5] 26)) := hid (heap_alloc_new w _)
  have B0 : Hid (Below (w.heap.size + 1) (w.alloc (.cells #[x0, x1, x2, x3, x4, x5] 26)) (w.alloc (.cells #[x0, x1, x2, x3, x4, x5] 26))) := hid (Below.refl _ _)
  go_enter Tryz.func3, Tryz.ntmps3
  go_wp2_with (first
    | (refine wpList_loadBox rfl (.tmp 4) rfl w.heap.size rfl #[x0, x1, x2, x3, x4, x5] rfl (by first | exact G0.out | exact box_block B1.out | exact box_block B2.out) ?_)
    | (go_at_call 4; refine (fits1_any t _ _ R0.out).mono ?_; rintro e w1 ⟨r, rfl, hb⟩; have B1 := hid (box_trans B0.out hb); have R1 := hid (R0.out.kept hb); clear hb; cases r)
    | (go_at_call 5; refine (light_any t _ _ R1.out).mono ?_; rintro e w2 ⟨r, rfl, hr, hb⟩; have B2 := hid (box_trans B1.out hb); have R2 := hid (R1.out.kept hb); have H2 := hid hr; clear hr hb; cases r)
    | (go_at_call 6; refine (tidies_any _).mono ?_; rintro e w3 ⟨rfl, hb⟩; have B3 := hid (box_trans B2.out hb); clear hb))
  · go_ret
    exact ⟨rfl, box_below B1.out⟩
  · go_ret
    exact ⟨rfl, box_below B3.out⟩
  · have FT := hid (lite_fine _ t (Nat.le_refl _) (H2.out rfl))
    refine (tidy_any on oe ip t _ _ R2.out FT.out).mono ?_
    rintro e w3 ⟨v1, t1, t1', rfl, ht1, hs1, hr1, hf1, hb1⟩
    obtain ⟨y0, y1, y2, y3, y4, y5, rfl⟩ := hr1.six
    have T1 := hid ht1
    have S1 := hid hs1
    have F1 := hid hf1
    have R3 := hid hr1
    have C3 := hid hr1.cells.2
    have B3 := hid (box_trans B2.out hb1)
    clear ht1 hs1 hr1 hf1 hb1
    go_wp2_with (first
      | (refine wpList_store26at rfl rfl (.tmp 9) (.tmp 26) rfl w3.heap.size #[y0, y1, y2, y3, y4, y5] rfl rfl rfl C3.out _ rfl (heap_alloc_new w3 _) ?_; intro w4 hg4 ho4 hb4 hz4; have G4 := hid hg4; have B34 : Hid (Below w3.heap.size w3 w4) := hid (((Below.refl _ w3).alloc (Nat.le_refl _) _).trans hb4); have B4 := hid (box_trans B3.out B34.out); have R4 := hid (R3.out.kept B34.out); clear hg4 ho4 hb4 hz4)
      | (refine wpList_loadBox rfl (.tmp 9) rfl w3.heap.size rfl #[y0, y1, y2, y3, y4, y5] rfl G4.out ?_))
    refine (tidy_any on oe (!ip) t1' _ _ R4.out F1.out).mono ?_
    rintro e w5 ⟨v2, t2, t2', rfl, ht2, hs2, hr2, hf2, hb2⟩
    obtain ⟨z0, z1, z2, z3, z4, z5, rfl⟩ := hr2.six
    have AL := hid ((tidy_again T1.out S1.out ht2).trans hs2)
    have F2 := hid hf2
    have R5 := hid hr2
    have C5 := hid hr2.cells.2
    have B5 := hid (box_trans B4.out hb2)
    have G5 := hid ((hb2.block _ (block_lt G4.out)).trans G4.out)
    have R45 := hid (R4.out.kept hb2)
    clear ht2 hs2 hr2 hf2 hb2
    go_wp2_with (first
      | (refine wpList_store26at rfl rfl (.tmp 11) (.tmp 35) rfl w5.heap.size #[z0, z1, z2, z3, z4, z5] rfl rfl rfl C5.out _ rfl (heap_alloc_new w5 _) ?_; intro w6 hg6 ho6 hb6 hz6; have G6 := hid hg6; have B56 : Hid (Below w5.heap.size w5 w6) := hid (((Below.refl _ w5).alloc (Nat.le_refl _) _).trans hb6); have B6 := hid (box_trans B5.out B56.out); have R6 := hid (R5.out.kept B56.out); have R46 := hid (R45.out.kept B56.out); have G46 := hid ((B56.out.block _ (block_lt G5.out)).trans G5.out); clear hg6 ho6 hb6 hz6)
      | (refine wpList_loadBox rfl (.tmp 9) rfl w3.heap.size rfl #[y0, y1, y2, y3, y4, y5] rfl G46.out ?_)
      | (refine wpList_loadBox rfl (.tmp 11) rfl w5.heap.size rfl #[z0, z1, z2, z3, z4, z5] rfl G6.out ?_)
      | (go_at_call 8; refine (alike_any _ _ _ _ _ _ (Nat.le_refl _) R46.out R6.out AL.out F1.out F2.out).mono ?_; rintro e w7 ⟨rfl, hb⟩; have B7 := hid (box_trans B6.out hb); clear hb)
      | (go_at_call 6; refine (tidies_any _).mono ?_; rintro e w8 ⟨rfl, hb⟩; have B8 := hid (box_trans B7.out hb); clear hb))
    go_ret
    exact ⟨rfl, box_below B8.out⟩
end Go.Proofs.YtclnpjelgdoloaaGreat
