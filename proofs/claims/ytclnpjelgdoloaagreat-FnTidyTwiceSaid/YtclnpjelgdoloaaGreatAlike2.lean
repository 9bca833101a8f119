/- slices.Index of a key; slices.EqualFunc of values. -/
import Derived.Test.YtclnpjelgdoloaaGreatAlike
namespace Go.Proofs.YtclnpjelgdoloaaGreat
open Go.RowKit Go.Maps Go.Sort
set_option linter.unusedVariables false
set_option linter.unusedSimpArgs false

def IndexPost (keys : List ByteArray) (k : ByteArray) (w : World) (e : Ending) (w' : World) : Prop := ∃ j, ∃ h : j < keys.length, e = .returned (.int .i64 (j : Int)) ∧ keys[j] = k ∧ w' = w

set_option maxRecDepth 100000 in
theorem index_any {w : World} {ka : Option Addr} {kc : Nat} {keys : List ByteArray} (h : Keys w ka kc keys) (k : ByteArray) (hk : k ∈ keys) : Calls Tryz.prog 23 #[.slice ka keys.length kc, .string k] w (IndexPost keys k w) := by
  have s1 := h.le
  have s2 := h.cap
  have H := hid h
  have HK := hid hk
  clear h hk
  go_enter Tryz.func23, Tryz.ntmps23
  go_wp2_with (fail)
  go_loopw [8] (fun i wr => ∃ j : Nat, i = .int .i64 (j : Int) ∧ j ≤ keys.length ∧ Hid (∀ q (hq : q < keys.length), q < j → keys[q] ≠ k) ∧ wr = w) (fun i _ => keys.length - (intOf i).toNat)
  case atStart => exact ⟨0, rfl, Nat.zero_le _, hid (fun _ _ h => absurd h (by omega)), rfl⟩
  case round =>
    obtain ⟨j, rfl, hj, NF, rfl⟩ := hrel
    by_cases hlt : j < keys.length
    · obtain ⟨hks, b, o, rfl, hc⟩ := H.out.at_ j hlt
      generalize hkey : keys[j] = key at hc
      have EK : Hid (∀ h : j < keys.length, keys[j]'h = key) := hid fun _ => hkey
      clear hkey hks
      rcases hb : (k.toList == key.toList) with _ | _
      · go_wp2_with (fail)
        go_roundw
        case rel =>
          refine ⟨j + 1, by go_num, by omega, hid fun q hq hqj => ?_, by first | rfl | trivial⟩
          by_cases e : q = j
          · subst e
            rw [EK.out hq]
            intro e2
            subst e2
            simp at hb
          · exact NF.out q hq (by omega)
        case measure => simp [intOf]; omega
      · go_wp2_with (fail)
        go_ret
        refine ⟨j, hlt, rfl, ?_, rfl⟩
        rw [EK.out hlt]
        have h2 : k.toList = key.toList := by simpa using hb
        rw [ByteArray.toList_eq, ByteArray.toList_eq] at h2
        exact (Go.WideShapes.bytes_inj h2).symm
    · obtain ⟨q, hq, e⟩ := List.getElem_of_mem HK.out
      exact absurd e (NF.out q hq (by omega))

theorem enters8 : Enters 8 := fun args w => by kernel_rfl

set_option maxRecDepth 100000 in
set_option maxHeartbeats 1000000 in
theorem equal_any {w : World} {la lb : Option Addr} {lc ld : Nat} {xs ys : List V} {ca cb : Nat → Nat → Value} (ha : Lst w la lc xs ca) (hb : Lst w lb ld ys cb) (hl : ys.length = xs.length) (hn : xs.length ≤ 300)
    (ih : ∀ j (hj : j < xs.length) (w' : World), Below w.heap.size w w' → Calls Tryz.prog 8 #[.agg #[ca j 0, ca j 1, ca j 2, ca j 3, ca j 4, ca j 5], .agg #[cb j 0, cb j 1, cb j 2, cb j 3, cb j 4, cb j 5]] w' (BoolPost true w')) :
    Calls Tryz.prog 22 #[.slice la xs.length lc, .slice lb ys.length ld, .func (.func 8) #[] #[]] w (BoolPost true w) := by
  have hEn : ∀ (args : Array Value) (w : World), (callFunc 8 args).run Tryz.prog w = .ok (.enter 8 args) w := enters8
  have s1 := ha.le
  have s2 := ha.cap
  have s3 := hb.le
  have s4 := hb.cap
  rw [hl] at s3 s4 ⊢
  have HA := hid ha
  have HB := hid hb
  have HL := hid hl
  have IH := hid ih
  clear ha hb hl ih
  go_enter Tryz.func22, Tryz.ntmps22
  go_wp2_with (fail)
  go_loopw [17] (fun i wr => ∃ j : Nat, i = .int .i64 (j : Int) ∧ j ≤ xs.length ∧ Hid (Below w.heap.size w wr)) (fun i _ => xs.length - (intOf i).toNat)
  case atStart => exact ⟨0, rfl, Nat.zero_le _, hid (Below.refl _ _)⟩
  case round =>
    obtain ⟨j, rfl, hj, BW⟩ := hrel
    by_cases hlt : j < xs.length
    · obtain ⟨b1, o1, rfl, hc1⟩ := HA.out.at_ j hlt
      obtain ⟨b2, o2, rfl, hc2⟩ := HB.out.at_ j (by rw [HL.out]; exact hlt)
      have C1 : Hid (∀ i, i < 6 → wr.cell? ⟨b1, o1 + j * 6 + i, none⟩ = some (ca j i)) := hid fun i hi => (BW.out.cell (p := ⟨b1, o1 + j * 6 + i, none⟩) (World.block_lt_of_cell? w _ (hc1 i hi))).trans (hc1 i hi)
      have C2 : Hid (∀ i, i < 6 → wr.cell? ⟨b2, o2 + j * 6 + i, none⟩ = some (cb j i)) := hid fun i hi => (BW.out.cell (p := ⟨b2, o2 + j * 6 + i, none⟩) (World.block_lt_of_cell? w _ (hc2 i hi))).trans (hc2 i hi)
      clear hc1 hc2
      have A1 := hid (HA.out.rep j hlt).cells.2
      have A2 := hid (HB.out.rep j (by rw [HL.out]; exact hlt)).cells.2
      go_wp2_with (first
        | (refine wpList_load26 rfl (.tmp 20) rfl b1 (o1 + j * 6) rfl (ca j) C1.out ?_)
        | (refine wpList_store26at rfl rfl (.tmp 8) (.tmp 21) rfl wr.heap.size #[ca j 0, ca j 1, ca j 2, ca j 3, ca j 4, ca j 5] rfl rfl rfl A1.out _ rfl (heap_alloc_new wr _) ?_; intro w2 hg2 ho2 hb2 hz2; have G2 := hid hg2; have B2 : Hid (Below wr.heap.size wr w2) := hid (((Below.refl _ wr).alloc (Nat.le_refl _) _).trans hb2); clear hg2 ho2 hb2 hz2)
        | (refine wpList_load26 rfl (.tmp 24) rfl b2 (o2 + j * 6) rfl (cb j) (fun i hi => (B2.out.cell (p := ⟨b2, o2 + j * 6 + i, none⟩) (World.block_lt_of_cell? wr _ (C2.out i hi))).trans (C2.out i hi)) ?_)
        | (refine wpList_store26at rfl rfl (.tmp 9) (.tmp 25) rfl w2.heap.size #[cb j 0, cb j 1, cb j 2, cb j 3, cb j 4, cb j 5] rfl rfl rfl A2.out _ rfl (heap_alloc_new w2 _) ?_; intro w3 hg3 ho3 hb3 hz3; have G3 := hid hg3; have B3 : Hid (Below w2.heap.size w2 w3) := hid (((Below.refl _ w2).alloc (Nat.le_refl _) _).trans hb3); have G23 := hid ((B3.out.block _ (block_lt G2.out)).trans G2.out); have BW3 : Hid (Below w.heap.size w w3) := hid ((BW.out.trans (B2.out.mono BW.out.size)).trans (B3.out.mono (by have := BW.out.size; have := B2.out.size; omega))); clear hg3 ho3 hb3 hz3)
        | (refine wpList_loadBox rfl (.tmp 8) rfl wr.heap.size rfl #[ca j 0, ca j 1, ca j 2, ca j 3, ca j 4, ca j 5] rfl G23.out ?_)
        | (refine wpList_loadBox rfl (.tmp 9) rfl w2.heap.size rfl #[cb j 0, cb j 1, cb j 2, cb j 3, cb j 4, cb j 5] rfl G3.out ?_)
        | (refine (IH.out j hlt w3 BW3.out).mono ?_; rintro e w4 ⟨rfl, hb⟩; have BW4 : Hid (Below w.heap.size w w4) := hid (BW3.out.trans (hb.mono BW3.out.size)); clear hb))
      go_roundw
      case rel => exact ⟨j + 1, by go_num, by omega, BW4⟩
      case measure => simp only [intOf]; omega
    · go_wp2_with (fail)
      go_ret
      exact ⟨rfl, BW.out⟩
end Go.Proofs.YtclnpjelgdoloaaGreat
