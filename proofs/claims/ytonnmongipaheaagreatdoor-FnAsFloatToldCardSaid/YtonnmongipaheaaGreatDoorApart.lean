/- laws.apart: where it says yes, no text stands twice in a list. -/
import Derived.Test.YtonnmongipaheaaGreatDoorSort
import Derived.Deep.QuietTactic
import Derived.BigQuiet
namespace Go.Proofs.YtonnmongipaheaaGreatDoor
open Go.RowKit Go.Sort
set_option linter.unusedVariables false

/-- Differ as far as place k. -/
def Differ (keys : List ByteArray) (k : Nat) : Prop := ∀ i, 0 < i → i < k → (h : i < (sorted keys).length) → (sorted keys)[i] ≠ (sorted keys)[i - 1]

theorem encStr_bytes (l : List UInt8) : encStr l = .string ⟨l.toArray⟩ := rfl

set_option maxRecDepth 100000 in
theorem apart_any {w : World} {ka : Option Addr} {kc : Nat} {keys : List ByteArray} (h : Keys w ka kc keys) (hn : keys.length ≤ 1000000) : Calls Tryz.prog 33 #[.slice ka keys.length kc] w (SaysPost keys.Nodup w) := by
  have H := hid h
  clear h
  go_enter Tryz.func33, Tryz.ntmps33
  go_wp2_with (first
    | (go_at_call 37; refine (clone_any H.out hn).mono ?_; rintro e w1 ⟨ad, cap, rfl, hown, hb⟩; have HO := hid hown; have HB := hid hb; clear hown hb)
    | (go_at_call 38; refine (sort_any HO.out HB.out.size hn).mono ?_; rintro e w2 ⟨rfl, hown2, hb2⟩; have HO2 := hid hown2; have HB2 := hid hb2; clear hown2 hb2))
  go_loopw [4] (fun k wr => ∃ kk q : Nat, k = .int .i64 kk ∧ 1 ≤ kk ∧ Hid (Differ keys kk) ∧ wr = w2.drewN q) (fun k _ => keys.length - (intOf k).toNat)
  case atStart => exact ⟨1, 0, rfl, by omega, hid fun i h1 h2 _ => by omega, rfl⟩
  case round =>
    obtain ⟨kk, q, rfl, hkk, hD, rfl⟩ := hrel
    by_cases hlt : kk < keys.length
    · have hc : ∀ i, i < keys.length → ∃ g x, ad = some ⟨g, 0, none⟩ ∧ w2.cell? ⟨g, i, none⟩ = some (.string ⟨x⟩) ∧ (sorted keys)[i]? = some x.toList := by
        intro i hi
        rcases HO2.out.2 with ⟨hv, hz⟩ | ⟨g, cp, cur, hv, _⟩
        · omega
        · simp only [Value.slice.injEq, true_and] at hv
          obtain ⟨rfl, rfl⟩ := hv
          have hi' : i < (sorted keys).length := by rw [sorted_length]; exact hi
          refine ⟨g, (sorted keys)[i].toArray, rfl, ?_, by rw [List.getElem?_eq_getElem hi']⟩
          rw [HO2.out.cellAt i (by simpa using hi), List.getElem?_map, List.getElem?_eq_getElem hi']
          rfl
      obtain ⟨g, x, rfl, hx, hx'⟩ := hc kk hlt
      obtain ⟨g', y, e, hy, hy'⟩ := hc (kk - 1) (by omega)
      simp only [Option.some.injEq, Addr.mk.injEq, and_true] at e
      subst e
      clear hc
      have HX := hid hx'
      have HY := hid hy'
      clear hx' hy'
      obtain ⟨j, rfl⟩ : ∃ j, kk = j + 1 := ⟨kk - 1, by omega⟩
      simp only [Nat.add_sub_cancel] at hy HY
      have i1 : ((j : Int) + 1) < (keys.length : Int) := by omega
      have i2 : (j : Int) < (keys.length : Int) := by omega
      have i3 : IntKind.i64.wrap ((j : Int) + 1 - 1) = (j : Int) := by rw [IntWalk.i64_in _ (by omega)]; omega
      have i4 : ((j : Int) + 1).toNat = j + 1 := by omega
      have i5 : (0 : Int) ≤ (j : Int) + 1 := by omega
      have i6 : (0 : Int) ≤ (j : Int) := by omega
      rcases hb : ((⟨x⟩ : ByteArray).toList == (⟨y⟩ : ByteArray).toList) with _ | _
      · go_wp2_with (fail)
        go_quiet (fail)
        go_wp2_with (fail)
        go_roundw
        case rel =>
          refine ⟨j + 1 + 1, _, by go_num, by omega, hid fun i h1 h2 h3 => ?_, rfl⟩
          by_cases hi : i < j + 1
          · exact hD.out i h1 hi h3
          · have e : i = j + 1 := by omega
            subst e
            intro heq
            have h4 := HX.out
            have h5 := HY.out
            rw [List.getElem?_eq_getElem h3] at h4
            simp only [Nat.add_sub_cancel] at heq
            rw [List.getElem?_eq_getElem (by omega)] at h5
            simp only [Option.some.injEq] at h4 h5
            rw [h4, h5] at heq
            rw [ByteArray.toList_eq, ByteArray.toList_eq] at hb
            simp only [heq, beq_self_eq_true, Bool.true_eq_false] at hb
        case measure => simp [intOf]; omega
      · go_wp2_with (fail)
        go_quiet (fail)
        go_wp2_with (fail)
        go_ret
        exact ⟨false, rfl, (fun h => by cases h), below_drewN (below_drewN (HB.out.trans HB2.out) _) _⟩
    · have hN : Hid keys.Nodup := hid (keys_nodup (nodup_of_neighbours _ (sorted_pairwise keys) fun i h1 h2 => hD.out i h1 (by rw [sorted_length] at h2; omega) h2))
      go_wp2_with (fail)
      go_ret
      exact ⟨true, rfl, fun _ => hN.out, below_drewN (HB.out.trans HB2.out) _⟩
end Go.Proofs.YtonnmongipaheaaGreatDoor
