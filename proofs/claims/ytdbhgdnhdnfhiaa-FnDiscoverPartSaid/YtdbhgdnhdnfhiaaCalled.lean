/- The two functions that discover.find calls: its own 'reset', and the function that impl.Discover hands in. -/
import Derived.Test.YtdbhgdnhdnfhiaaInv
namespace Go.Proofs.Ytdbhgdnhdnfhiaa
open Go.RowKit
set_option linter.unusedVariables false

section
variable {s : ByteArray} {back : Bool} {M N bb : Nat} {W0 : World} {ps : List (Nat × Nat)} {st i : Nat} {m : ByteArray} {k : List Md} {vm vl : Value} {w : World}

def ResetPost (s : ByteArray) (back : Bool) (M N bb : Nat) (W0 : World) (ps : List (Nat × Nat)) (st : Nat) (vl : Value) (e : Ending) (w : World) : Prop :=
  e = .returned (.tuple #[]) ∧ ∃ vm, Inv s back M N bb W0 ps st st Md.scan.str [] vm vl w

set_option maxRecDepth 100000 in
theorem reset_any (h : Inv s back M N bb W0 ps st i m k vm vl w) :
    Calls Try.prog 9 #[.pointer (some ⟨N, 0, none⟩), .pointer (some ⟨N + 2, 0, none⟩), .pointer (some ⟨N + 1, 0, none⟩), .pointer (some ⟨N + 3, 0, none⟩)] w (ResetPost s back M N bb W0 ps st vl) := by
  have c0 := cell_of_one h.start
  have c1 := cell_of_one h.modes
  have c2 := cell_of_one h.pos
  have c3 := cell_of_one h.mode
  have f0 := free_of_one h.start
  have f1 := free_of_one h.modes
  have f2 := free_of_one h.pos
  have f3 := free_of_one h.mode
  have hp := h.setPos st
  rcases h.row.2 with ⟨rfl, hk⟩ | ⟨g, cap, cur, rfl, hbg, hg, hnc, hcm, hcs, htake⟩
  · have hf : Inv s back M N bb W0 ps st st Md.scan.str [] (.slice none 0 0) vl (((w.setCell ⟨N + 2, 0, none⟩ (.int .i64 st)).setCell ⟨N + 1, 0, none⟩ (.slice none 0 0)).setCell ⟨N + 3, 0, none⟩ (.string Md.scan.str)) :=
      (hp.setModes [] (.slice none 0 0) (World.ownsRow_nil _ _ _ _) (Classical.em _)).setMode _
    have H := hid hf
    clear hf h hp hk
    go_enter Try.func9, Try.ntmps9
    go_wp2_with (refine wpList_store_str rfl rfl (.tmp 3) _ rfl _ rfl Md.scan.str (by kernel_rfl) (by go_simp) (by go_simp) ?_)
    go_end0
    exact ⟨rfl, _, H.out⟩
  · have hf : Inv s back M N bb W0 ps st st Md.scan.str [] (.slice (some ⟨g, 0, none⟩) 0 cap) vl (((w.setCell ⟨N + 2, 0, none⟩ (.int .i64 st)).setCell ⟨N + 1, 0, none⟩ (.slice (some ⟨g, 0, none⟩) 0 cap)).setCell ⟨N + 3, 0, none⟩ (.string Md.scan.str)) :=
      (hp.setModes [] (.slice (some ⟨g, 0, none⟩) 0 cap) ⟨by simp, .inr ⟨g, cap, cur, rfl, hbg, by rw [block_ne hg (by simp; omega)], by simp, hcm, hcs, by simp⟩⟩ hp.apart).setMode _
    have H := hid hf
    have hcm' : cap ≤ 9223372036854775807 := by unfold maxLen at hcm; omega
    clear hf h hp hg hcs htake hcm
    go_enter Try.func9, Try.ntmps9
    go_wp2_with (refine wpList_store_str rfl rfl (.tmp 3) _ rfl _ rfl Md.scan.str (by kernel_rfl) (by go_simp) (by go_simp) ?_)
    go_end0
    exact ⟨rfl, _, H.out⟩

theorem extract_nums (s : ByteArray) (a b : Nat) :
    strOfNums (((s.data.toList.drop a).take (b - a)).map fun c => (c.toNat : Int)) = s.extract a b := by
  have e1 : (strOfNums (((s.data.toList.drop a).take (b - a)).map fun c => (c.toNat : Int))).data.toList = (s.extract a b).data.toList := by
    rw [strOfNums_data]
    have e : ((fun n : Int => UInt8.ofNat n.toNat) ∘ fun c : UInt8 => (c.toNat : Int)) = id := by
      funext c
      simp
    simp [List.map_map, ByteArray.data_extract, List.take_drop, e]
  exact Go.WideShapes.bytes_inj e1

def FoundPost (s : ByteArray) (back : Bool) (M N bb : Nat) (W0 : World) (ps : List (Nat × Nat)) (p : Nat × Nat) (st i : Nat) (m : ByteArray) (k : List Md) (vm : Value) (e : Ending) (w : World) : Prop :=
  e = .returned (.tuple #[.bool back, .bool false]) ∧ ∃ vl, Inv s back M N bb W0 (ps ++ [p]) st i m k vm vl w

set_option maxRecDepth 100000 in
theorem found_any (h : Inv s back M N bb W0 ps st i m k vm vl w) (a b cap : Nat) (hab : a ≤ b) (hb : b ≤ s.size) (hps : ps.length ≤ 1000) :
    Calls Try.prog 7 #[.slice (some ⟨bb, a, none⟩) ((b - a : Nat)) cap, .pointer (some ⟨M + 1, 0, none⟩), .pointer (some ⟨M, 0, none⟩)] w (FoundPost s back M N bb W0 ps (a, b) st i m k vm) := by
  have hconv : (convert 27 9 (.slice (some ⟨bb, a, none⟩) (b - a) cap)).run Try.prog w = .ok (.string (s.extract a b)) w := by
    have := run_convert_bytes_arg (P := Try.prog) w 27 5 Try.underlying27 Try.underlying5 bb a (b - a) cap (((s.data.toList.drop a).take (b - a)).map fun c => (c.toNat : Int)) (by simp; omega)
      (by
        intro j hj
        rw [h.buf (a + j) (by omega)]
        have : j < ((s.data.toList.drop a).take (b - a)).length := by simp; omega
        rw [List.getD_eq_getElem?_getD, List.getElem?_map, List.getElem?_eq_getElem this]
        simp
        rfl) 9 Try.underlying9
    rw [this, extract_nums s a b]
  have c0 := cell_of_one h.bk
  have c1 := cell_of_one h.lc
  have f1 := free_of_one h.lc
  have hal := h.alloc (.cells #[.string (s.extract a b)] 9)
  have hlt := h.size
  have hM := h.lt1
  have hN := h.lt2
  have H := hid h
  have HA := hid hal
  clear h hal
  go_enter Try.func7, Try.ntmps7
  go_wp2_with (first
    | (refine wpList_buildSlice_str rfl (.tmp 8) rfl _ rfl ?_)
    | (refine wpList_append_str rfl (.tmp 6) (.tmp 9) rfl (N + 4) vl ps.length _ rfl HA.out.found _ 1 (s.extract a b) rfl (by go_simp) (by omega) (by simp; omega) ?_; intro g cap' w' hown hgrow hat; have c0' := cell_of_one (grown_one hgrow HA.out.bk (HA.out.own_ge (by omega)).2); have c1' := cell_of_one (grown_one hgrow HA.out.lc (HA.out.own_ge (by omega)).2); have f1' := free_of_one (grown_one hgrow HA.out.lc (HA.out.own_ge (by omega)).2); have HF := hid (HA.out.find (a, b) _ w' hown hgrow hat); clear hown hgrow hat))
  go_ret2
  exact ⟨rfl, _, HF.out⟩
end
end Go.Proofs.Ytdbhgdnhdnfhiaa
