/- slices.ContainsFunc over places, with the law's own closure. -/
import Derived.Test.YtclnpjelgdoloaaPlace
namespace Go.Proofs.Ytclnpjelgdoloaa
open Go.RowKit Go.Maps
set_option linter.unusedVariables false

theorem PlacesAt.at_j {w : World} {B : Nat} {vs : List Value} {ps : List (List Step)} (h : PlacesAt w B vs ps) : ∀ j (h1 : j < vs.length) (h2 : j < ps.length), PlaceAt w B vs[j] ps[j] := by
  induction h with
  | nil => intro j h1; simp at h1
  | cons v p vs ps h hs ih =>
    intro j h1 h2
    cases j with
    | zero => exact h
    | succ j => exact ih j (by simpa using h1) (by simpa using h2)

/-- The law's variables x and k, as the closure finds them. -/
structure Caught (w : World) (xb kb gx : Nat) (nx cx k : Nat) (vq : Value) (q : List Step) : Prop where
  xc : w.cell? ⟨xb, 0, none⟩ = some (.slice (some ⟨gx, 0, none⟩) nx cx)
  kc : w.cell? ⟨kb, 0, none⟩ = some (.int .i64 (k : Int))
  at_ : w.cell? ⟨gx, k, none⟩ = some vq
  lt : k < nx
  steps : StepsAt w vq (stepsOf q)
  small : q.length ≤ 100000

theorem Caught.kept {w w' : World} {xb kb gx nx cx k : Nat} {vq : Value} {q : List Step} (h : Caught w xb kb gx nx cx k vq q) (hb : Below w.heap.size w w') : Caught w' xb kb gx nx cx k vq q := by
  have keep : ∀ {a : Addr} {u : Value}, w.cell? a = some u → w'.cell? a = some u := fun h => (hb.cell (World.block_lt_of_cell? w _ h)).trans h
  exact ⟨keep h.xc, keep h.kc, keep h.at_, h.lt, h.steps.kept hb, h.small⟩

set_option maxRecDepth 100000 in
set_option maxHeartbeats 2000000 in
theorem closure_any {w : World} {xb kb gx nx cx k : Nat} {vq vp : Value} {p q : List Step} (h : Caught w xb kb gx nx cx k vq q) (hp : StepsAt w vp (stepsOf p)) (hpl : p.length ≤ 100000) : Calls Try.prog 10 #[vp, .pointer (some ⟨xb, 0, none⟩), .pointer (some ⟨kb, 0, none⟩)] w (YesIf (p = q) w) := by
  have C := hid h
  have SP : Hid (StepsAt w.drew vp (stepsOf p)) := hid (hp.kept (Below.refl _ _).drew)
  have SQ : Hid (StepsAt w.drew vq (stepsOf q)) := hid (h.steps.kept (Below.refl _ _).drew)
  have i0 : (0 : Int) ≤ (k : Int) := by omega
  have i1 : (k : Int) < (nx : Int) := by have := h.lt; omega
  clear h hp
  go_enter Try.func10, Try.ntmps10
  go_wp2_with (fail)
  go_region_held3 (fun w' => w'.cell? ⟨xb, 0, none⟩ = some (.slice (some ⟨gx, 0, none⟩) nx cx) ∧ w'.cell? ⟨kb, 0, none⟩ = some (.int .i64 (k : Int)) ∧ w'.cell? ⟨gx, k, none⟩ = some vq)
    (first | exact ⟨C.out.xc, C.out.kc, C.out.at_⟩ | exact ⟨(C.out.kept B2.out).xc, (C.out.kept B2.out).kc, (C.out.kept B2.out).at_⟩)
    (first
      | (go_at_call_of 12 vp; refine (whereTold_any p vp _ SP.out).mono ?_; rintro e w2 ⟨v1, rfl, hs, hw⟩; rw [hw]; have S1 := hid hs; clear hs hw w2)
      | (go_at_call_of 12 vq; refine (whereTold_any q vq _ SQ.out).mono ?_; rintro e w2 ⟨v2, rfl, hs, hw⟩; rw [hw]; have S2 := hid hs; clear hs hw w2)
      | (go_at_call 11; refine (samePlace_any p q v1 v2 _ hpl S1.out S2.out).mono ?_; rintro e w3 ⟨r, rfl, hr, hb⟩; have HR := hid hr; have B2 : Hid (Below w.heap.size w w3) := hid ((Below.refl _ _).drew.trans hb); clear hr hb))
  all_goals go_wp2_with (fail)
  all_goals go_ret
  all_goals exact ⟨_, rfl, HR.out, B2.out⟩

theorem enters10 : Enters 10 := fun args w => by kernel_rfl

def FoundPost (P : Prop) (w : World) (e : Ending) (w' : World) : Prop := ∃ r : Int, e = .returned (.int .i64 r) ∧ (P → 0 ≤ r) ∧ Below w.heap.size w w'

set_option maxRecDepth 100000 in
set_option maxHeartbeats 2000000 in
theorem indexPlace_any {w : World} {B xb kb gx nx cx k : Nat} {vq v : Value} {q : List Step} {us : List Value} {ps : List (List Step)} (h : Caught w xb kb gx nx cx k vq q) (hown : w.ownsRow B 33 1 v us.length us) (hat : PlacesAt w B us ps) (hps : ∀ p ∈ ps, p.length ≤ 100000) (hul : us.length ≤ 100000) :
    Calls Try.prog 28 #[v, .func (.func 10) #[] #[.pointer (some ⟨xb, 0, none⟩), .pointer (some ⟨kb, 0, none⟩)]] w (FoundPost (q ∈ ps) w) := by
  have hEn : ∀ (args : Array Value) (w : World), (callFunc 10 args).run Try.prog w = .ok (.enter 10 args) w := enters10
  have C := hid h
  have O := hid hown
  have PA := hid hat
  have PS := hid hps
  have UL := hid hat.len
  clear h hat hps
  obtain ⟨ad, cap, rfl, had⟩ : ∃ ad cap, v = .slice ad us.length cap ∧ (us.length = 0 ∨ ∃ g, ad = some ⟨g, 0, none⟩) := by
    rcases hown.2 with ⟨h1, h2⟩ | ⟨g, cap, cur, hv, _⟩
    · exact ⟨none, 0, by rw [h1, h2], .inl h2⟩
    · exact ⟨_, cap, hv, .inr ⟨g, rfl⟩⟩
  have AD := hid had
  clear had hown
  go_enter Try.func28, Try.ntmps28
  go_wp2_with (fail)
  go_loopw [8] (fun k wr => ∃ j : Nat, k = .int .i64 (j : Int) ∧ j ≤ us.length ∧ Hid (∀ i (hi : i < ps.length), i < j → ps[i] ≠ q) ∧ Hid (Below w.heap.size w wr)) (fun k _ => us.length - (intOf k).toNat)
  case atStart => exact ⟨0, rfl, Nat.zero_le _, hid (fun i _ h => absurd h (by omega)), hid (Below.refl _ _)⟩
  case round =>
    obtain ⟨j, rfl, hj, NF, BW⟩ := hrel
    by_cases hlt : j < us.length
    · obtain ⟨gd, rfl⟩ : ∃ gd, ad = some ⟨gd, 0, none⟩ := by
        rcases AD.out with h0 | h0
        · omega
        · exact h0
      have hjp : j < ps.length := by rw [← UL.out]; exact hlt
      have hcd : wr.cell? ⟨gd, j, none⟩ = some us[j] := cell_move ((O.out.cellAt j (by omega)).trans (List.getElem?_eq_getElem hlt)) (BW.out.block gd (own_lt O.out _ rfl))
      have SJ := hid (((PA.out.at_j j hlt hjp).steps).kept BW.out)
      have CW := hid (C.out.kept BW.out)
      go_wp2_with (first
        | (refine (closure_any CW.out SJ.out (PS.out _ (List.getElem_mem hjp))).mono ?_; rintro e w4 ⟨r, rfl, hr, hb4⟩; have HR := hid hr; have B4 := hid hb4; clear hr hb4; cases r))
      · go_roundw
        case rel =>
          refine ⟨j + 1, by simp, by omega, hid (fun i hi hij => ?_), hid (BW.out.trans (B4.out.mono BW.out.size))⟩
          by_cases e : i = j
          · subst e
            intro hq
            exact absurd (HR.out hq) (by simp)
          · exact NF.out i hi (by omega)
        case measure => simp only [intOf]; omega
      · go_ret
        exact ⟨_, rfl, fun _ => by omega, BW.out.trans (B4.out.mono BW.out.size)⟩
    · go_wp2_with (fail)
      go_ret
      refine ⟨_, rfl, fun h => ?_, BW.out⟩
      obtain ⟨i, hi, e⟩ := List.getElem_of_mem h
      exact absurd e (NF.out i hi (by have := UL.out; omega))
end Go.Proofs.Ytclnpjelgdoloaa
