/- laws.FnDiffTurned: the walk. -/
import Derived.Test.YtclnpjelgdoloaaDiffers
namespace Go.Proofs.Ytclnpjelgdoloaa
open Go.RowKit Go.Maps
set_option linter.unusedVariables false

theorem row33 {w : World} {base n : Nat} {v : Value} {xs : List Value} (h : w.ownsRow base 33 1 v n xs) : ∃ ad cap, v = .slice ad n cap ∧ (n = 0 ∨ ∃ g, ad = some ⟨g, 0, none⟩) := by
  rcases h.2 with ⟨rfl, rfl⟩ | ⟨g, cap, cur, rfl, _⟩
  · exact ⟨none, 0, rfl, .inl rfl⟩
  · exact ⟨_, cap, rfl, .inr ⟨g, rfl⟩⟩

/-- Places in memory, as they came from Diff. -/
structure Got (w : World) (v : Value) (us : List Value) (ps : List (List Step)) : Prop where
  own : w.ownsRow 0 33 1 v us.length us
  at_ : PlacesAt w 0 us ps

theorem Got.kept {w w' : World} {v : Value} {us : List Value} {ps : List (List Step)} (h : Got w v us ps) (hb : Below w.heap.size w w') : Got w' v us ps :=
  ⟨own_turn h.own (fun k _ hk => hb.block k hk), h.at_.keptB hb⟩

theorem DiffPost.got {a b : V} {w w' : World} {e : Ending} (h : DiffPost a b w e w') : ∃ ad cap us ps, e = .returned (.tuple #[.slice ad us.length cap, .bool false]) ∧ (us.length = 0 ∨ ∃ g, ad = some ⟨g, 0, none⟩) ∧ ps.Perm (Df 150 a b) ∧ us.length = ps.length ∧ Got w' (.slice ad us.length cap) us ps ∧ Below w.heap.size w w' := by
  obtain ⟨out, us, ps, rfl, h1, h2, h3, h4⟩ := h
  obtain ⟨ad, cap, rfl, had⟩ := row33 h2
  exact ⟨ad, cap, us, ps, rfl, had, h1, h3.len, ⟨own_mono h2 (Nat.zero_le _), h3.mono (Nat.zero_le _)⟩, h4⟩

/-- The number in the variable that a pointer leads to. -/
def kAt (v : Value) (w : World) : Nat :=
  match v with
  | .pointer (some a) => match w.cell? a with
    | some u => (intOf u).toNat
    | none => 0
  | _ => 0

theorem kAt_of {w : World} {a : Addr} {j : Nat} (h : w.cell? a = some (.int .i64 (j : Int))) : kAt (.pointer (some a)) w = j := by
  simp [kAt, h, intOf]

set_option maxRecDepth 100000 in
set_option maxHeartbeats 4000000 in
theorem turned_any (a b : V) (va vb : Value) (w : World) (ra : Rep w va a) (rb : Rep w vb b) : Calls Try.prog 3 #[va, vb] w (BoolPost true w) := by
  obtain ⟨x0, x1, x2, x3, x4, x5, rfl⟩ := ra.six
  obtain ⟨y0, y1, y2, y3, y4, y5, rfl⟩ := rb.six
  have T0 := hid (Two.new w #[x0, x1, x2, x3, x4, x5] #[y0, y1, y2, y3, y4, y5])
  have bb : Below w.heap.size w ((w.alloc (.cells #[x0, x1, x2, x3, x4, x5] 26)).alloc (.cells #[y0, y1, y2, y3, y4, y5] 26)) := ((Below.refl _ _).alloc (Nat.le_refl _) _).alloc (by simp) _
  have B0 := hid bb
  have RA := hid ra
  have RB := hid rb
  clear ra rb bb
  go_enter Try.func3, Try.ntmps3
  go_wp2_with (first
    | (refine wpList_loadBox rfl (.tmp 2) rfl w.heap.size rfl #[x0, x1, x2, x3, x4, x5] rfl (by first | exact T0.out.1 | exact T2.out.1 | exact T4.out.1 | exact T5.out.1 | exact T6.out.1) ?_)
    | (refine wpList_loadBox rfl (.tmp 3) rfl (w.heap.size + 1) rfl #[y0, y1, y2, y3, y4, y5] rfl (by first | exact T1.out.2 | exact T3.out.2 | exact T4.out.2 | exact T5.out.2) ?_)
    | (go_at_call_of 5 (Value.agg #[x0, x1, x2, x3, x4, x5]); refine (fits1_any a _ _ (RA.out.kept B0.out)).mono ?_; rintro e w1 ⟨r1, rfl, hb⟩; have T1 := hid (T0.out.below hb); have B1 := hid (B0.out.trans (hb.mono B0.out.size)); clear hb; cases r1)
    | (go_at_call_of 5 (Value.agg #[y0, y1, y2, y3, y4, y5]); refine (fits1_any b _ _ (RB.out.kept B1.out)).mono ?_; rintro e w2 ⟨r2, rfl, hb⟩; have T2 := hid (T1.out.below hb); have B2 := hid (B1.out.trans (hb.mono B1.out.size)); clear hb; cases r2)
    | (go_at_call_of 6 (Value.agg #[x0, x1, x2, x3, x4, x5]); refine (plainData_any a _ _ (RA.out.kept B2.out)).mono ?_; rintro e w3 ⟨r3, rfl, hf, hb⟩; have FA := hid hf; have T3 := hid (T2.out.below hb); have B3 := hid (B2.out.trans (hb.mono B2.out.size)); clear hf hb; cases r3)
    | (go_at_call_of 6 (Value.agg #[y0, y1, y2, y3, y4, y5]); refine (plainData_any b _ _ (RB.out.kept B3.out)).mono ?_; rintro e w4 ⟨r4, rfl, hf, hb⟩; have FB := hid hf; have T4 := hid (T3.out.below hb); have B4 := hid (B3.out.trans (hb.mono B3.out.size)); clear hf hb; cases r4)
    | (go_at_call 7; refine (differs_any _).mono ?_; rintro e wd ⟨rfl, hb⟩; have BD := hid hb; clear hb))
  · go_ret
    first | exact ⟨rfl, B1.out⟩ | exact ⟨rfl, B2.out⟩ | exact ⟨rfl, B4.out.trans (BD.out.mono B4.out.size)⟩ | exact ⟨rfl, B3.out.trans (BD.out.mono B3.out.size)⟩
  · go_ret
    first | exact ⟨rfl, B1.out⟩ | exact ⟨rfl, B2.out⟩ | exact ⟨rfl, B4.out.trans (BD.out.mono B4.out.size)⟩ | exact ⟨rfl, B3.out.trans (BD.out.mono B3.out.size)⟩
  · go_ret
    first | exact ⟨rfl, B1.out⟩ | exact ⟨rfl, B2.out⟩ | exact ⟨rfl, B4.out.trans (BD.out.mono B4.out.size)⟩ | exact ⟨rfl, B3.out.trans (BD.out.mono B3.out.size)⟩
  · go_ret
    first | exact ⟨rfl, B1.out⟩ | exact ⟨rfl, B2.out⟩ | exact ⟨rfl, B4.out.trans (BD.out.mono B4.out.size)⟩ | exact ⟨rfl, B3.out.trans (BD.out.mono B3.out.size)⟩
  refine (implDiff_any a b _ _ w4 (RA.out.kept B4.out) (RB.out.kept B4.out) (FA.out rfl) (FB.out rfl)).mono ?_
  intro e w5 hpost
  obtain ⟨ad, cap, us, ps, rfl, had, hp, hl, hg, hb⟩ := hpost.got
  have AD := hid had
  have QP := hid hp
  have UL := hid hl
  have GX := hid hg
  have B5 : Hid (Below w.heap.size w (w5.alloc (.cells #[.slice ad us.length cap] 29))) := hid ((B4.out.trans (hb.mono B4.out.size)).alloc (by have := B4.out.size; have := hb.size; omega) _)
  have T5 : Hid (Two w.heap.size #[x0, x1, x2, x3, x4, x5] #[y0, y1, y2, y3, y4, y5] (w5.alloc (.cells #[.slice ad us.length cap] 29))) := hid ((T4.out.below hb).below ((Below.refl _ _).alloc (Nat.le_refl _) _))
  clear hpost had hp hl hg hb
  go_wp2_with (first
    | (refine wpList_loadBox rfl (.tmp 2) rfl w.heap.size rfl #[x0, x1, x2, x3, x4, x5] rfl T5.out.1 ?_)
    | (refine wpList_loadBox rfl (.tmp 3) rfl (w.heap.size + 1) rfl #[y0, y1, y2, y3, y4, y5] rfl T5.out.2 ?_))
  refine (implDiff_any b a _ _ (w5.alloc (.cells #[.slice ad us.length cap] 29)) (RB.out.kept B5.out) (RA.out.kept B5.out) (FB.out rfl) (FA.out rfl)).mono ?_
  intro e w6 hpost
  obtain ⟨ad', cap', us', ps', rfl, had, hp, hl, hg, hb⟩ := hpost.got
  have AD' := hid had
  have QP' := hid hp
  have UL' := hid hl
  have GY := hid hg
  have K6 := hid hb
  have B6 := hid (B5.out.trans (hb.mono B5.out.size))
  have T6 := hid (T5.out.below hb)
  have hx6 : w6.cell? ⟨w5.heap.size, 0, none⟩ = some (.slice ad us.length cap) := (hb.cell (p := ⟨w5.heap.size, 0, none⟩) (by simp)).trans (cell_at0 (heap_alloc_new w5 _))
  have X6 := hid hx6
  clear hpost had hp hl hg hb hx6
  go_wp2_with (refine wpList_loadBox rfl (.tmp 2) rfl w.heap.size rfl #[x0, x1, x2, x3, x4, x5] rfl T6.out.1 ?_)
  refine (implDiff_any a a _ _ w6 (RA.out.kept B6.out) (RA.out.kept B6.out) (FA.out rfl) (FA.out rfl)).mono ?_
  intro e w7 hpost
  obtain ⟨ad2, cap2, us2, ps2, rfl, had, hp, hl, hg, hb⟩ := hpost.got
  rw [Df_self] at hp
  have e2 := hp.eq_nil
  subst e2
  have K7 := hid hb
  have B7 := hid (B6.out.trans (hb.mono B6.out.size))
  have e3 : us2.length = 0 := hl
  rw [e3]
  have X7 : w7.cell? ⟨w5.heap.size, 0, none⟩ = some (.slice ad us.length cap) := (hb.cell (World.block_lt_of_cell? _ _ X6.out)).trans X6.out
  have e4 : us.length = us'.length := by
    rw [UL.out, UL'.out, QP.out.length_eq, QP'.out.length_eq]
    exact (Df_symm 150 a b (FA.out rfl).wh (FB.out rfl).wh).length_eq
  have t1 : ((us.length : Int) != (us'.length : Int)) = false := by rw [bne, Bool.not_eq_false', beq_iff_eq]; omega
  have E4 := hid e4
  clear hpost had hp hl hg hb e3 e4
  go_wp2_with (fail)
  have K57 : Hid (Below w5.heap.size w5 w7) := hid ((((Below.refl _ w5).alloc (Nat.le_refl _) _).trans (K6.out.mono (by simp))).trans (K7.out.mono (by have := K6.out.size; simp at this; omega)))
  have MEM : Hid (∀ p ∈ ps, p ∈ ps') := hid (fun p hp => QP'.out.mem_iff.2 ((Df_symm 150 a b (FA.out rfl).wh (FB.out rfl).wh).mem_iff.1 (QP.out.mem_iff.1 hp)))
  have PL : Hid (∀ p ∈ ps, p.length ≤ 100000) := hid (fun p hp => by have := Df_path 150 a b p (QP.out.mem_iff.1 hp); omega)
  have PL' : Hid (∀ p ∈ ps', p.length ≤ 100000) := hid (fun p hp => by have := Df_path 150 b a p (QP'.out.mem_iff.1 hp); omega)
  have ul : Hid (us.length ≤ 300) := hid (by rw [UL.out, QP.out.length_eq]; have h1 := Df_len 150 a b (FA.out rfl).wh (FB.out rfl).wh; have := (FA.out rfl).wt; have := (FB.out rfl).wt; omega)
  have XB : Hid (w5.heap.size < w7.heap.size) := hid (World.block_lt_of_cell? w7 _ X7)
  have HX7 := hid X7
  clear X7
  have c0 : (w7.alloc (.cells #[.int .i64 0] 3)).cell? ⟨w7.heap.size, 0, none⟩ = some (.int .i64 ((0 : Nat) : Int)) := cell_at0 (heap_alloc_new w7 _)
  have C0 := hid c0
  clear c0
  go_loopw [11] (fun kp wr => ∃ kb j : Nat, kp = .pointer (some ⟨kb, 0, none⟩) ∧ j ≤ us.length ∧ w7.heap.size ≤ kb ∧ Hid (wr.cell? ⟨kb, 0, none⟩ = some (.int .i64 (j : Int))) ∧ Hid (Below w7.heap.size w7 wr)) (fun kp wr => us.length - kAt kp wr)
  case atStart => exact ⟨w7.heap.size, 0, rfl, Nat.zero_le _, Nat.le_refl _, C0, hid ((Below.refl _ _).alloc (Nat.le_refl _) _)⟩
  case round =>
    obtain ⟨kb, j, rfl, hj, hkb, KC, BW⟩ := hrel
    have ck := KC.out
    have cx := (BW.out.cell (p := ⟨w5.heap.size, 0, none⟩) XB.out).trans HX7.out
    have ul' := ul.out
    by_cases hlt : j < us.length
    · obtain ⟨gx, rfl⟩ : ∃ gx, ad = some ⟨gx, 0, none⟩ := by
        rcases AD.out with h0 | h0
        · omega
        · exact h0
      have hjp : j < ps.length := by have := UL.out; omega
      have GXr := hid ((GX.out.kept K57.out).kept BW.out)
      have GYr := hid ((GY.out.kept K7.out).kept BW.out)
      have CA : Hid (Caught wr w5.heap.size kb gx us.length cap j us[j] ps[j]) := hid ⟨cx, ck, (GXr.out.own.cellAt j (by omega)).trans (List.getElem?_eq_getElem hlt), hlt, (GXr.out.at_.at_j j hlt hjp).steps, PL.out _ (List.getElem_mem hjp)⟩
      have MJ := hid (MEM.out _ (List.getElem_mem hjp))
      go_wp2_with (go_at_call 9; refine (containsPlace_any CA.out GYr.out.own GYr.out.at_ PL'.out (by have := E4.out; omega) MJ.out).mono ?_; rintro e w8 ⟨rfl, hb⟩; have B8 := hid hb; have ck8 : w8.cell? ⟨kb, 0, none⟩ = some (.int .i64 (j : Int)) := (hb.cell (World.block_lt_of_cell? wr _ KC.out)).trans KC.out; clear hb)
      have cn : (w8.alloc (.cells #[.int .i64 ((j : Int) + 1)] 3)).cell? ⟨w8.heap.size, 0, none⟩ = some (.int .i64 ((j + 1 : Nat) : Int)) := (cell_at0 (heap_alloc_new w8 _)).trans (by simp)
      have CN := hid cn
      clear cn ck8
      go_roundw
      case rel => exact ⟨w8.heap.size, j + 1, rfl, by omega, Nat.le_trans BW.out.size B8.out.size, CN, hid ((BW.out.trans (B8.out.mono BW.out.size)).alloc (Nat.le_trans BW.out.size B8.out.size) _)⟩
      case measure => rw [kAt_of CN.out, kAt_of KC.out]; omega
    · go_wp2_with (go_at_call 7; refine (differs_any _).mono ?_; rintro e wd ⟨rfl, hb⟩; have BD := hid hb; clear hb)
      go_ret
      exact ⟨rfl, (B7.out.trans (BW.out.mono B7.out.size)).trans (BD.out.mono (Nat.le_trans B7.out.size BW.out.size))⟩
end Go.Proofs.Ytclnpjelgdoloaa
