/- alt.decompose at an object; at any value of plain data. -/
import Derived.Test.YtclnpjelgdoloaaGreatDec
namespace Go.Proofs.YtclnpjelgdoloaaGreat
open Go.RowKit Go.Maps
set_option linter.unusedVariables false
set_option linter.unusedSimpArgs false

theorem size_le_keys {w : World} {b n : Nat} {D : DataW Value} {keys : List ByteArray} {xs : Nat → Value} (ho : w.ownsMap Tryz.prog 9 heldElem b n D) (h : MapIs D keys xs) : Maps.size D ≤ keys.length := by
  obtain ⟨es, rfl, hp, hk⟩ := ho.entries K9
  simp only [Maps.size_eq]
  have h1 : (es.map (·.1)).Nodup := by
    rw [List.nodup_iff_pairwise_ne, List.pairwise_map]
    exact hp
  have h2 : ∀ x ∈ es.map (·.1), x ∈ keys.map keyLit := by
    intro x hx
    obtain ⟨p, hpm, rfl⟩ := List.mem_map.1 hx
    have h3 : has (DataW.map es) p.1 = true := by
      rw [has_eq, List.any_eq_true]
      refine ⟨p, hpm, ?_⟩
      have hkk := hk p hpm
      rcases hp1 : p.1 with _ | _ | _ | _ | _ | _ | _
      all_goals first
        | (simp [Lit.sameKey]; done)
        | (rw [hp1] at hkk; simp [WideAt.IsKeyLit] at hkk; done)
        | (rw [hp1] at hkk; simp_all [WideAt.IsKeyLit, Lit.sameKey])
    rw [h.has_, List.any_eq_true] at h3
    obtain ⟨k, hk1, hk2⟩ := h3
    refine List.mem_map.2 ⟨k, hk1, Classical.byContradiction fun hne => ?_⟩
    rw [sameKey_ne hne] at hk2
    cases hk2
  have := nodup_len h1 h2
  simpa using this

set_option maxRecDepth 100000 in
set_option maxHeartbeats 4000000 in
theorem dec_obj (on oe : Bool) (t : V) (b nD ob : Nat) (D : DataW Value) (xs : Nat → Value) (w : World) (hk : t.k = 8) (hm : w.ownsMap Tryz.prog 9 heldElem b nD D) (hD : MapIs D t.keys xs) (hkl : t.keys.length = t.l.length) (hnd : t.keys.Nodup) (hlen : t.keys.length ≤ 300) (ho : Opts w ob on oe)
    (ih : ∀ k, k ∈ t.keys → ∀ x, D.atKey (keyLit k) (.held .nilIface) = .held x → ∀ (w' : World), Below w.heap.size w w' → Calls Tryz.prog 42 #[x, .pointer (some ⟨ob, 0, none⟩)] w' (DecPost on oe (t.look k) w')) :
    Calls Tryz.prog 42 #[.iface 66 (.map (some b)), .pointer (some ⟨ob, 0, none⟩)] w (DecPost on oe t w) := by
  have HM := hid hm
  have HL := hid hm.lt
  have HK := hid hk
  have HD := hid hD
  have HN := hid hnd
  have HLe := hid hlen
  have HO := hid ho
  have IH := hid ih
  have SZ : Hid (Maps.size D ≤ 300) := hid (Nat.le_trans (size_le_keys hm hD) hlen)
  clear hm hk hD hnd ho ih hlen
  have hmm := @run_makeMap Tryz.prog
  have e1 : (w.alloc (.map #[] 0)).heap.size = w.heap.size + 1 := by simp
  have t4 := tao4 (.map (some b)); unfold Ta at t4
  have t2 := tao2 (.map (some b)); unfold Ta at t2
  have t22 := tao22 (.map (some b)); unfold Ta at t22
  have t9 := tao9 (.map (some b)); unfold Ta at t9
  have t3 := tao3 (.map (some b)); unfold Ta at t3
  have t87 := tao87 (.map (some b)); unfold Ta at t87
  have t88 := tao88 (.map (some b)); unfold Ta at t88
  have t21 := tao21 (.map (some b)); unfold Ta at t21
  have t89 := tao89 (.map (some b)); unfold Ta at t89
  have t5 := tao5 (.map (some b)); unfold Ta at t5
  have t90 := tao90 (.map (some b)); unfold Ta at t90
  have t91 := tao91 (.map (some b)); unfold Ta at t91
  have t77 := tao77 (.map (some b)); unfold Ta at t77
  have t92 := tao92 (.map (some b)); unfold Ta at t92
  have t56 := tao56 (.map (some b)); unfold Ta at t56
  have t66 := tao66 (.map (some b)); unfold Ta at t66
  go_enter Tryz.func42, Tryz.ntmps42
  go_wp2_with (first
    | (at_range; go_loud (refine wpList_range_own _ rfl _ 66 rfl 9 20 K9 Tryz.underlying66 heldElem b nD D rfl (HM.out.alloc _) ?_); intro w0 hrg0 hg0 hs0))
  go_frame
  rw [e1] at hrg0 hs0 ⊢
  have G0 : Hid (DecObj on oe t b nD D w.heap.size w w0 (has D) (Maps.size D) 0 (.map []) [] [] [] (fun _ => t)) :=
    hid (by
      refine ⟨hrg0, (World.ownsMap_made _ _ _ _).kept hg0 (by simp), by have := SZ.out; omega, MapIs.nil _, rfl, rfl, by simp, fun k => ?_, fun k h1 h2 => ?_, fun j h => absurd h (by simp), fun j h => absurd h (by simp), ((Below.refl _ _).alloc (Nat.le_refl _) _).grown hg0 (by simp) (fun j hj => by cases hj), by omega⟩
      · constructor
        · intro h; simp at h
        · intro h
          have h2 := h.1.2
          rw [(HD.out.has_iff k).2 h.1.1] at h2
          cases h2
      · rw [(HD.out.has_iff k).2 h1] at h2
        cases h2)
  clear hrg0 hg0 hs0 e1
  go_loopw [24] (fun _ wr => ∃ (left : Lit → Bool) (cnt nn : Nat) (D' : DataW Value) (ks : List ByteArray) (L : List Value) (Ts : List V) (m : ByteArray → V), Hid (DecObj on oe t b nD D w.heap.size w wr left cnt nn D' ks L Ts m)) (fun _ wr => wr.rangeLeft b (w.heap.size + 1))
  case atStart => exact ⟨_, _, _, _, _, _, _, _, G0⟩
  case round =>
    clear G0
    obtain ⟨left, cnt, nn, D', ks, L, Ts, m, GG⟩ := hrel
    go_wp2_with (first
      | (at_next; go_loud (refine wpList_next_ranges _ rfl _ rfl 9 K9 heldElem Value.string id (fun key kl h => by obtain ⟨x, h1, _⟩ := keyOf9_inv h; exact ⟨x, h1⟩) (fun v y _ => ⟨v, rfl⟩) b (w.heap.size + 1) nD D left cnt rfl GG.out.rg ?_ ?_)))
    · intro hc0 hl0
      have HF := hid hl0
      clear hl0 hc0
      go_wp2_with (fail)
      go_ret
      have G := GG.out
      have hlT := G.lenT
      have hks : ∀ k, k ∈ ks ↔ k ∈ t.keys ∧ gone on oe (m k) = false := fun k => by
        rw [G.mem k]
        simp [HF.out]
      have hle : ks.length ≤ t.keys.length := nodup_len G.nd fun k hk' => ((hks k).1 hk').1
      refine ⟨_, .mk 8 0 0 ByteArray.empty Ts ks, rfl, .obj t _ HK.out rfl hlT.symm G.nd m (fun k hk' => G.tid k hk' (HF.out _)) hks (fun k hk' => ?_), ?_, G.bel⟩
      · obtain ⟨j, hj, rfl⟩ := List.getElem_of_mem hk'
        have e := look_at (t := .mk 8 0 0 ByteArray.empty Ts ks) hlT.symm G.nd j hj
        have hj' : j < ks.length := hj
        exact e.trans (G.lk j hj' (by omega)).symm
      · exact .obj (.mk 8 0 0 ByteArray.empty Ts ks) rfl w.heap.size nn D' (fun j => L.getD j undef) (Nat.le_refl _) G.own (by have := G.le; omega) G.is hlT.symm (fun j hj => by
          have hj1 : j < Ts.length := hj
          have hj2 : j < L.length := by have := G.lenL; omega
          rw [getD_len _ _ _ hj2]
          exact (G.rep j hj2 hj).mono (by omega))
    · intro x c kl y1 y2 w1 cnt1 hkey hlk hv hat hrg1 hlt hg1 hs1 hen
      obtain ⟨x', hx', rfl⟩ := keyOf9_inv hkey
      cases hx'
      have HXK : Hid (x ∈ t.keys) := hid ((HD.out.has_iff x).1 (has_true_of_atKey hat))
      have B1 : Hid (Below w.heap.size w w1) := hid (GG.out.bel.grown hg1 (by have := GG.out.low; omega) (fun j hj => by cases hj; omega))
      have E1 : Hid (D.atKey (keyLit x) (.held .nilIface) = .held c) := hid (by have h1 := hat (.held .nilIface); simp only [heldElem, Option.some.injEq, Prod.mk.injEq] at hv; rw [h1]; first | exact hv.1.symm | exact hv.symm | simp_all)
      have HR1 := hid hrg1
      have HG1 := hid hg1
      have HC := hid hlt
      have HKX := hid hkey
      have HLK := hid hlk
      have IHx := hid (IH.out x HXK.out c E1.out w1 B1.out)
      clear hkey hrg1 hg1 hlt hlk hv hat hs1
      have OW1 : Hid (w1.ownsMap Tryz.prog 9 heldElem w.heap.size nn D') := hid (GG.out.own.kept HG1.out (by simp))
      go_wp2_with (first
        | (go_at_call 42; go_loud (refine IHx.out.mono ?_); rintro e w2 ⟨y, t', rfl, ht, hr, hb2⟩; have TT := hid ht; have RR := hid hr; have B2 := hid hb2; obtain ⟨w3, hrun, hown3, hg3⟩ := (ownsMap_below OW1.out hb2).update K9 Tryz.underlying66 (lt_maxLen (by have := GG.out.le; omega)) HKX.out (d := .held y) (ps := []) rfl; have RUN := hid hrun; have OW3 := hid hown3; have GR3 := hid hg3; clear ht hr hb2 hrun hown3 hg3)
        | (go_at_call 54; go_loud (refine (cond_any RR.out w.heap.size ob x on oe w3 (HO.out.kept (((B2.out.mono B1.out.size).block _ HO.out.lt).trans (B1.out.block _ HO.out.lt))) RUN.out).mono ?_); rintro e w4 ⟨rfl, hw4⟩; have HW4 := hid hw4; clear hw4))
      rcases hgone : gone on oe t' with _ | _
      · have e4 := HW4.out
        rw [hgone] at e4
        simp only [Bool.false_eq_true, if_false] at e4
        have DN := hid (GG.out.set HLK.out HXK.out (by have := HL.out; omega) HG1.out HR1.out HC.out B2.out TT.out hgone RR.out OW3.out GR3.out)
        rw [e4]
        clear e4 HW4 hgone
        go_roundw
        case rel => exact ⟨_, _, _, _, _, _, _, _, DN⟩
        case measure => rw [DN.out.rg.left_eq, GG.out.rg.left_eq]; exact HC.out
      · have e4 := HW4.out
        rw [hgone] at e4
        simp only [if_true] at e4
        have DN := hid (GG.out.skip HLK.out HG1.out HR1.out HC.out B2.out TT.out hgone)
        rw [e4]
        clear e4 HW4 hgone
        go_roundw
        case rel => exact ⟨_, _, _, _, _, _, _, _, DN⟩
        case measure => rw [DN.out.rg.left_eq, GG.out.rg.left_eq]; exact HC.out

theorem dec_any (on oe : Bool) (n : Nat) : ∀ {B : Nat} (t : V) (x : Value) (w : World) (ob : Nat), SizeOf.sizeOf t ≤ n → PRep w B x t → Fine t → Opts w ob on oe → Calls Tryz.prog 42 #[x, .pointer (some ⟨ob, 0, none⟩)] w (DecPost on oe t w) := by
  induction n with
  | zero => intro B t x w ob hn; cases t; simp at hn
  | succ n ih =>
    intro B t x w ob hn hx hf ho
    cases hx with
    | null _ hk => exact (dec_null _ w).mono fun e w' ⟨h1, h2⟩ => ⟨_, t, h1, .flat t (by omega), by subst h2; exact .null t hk, by subst h2; exact Below.refl _ _⟩
    | bool _ hk => exact (dec_bool _ _ w).mono fun e w' ⟨h1, h2⟩ => ⟨_, t, h1, .flat t (by omega), by subst h2; exact .bool t hk, by subst h2; exact Below.refl _ _⟩
    | int _ hk => exact (dec_int _ _ w).mono fun e w' ⟨h1, h2⟩ => ⟨_, t, h1, .flat t (by omega), by subst h2; exact .int t hk, by subst h2; exact Below.refl _ _⟩
    | str _ hk => exact (dec_str _ _ w).mono fun e w' ⟨h1, h2⟩ => ⟨_, t, h1, .flat t (by omega), by subst h2; exact .str t hk, by subst h2; exact Below.refl _ _⟩
    | flo _ hk => exact (dec_flo _ _ w).mono fun e w' ⟨h1, h2⟩ => ⟨_, t, h1, .flat t (by omega), by subst h2; exact .flo t hk, by subst h2; exact Below.refl _ _⟩
    | arr _ hk g cap xs hg hle hcap hc hr =>
      refine dec_arr on oe t g cap ob xs w hk hf.len.1 hc ho ?_
      intro j hj w' hb
      exact ih _ _ w' ob (by have := V.l_lt (t := t) (List.getElem_mem hj); omega) ((hr j hj).kept (Above.of_below hb)) (fine_elem hf j hj) (ho.kept (hb.block _ ho.lt))
    | obj _ hk b nD D xs hb hm hn' hD hkl hr =>
      have h8 := hf.obj hk
      refine dec_obj on oe t b nD ob D xs w hk hm hD hkl h8.2 hf.len.2 ho ?_
      intro k hk' x' hx' w' hbel
      have hmem := lookIn_mem _ _ _ h8.1 hk'
      exact ih _ _ w' ob (by have := V.l_lt (t := t) hmem; simp only [V.look]; omega) ((look_rep hD hkl h8.2 hr hx').kept (Above.of_below hbel)) (hf.mem _ hmem) (ho.kept (hbel.block _ ho.lt))
end Go.Proofs.YtclnpjelgdoloaaGreat
