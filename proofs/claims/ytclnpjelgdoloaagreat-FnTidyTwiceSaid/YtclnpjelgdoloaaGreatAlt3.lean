/- alt.alter at an object: the walk; at any value of plain data (printed by wip/alt3.py). -/
import Derived.Test.YtclnpjelgdoloaaGreatAlt2
namespace Go.Proofs.YtclnpjelgdoloaaGreat
open Go.RowKit Go.Maps
set_option linter.unusedVariables false
set_option linter.unusedSimpArgs false

theorem mapIs_of {D : DataW Value} {keys : List ByteArray} {xs : ByteArray → Value} (hT : Tidy D) (hD : ∀ kl, has D kl = keys.any (fun x => (keyLit x).sameKey kl)) (hx : ∀ k, k ∈ keys → ∀ z, D.atKey (keyLit k) z = .held (xs k)) : MapIs D keys (fun j => xs (keys.getD j ByteArray.empty)) := by
  refine ⟨hT, hD, fun j hj z => ?_⟩
  have e : keys.getD j ByteArray.empty = keys[j] := by rw [List.getD_eq_getElem?_getD, List.getElem?_eq_getElem hj]; rfl
  rw [e]
  exact hx _ (List.getElem_mem hj) z

set_option maxRecDepth 100000 in
set_option maxHeartbeats 8000000 in
theorem alt_obj (on oe : Bool) (t : V) (lo hi b nD ob : Nat) (D0 : DataW Value) (xs : ByteArray → Value) (los his : ByteArray → Nat) (w : World) (hk : t.k = 8) (hb : lo ≤ b) (hb' : b < hi) (hm : w.ownsMap Tryz.prog 9 heldElem b nD D0) (hn : nD ≤ 1000000) (hT : Tidy D0) (hD : ∀ kl, has D0 kl = t.keys.any (fun x => (keyLit x).sameKey kl)) (hx : ∀ k, k ∈ t.keys → ∀ z, D0.atKey (keyLit k) z = .held (xs k))
    (hnd : t.keys.Nodup) (hin : ∀ k, k ∈ t.keys → lo ≤ los k ∧ his k ≤ hi ∧ (b < los k ∨ his k ≤ b)) (hdis : ∀ k k', k ∈ t.keys → k' ∈ t.keys → k ≠ k' → his k ≤ los k' ∨ his k' ≤ los k) (hr : ∀ k, k ∈ t.keys → PSep w (los k) (his k) (xs k) (t.look k))
    (ho : Opts w ob on oe) (hob : ob < lo ∨ hi ≤ ob) (hsz : hi ≤ w.heap.size)
    (ih : ∀ k, k ∈ t.keys → ∀ (w' : World), PSep w' (los k) (his k) (xs k) (t.look k) → Opts w' ob on oe → hi ≤ w'.heap.size → Calls Tryz.prog 41 #[xs k, .pointer (some ⟨ob, 0, none⟩)] w' (AltPost on oe (t.look k) (los k) (his k) (xs k) w')) :
    Calls Tryz.prog 41 #[.iface 66 (.map (some b)), .pointer (some ⟨ob, 0, none⟩)] w (AltPost on oe t lo hi (.iface 66 (.map (some b))) w) := by
  have HM := hid hm
  have HK := hid hk
  have HBB : Hid (lo ≤ b ∧ b < hi) := hid ⟨hb, hb'⟩
  have HN := hid hn
  have HND := hid hnd
  have HIN := hid hin
  have HDIS := hid hdis
  have HO := hid ho
  have HOB := hid hob
  have HSZ := hid hsz
  have IH := hid ih
  have HR := hid hr
  have MI := hid (mapIs_of hT hD hx)
  have HX := hid hx
  have HDK : Hid (∀ k, has D0 (keyLit k) = true ↔ k ∈ t.keys) := hid (fun k => MI.out.has_iff k)
  have HDN : Hid (∀ kl, has D0 kl = true → ∃ k, kl = keyLit k) := hid (fun kl h => by
    rw [hD kl, List.any_eq_true] at h
    obtain ⟨k, _, h2⟩ := h
    exact ⟨k, Classical.byContradiction fun hne => by rw [sameKey_ne (Ne.symm hne)] at h2; cases h2⟩)
  clear hm hk hb hb' hn hT hD hx hnd hin hdis hr ho hob hsz ih

  have t4 := tao4 (.map (some b)); unfold Ta at t4
  have t2 := tao2 (.map (some b)); unfold Ta at t2
  have t22 := tao22 (.map (some b)); unfold Ta at t22
  have t9 := tao9 (.map (some b)); unfold Ta at t9
  have t3 := tao3 (.map (some b)); unfold Ta at t3
  have t87 := tao87 (.map (some b)); unfold Ta at t87
  have t88 := tao88 (.map (some b)); unfold Ta at t88
  have t21 := tao21 (.map (some b)); unfold Ta at t21
  have t89 := tao89 (.map (some b)); unfold Ta at t89
  have t5 := tao5 (.map (some b)); unfold Ta at t5
  have t90 := tao90 (.map (some b)); unfold Ta at t90
  have t91 := tao91 (.map (some b)); unfold Ta at t91
  have t77 := tao77 (.map (some b)); unfold Ta at t77
  have t92 := tao92 (.map (some b)); unfold Ta at t92
  have t56 := tao56 (.map (some b)); unfold Ta at t56
  have t66 := tao66 (.map (some b)); unfold Ta at t66
  go_enter Tryz.func41, Tryz.ntmps41
  go_wp2_with (first
    | (at_range; go_loud (refine wpList_range_own _ rfl _ 66 rfl 9 20 K9 Tryz.underlying66 heldElem b nD D0 rfl HM.out ?_); intro w0 hrg0 hg0 hs0))
  go_frame
  have G0 : Hid (AltObj on oe t lo hi b nD xs los his w w0 (has D0) (Maps.size D0) D0 (fun _ => t)) := hid (by
    refine ⟨hrg0, fun k => ?_, HDN.out, fun k hk z => HX.out k ((HDK.out k).1 hk) z, fun k h1 h2 => ?_, fun k h1 h2 => (HR.out k h1).kept (fun q _ _ h3 => hg0.block q h3 (fun e => by cases e)), (Outside.refl _ _ _).fresh hg0⟩
    · constructor
      · intro h
        exact ⟨(HDK.out k).1 h, fun h2 => by rw [h] at h2; cases h2⟩
      · intro h
        exact (HDK.out k).2 h.1
    · rw [(HDK.out k).2 h1] at h2
      cases h2)
  clear hrg0 hg0 hs0
  go_loopw [22] (fun _ wr => ∃ (left : Lit → Bool) (cnt : Nat) (D : DataW Value) (m : ByteArray → V), Hid (AltObj on oe t lo hi b nD xs los his w wr left cnt D m)) (fun _ wr => wr.rangeLeft b w.heap.size)
  case atStart => exact ⟨_, _, _, _, G0⟩
  case round =>
    clear G0
    obtain ⟨left, cnt, D, m, GG⟩ := hrel
    go_wp2_with (first
      | (at_next; go_loud (refine wpList_next_ranges _ rfl _ rfl 9 K9 heldElem Value.string id (fun key kl h => by obtain ⟨x, h1, _⟩ := keyOf9_inv h; exact ⟨x, h1⟩) (fun v y _ => ⟨v, rfl⟩) b w.heap.size nD D left cnt rfl GG.out.rg ?_ ?_)))
    · intro hc0 hl0
      have HF := hid (GG.out.fin hl0 HK.out HBB.out HN.out HND.out HIN.out HDIS.out)
      clear hl0 hc0
      go_wp2_with (fail)
      go_ret
      obtain ⟨t', h1, h2⟩ := HF.out
      exact ⟨rfl, t', h1, h2, GG.out.out⟩
    · intro x c kl y1 y2 w1 cnt1 hkey hlk hv hat hrg1 hlt hg1 hs1 hen
      obtain ⟨x', hx', rfl⟩ := keyOf9_inv hkey
      cases hx'
      have hhas := has_true_of_atKey hat
      have HXK : Hid (x ∈ t.keys) := hid ((GG.out.hasD x).1 hhas).1
      have hcx : c = xs x := by
        have h1 := hat .nil
        rw [GG.out.at_ x hhas .nil] at h1
        simp only [heldElem, Option.some.injEq, Prod.mk.injEq] at hv
        first | (rw [← hv.1] at h1; injection h1 with h1; exact h1.symm) | (rw [← hv] at h1; injection h1 with h1; exact h1.symm) | simp_all
      have HAT : Hid (∀ z, D.atKey (keyLit x) z = .held c) := hid (by rw [hcx]; exact GG.out.at_ x hhas)
      have HR1 := hid hrg1
      have HG1 := hid hg1
      have HC := hid hlt
      have HKX := hid hkey
      have HLK := hid hlk
      have O1 : Hid (Outside lo hi w w1) := hid (GG.out.out.grown hg1 (.inr (Nat.le_refl _)))
      have P1 : Hid (PSep w1 (los x) (his x) (xs x) (t.look x)) := hid ((GG.out.todo x HXK.out hlk).kept (fun q h1 h2 h3 => hg1.block q h3 (fun e => by cases e; have := HIN.out x HXK.out; have := HSZ.out; omega)))
      have IHx := hid (IH.out x HXK.out w1 P1.out (HO.out.kept (O1.out.block _ HO.out.lt HOB.out)) (Nat.le_trans HSZ.out O1.out.size))
      rw [← hcx] at IHx
      have HCX := hid hcx
      clear hkey hrg1 hg1 hlt hlk hv hat hs1 hhas hcx
      go_wp2_with (fail)
      refine IHx.out.mono ?_
      rintro e w2 ⟨rfl, t', ht, hp, ho2⟩
      have MID : Hid (AltMid on oe t lo hi b nD xs los his w w2 left cnt1 D m x t') := hid (GG.out.mid HBB.out HSZ.out HIN.out HDIS.out HXK.out HLK.out HG1.out HR1.out ht (by rw [← HCX.out]; exact hp) ho2)
      have OP2 : Hid (Opts w2 ob on oe) := hid (HO.out.kept (MID.out.out.block _ HO.out.lt HOB.out))
      have c3 := OP2.out.nil
      have c4 := OP2.out.empty
      have hup := update_same MID.out.rg.owns HKX.out HAT.out
      have hweak := hp.weak
      have HP := hid hp
      clear ht ho2 hp
      cases hweak with
      | null _ hk =>
        have tx9 := tan9; unfold Ta at tx9
        have tx56 := tan56; unfold Ta at tx56
        have tx66 := tan66; unfold Ta at tx66
        have tx4 := tan4; unfold Ta at tx4
        have tx2 := tan2; unfold Ta at tx2
        have hgn : gone on oe t' = (on || oe) := by simp [gone, hk]
        clear hk
        cases on <;> cases oe
        all_goals
          have HGN := hid hgn
          clear hgn
          try simp only [Bool.or_self, Bool.or_true, Bool.true_or, Bool.or_false, Bool.and_true, Bool.and_self, Bool.and_false, Bool.false_and, Bool.not_true, Bool.not_false] at HGN
          go_wp2_with (first
            | (at_delete; go_loud (refine wpList_delete_ranges _ rfl _ _ 66 9 rfl 20 K9 Tryz.underlying66 heldElem b w.heap.size nD D _ cnt1 rfl MID.out.rg (.string x) (keyLit x) rfl HKX.out ?_); intro w3 cnt2 hrg2 hle hturn; have RG3 := hid hrg2; have TU3 := hid hturn; have LE3 := hid hle; clear hrg2 hturn hle; go_frame))
          first
            | (have DN := hid (MID.out.drop HGN.out HBB.out HIN.out RG3.out TU3.out)
               go_roundw
               case rel => exact ⟨_, _, _, _, DN⟩
               case measure => rw [DN.out.rg.left_eq, GG.out.rg.left_eq]; have := HC.out; have := LE3.out; omega)
            | (have DN := hid (MID.out.stay HGN.out)
               go_roundw
               case rel => exact ⟨_, _, _, _, DN⟩
               case measure => rw [DN.out.rg.left_eq, GG.out.rg.left_eq]; exact HC.out)
      | bool _ hk =>
        have hgn : gone on oe t' = (oe && !(t'.n == 1)) := by simp [gone, hk]
        clear hk
        rcases hq : (t'.n == 1) with _ | _
        · rw [hq] at hup hgn
          clear hq
          have tx9 := tab9 (.bool false); unfold Ta at tx9
          have tx56 := tab56 (.bool false); unfold Ta at tx56
          have tx66 := tab66 (.bool false); unfold Ta at tx66
          have tx4 := tab4 (.bool false); unfold Ta at tx4
          have tx2 := tab2 (.bool false); unfold Ta at tx2
          cases on <;> cases oe
          all_goals
            have HGN := hid hgn
            clear hgn
            try simp only [Bool.or_self, Bool.or_true, Bool.true_or, Bool.or_false, Bool.and_true, Bool.and_self, Bool.and_false, Bool.false_and, Bool.not_true, Bool.not_false] at HGN
            go_wp2_with (first
              | (at_delete; go_loud (refine wpList_delete_ranges _ rfl _ _ 66 9 rfl 20 K9 Tryz.underlying66 heldElem b w.heap.size nD D _ cnt1 rfl MID.out.rg (.string x) (keyLit x) rfl HKX.out ?_); intro w3 cnt2 hrg2 hle hturn; have RG3 := hid hrg2; have TU3 := hid hturn; have LE3 := hid hle; clear hrg2 hturn hle; go_frame))
            first
              | (have DN := hid (MID.out.drop HGN.out HBB.out HIN.out RG3.out TU3.out)
                 go_roundw
                 case rel => exact ⟨_, _, _, _, DN⟩
                 case measure => rw [DN.out.rg.left_eq, GG.out.rg.left_eq]; have := HC.out; have := LE3.out; omega)
              | (have DN := hid (MID.out.stay HGN.out)
                 go_roundw
                 case rel => exact ⟨_, _, _, _, DN⟩
                 case measure => rw [DN.out.rg.left_eq, GG.out.rg.left_eq]; exact HC.out)
        · rw [hq] at hup hgn
          clear hq
          have tx9 := tab9 (.bool true); unfold Ta at tx9
          have tx56 := tab56 (.bool true); unfold Ta at tx56
          have tx66 := tab66 (.bool true); unfold Ta at tx66
          have tx4 := tab4 (.bool true); unfold Ta at tx4
          have tx2 := tab2 (.bool true); unfold Ta at tx2
          cases on <;> cases oe
          all_goals
            have HGN := hid hgn
            clear hgn
            try simp only [Bool.or_self, Bool.or_true, Bool.true_or, Bool.or_false, Bool.and_true, Bool.and_self, Bool.and_false, Bool.false_and, Bool.not_true, Bool.not_false] at HGN
            go_wp2_with (first
              | (at_delete; go_loud (refine wpList_delete_ranges _ rfl _ _ 66 9 rfl 20 K9 Tryz.underlying66 heldElem b w.heap.size nD D _ cnt1 rfl MID.out.rg (.string x) (keyLit x) rfl HKX.out ?_); intro w3 cnt2 hrg2 hle hturn; have RG3 := hid hrg2; have TU3 := hid hturn; have LE3 := hid hle; clear hrg2 hturn hle; go_frame))
            first
              | (have DN := hid (MID.out.drop HGN.out HBB.out HIN.out RG3.out TU3.out)
                 go_roundw
                 case rel => exact ⟨_, _, _, _, DN⟩
                 case measure => rw [DN.out.rg.left_eq, GG.out.rg.left_eq]; have := HC.out; have := LE3.out; omega)
              | (have DN := hid (MID.out.stay HGN.out)
                 go_roundw
                 case rel => exact ⟨_, _, _, _, DN⟩
                 case measure => rw [DN.out.rg.left_eq, GG.out.rg.left_eq]; exact HC.out)
      | int _ hk =>
        have tx9 := tai9 (.int .i64 t'.n); unfold Ta at tx9
        have tx56 := tai56 (.int .i64 t'.n); unfold Ta at tx56
        have tx66 := tai66 (.int .i64 t'.n); unfold Ta at tx66
        have tx4 := tai4 (.int .i64 t'.n); unfold Ta at tx4
        have tx2 := tai2 (.int .i64 t'.n); unfold Ta at tx2
        have hgn : gone on oe t' = (oe && (t'.n == 0)) := by simp [gone, hk]
        clear hk
        rcases t0 : (t'.n == 0) with _ | _
        all_goals
          rw [t0] at hgn
          cases on <;> cases oe
          all_goals
            have HGN := hid hgn
            clear hgn
            try simp only [Bool.or_self, Bool.or_true, Bool.true_or, Bool.or_false, Bool.and_true, Bool.and_self, Bool.and_false, Bool.false_and, Bool.not_true, Bool.not_false] at HGN
            go_wp2_with (first
              | (at_delete; go_loud (refine wpList_delete_ranges _ rfl _ _ 66 9 rfl 20 K9 Tryz.underlying66 heldElem b w.heap.size nD D _ cnt1 rfl MID.out.rg (.string x) (keyLit x) rfl HKX.out ?_); intro w3 cnt2 hrg2 hle hturn; have RG3 := hid hrg2; have TU3 := hid hturn; have LE3 := hid hle; clear hrg2 hturn hle; go_frame))
            first
              | (have DN := hid (MID.out.drop HGN.out HBB.out HIN.out RG3.out TU3.out)
                 go_roundw
                 case rel => exact ⟨_, _, _, _, DN⟩
                 case measure => rw [DN.out.rg.left_eq, GG.out.rg.left_eq]; have := HC.out; have := LE3.out; omega)
              | (have DN := hid (MID.out.stay HGN.out)
                 go_roundw
                 case rel => exact ⟨_, _, _, _, DN⟩
                 case measure => rw [DN.out.rg.left_eq, GG.out.rg.left_eq]; exact HC.out)
      | str _ hk =>
        have tx9 := tas9 (.string t'.s); unfold Ta at tx9
        have tx56 := tas56 (.string t'.s); unfold Ta at tx56
        have tx66 := tas66 (.string t'.s); unfold Ta at tx66
        have tx4 := tas4 (.string t'.s); unfold Ta at tx4
        have tx2 := tas2 (.string t'.s); unfold Ta at tx2
        have hgn : gone on oe t' = (oe && (t'.s.size == 0)) := by simp [gone, hk]
        clear hk
        by_cases hq : t'.s.size = 0
        · have t0 : ((t'.s.size : Int) == 0) = true := by rw [beq_iff_eq]; omega
          have t1 : (t'.s.size == 0) = true := by rw [beq_iff_eq]; omega
          rw [t1] at hgn
          clear hq
          cases on <;> cases oe
          all_goals
            have HGN := hid hgn
            clear hgn
            try simp only [Bool.or_self, Bool.or_true, Bool.true_or, Bool.or_false, Bool.and_true, Bool.and_self, Bool.and_false, Bool.false_and] at HGN
            go_wp2_with (first
              | (at_delete; go_loud (refine wpList_delete_ranges _ rfl _ _ 66 9 rfl 20 K9 Tryz.underlying66 heldElem b w.heap.size nD D _ cnt1 rfl MID.out.rg (.string x) (keyLit x) rfl HKX.out ?_); intro w3 cnt2 hrg2 hle hturn; have RG3 := hid hrg2; have TU3 := hid hturn; have LE3 := hid hle; clear hrg2 hturn hle; go_frame))
            first
              | (have DN := hid (MID.out.drop HGN.out HBB.out HIN.out RG3.out TU3.out)
                 go_roundw
                 case rel => exact ⟨_, _, _, _, DN⟩
                 case measure => rw [DN.out.rg.left_eq, GG.out.rg.left_eq]; have := HC.out; have := LE3.out; omega)
              | (have DN := hid (MID.out.stay HGN.out)
                 go_roundw
                 case rel => exact ⟨_, _, _, _, DN⟩
                 case measure => rw [DN.out.rg.left_eq, GG.out.rg.left_eq]; exact HC.out)
        · have t0 : ((t'.s.size : Int) == 0) = false := by rw [beq_eq_false_iff_ne]; omega
          have t1 : (t'.s.size == 0) = false := by rw [beq_eq_false_iff_ne]; omega
          rw [t1] at hgn
          clear hq
          cases on <;> cases oe
          all_goals
            have HGN := hid hgn
            clear hgn
            try simp only [Bool.or_self, Bool.or_true, Bool.true_or, Bool.or_false, Bool.and_true, Bool.and_self, Bool.and_false, Bool.false_and] at HGN
            go_wp2_with (first
              | (at_delete; go_loud (refine wpList_delete_ranges _ rfl _ _ 66 9 rfl 20 K9 Tryz.underlying66 heldElem b w.heap.size nD D _ cnt1 rfl MID.out.rg (.string x) (keyLit x) rfl HKX.out ?_); intro w3 cnt2 hrg2 hle hturn; have RG3 := hid hrg2; have TU3 := hid hturn; have LE3 := hid hle; clear hrg2 hturn hle; go_frame))
            first
              | (have DN := hid (MID.out.drop HGN.out HBB.out HIN.out RG3.out TU3.out)
                 go_roundw
                 case rel => exact ⟨_, _, _, _, DN⟩
                 case measure => rw [DN.out.rg.left_eq, GG.out.rg.left_eq]; have := HC.out; have := LE3.out; omega)
              | (have DN := hid (MID.out.stay HGN.out)
                 go_roundw
                 case rel => exact ⟨_, _, _, _, DN⟩
                 case measure => rw [DN.out.rg.left_eq, GG.out.rg.left_eq]; exact HC.out)
      | flo _ hk =>
        have tx9 := taf9 (.float .f64 t'.f); unfold Ta at tx9
        have tx56 := taf56 (.float .f64 t'.f); unfold Ta at tx56
        have tx66 := taf66 (.float .f64 t'.f); unfold Ta at tx66
        have tx4 := taf4 (.float .f64 t'.f); unfold Ta at tx4
        have tx2 := taf2 (.float .f64 t'.f); unfold Ta at tx2
        have hgn : gone on oe t' = false := by simp [gone, hk]
        clear hk
        cases on <;> cases oe
        all_goals
          have HGN := hid hgn
          clear hgn
          try simp only [Bool.or_self, Bool.or_true, Bool.true_or, Bool.or_false, Bool.and_true, Bool.and_self, Bool.and_false, Bool.false_and, Bool.not_true, Bool.not_false] at HGN
          go_wp2_with (first
            | (at_delete; go_loud (refine wpList_delete_ranges _ rfl _ _ 66 9 rfl 20 K9 Tryz.underlying66 heldElem b w.heap.size nD D _ cnt1 rfl MID.out.rg (.string x) (keyLit x) rfl HKX.out ?_); intro w3 cnt2 hrg2 hle hturn; have RG3 := hid hrg2; have TU3 := hid hturn; have LE3 := hid hle; clear hrg2 hturn hle; go_frame))
          first
            | (have DN := hid (MID.out.drop HGN.out HBB.out HIN.out RG3.out TU3.out)
               go_roundw
               case rel => exact ⟨_, _, _, _, DN⟩
               case measure => rw [DN.out.rg.left_eq, GG.out.rg.left_eq]; have := HC.out; have := LE3.out; omega)
            | (have DN := hid (MID.out.stay HGN.out)
               go_roundw
               case rel => exact ⟨_, _, _, _, DN⟩
               case measure => rw [DN.out.rg.left_eq, GG.out.rg.left_eq]; exact HC.out)
      | arr _ hk g2 cap2 xs2 hg2 hle2 hcap2 hc2 hr2 =>
        have tx9 := taa9 (.slice (some ⟨g2, 0, none⟩) t'.l.length cap2); unfold Ta at tx9
        have tx56 := taa56 (.slice (some ⟨g2, 0, none⟩) t'.l.length cap2); unfold Ta at tx56
        have tx66 := taa66 (.slice (some ⟨g2, 0, none⟩) t'.l.length cap2); unfold Ta at tx66
        have tx4 := taa4 (.slice (some ⟨g2, 0, none⟩) t'.l.length cap2); unfold Ta at tx4
        have tx2 := taa2 (.slice (some ⟨g2, 0, none⟩) t'.l.length cap2); unfold Ta at tx2
        have e0 : t'.l.isEmpty = (t'.l.length == 0) := by cases t'.l <;> simp
        have hgn : gone on oe t' = (oe && (t'.l.length == 0)) := by simp only [gone, hk, e0]; simp
        clear e0
        clear hk hg2 hle2 hcap2 hc2 hr2
        by_cases hq : t'.l.length = 0
        · have t0 : ((t'.l.length : Int) == 0) = true := by rw [beq_iff_eq]; omega
          have t1 : (t'.l.length == 0) = true := by rw [beq_iff_eq]; omega
          rw [t1] at hgn
          clear hq
          cases on <;> cases oe
          all_goals
            have HGN := hid hgn
            clear hgn
            try simp only [Bool.or_self, Bool.or_true, Bool.true_or, Bool.or_false, Bool.and_true, Bool.and_self, Bool.and_false, Bool.false_and] at HGN
            go_wp2_with (first
              | (at_delete; go_loud (refine wpList_delete_ranges _ rfl _ _ 66 9 rfl 20 K9 Tryz.underlying66 heldElem b w.heap.size nD D _ cnt1 rfl MID.out.rg (.string x) (keyLit x) rfl HKX.out ?_); intro w3 cnt2 hrg2 hle hturn; have RG3 := hid hrg2; have TU3 := hid hturn; have LE3 := hid hle; clear hrg2 hturn hle; go_frame))
            first
              | (have DN := hid (MID.out.drop HGN.out HBB.out HIN.out RG3.out TU3.out)
                 go_roundw
                 case rel => exact ⟨_, _, _, _, DN⟩
                 case measure => rw [DN.out.rg.left_eq, GG.out.rg.left_eq]; have := HC.out; have := LE3.out; omega)
              | (have DN := hid (MID.out.stay HGN.out)
                 go_roundw
                 case rel => exact ⟨_, _, _, _, DN⟩
                 case measure => rw [DN.out.rg.left_eq, GG.out.rg.left_eq]; exact HC.out)
        · have t0 : ((t'.l.length : Int) == 0) = false := by rw [beq_eq_false_iff_ne]; omega
          have t1 : (t'.l.length == 0) = false := by rw [beq_eq_false_iff_ne]; omega
          rw [t1] at hgn
          clear hq
          cases on <;> cases oe
          all_goals
            have HGN := hid hgn
            clear hgn
            try simp only [Bool.or_self, Bool.or_true, Bool.true_or, Bool.or_false, Bool.and_true, Bool.and_self, Bool.and_false, Bool.false_and] at HGN
            go_wp2_with (first
              | (at_delete; go_loud (refine wpList_delete_ranges _ rfl _ _ 66 9 rfl 20 K9 Tryz.underlying66 heldElem b w.heap.size nD D _ cnt1 rfl MID.out.rg (.string x) (keyLit x) rfl HKX.out ?_); intro w3 cnt2 hrg2 hle hturn; have RG3 := hid hrg2; have TU3 := hid hturn; have LE3 := hid hle; clear hrg2 hturn hle; go_frame))
            first
              | (have DN := hid (MID.out.drop HGN.out HBB.out HIN.out RG3.out TU3.out)
                 go_roundw
                 case rel => exact ⟨_, _, _, _, DN⟩
                 case measure => rw [DN.out.rg.left_eq, GG.out.rg.left_eq]; have := HC.out; have := LE3.out; omega)
              | (have DN := hid (MID.out.stay HGN.out)
                 go_roundw
                 case rel => exact ⟨_, _, _, _, DN⟩
                 case measure => rw [DN.out.rg.left_eq, GG.out.rg.left_eq]; exact HC.out)
      | obj _ hk b2 n2 D2 xs2 hb2 hm2 hn2 hD2 hkl2 hr2 =>
        have tx9 := tao9 (.map (some b2)); unfold Ta at tx9
        have tx56 := tao56 (.map (some b2)); unfold Ta at tx56
        have tx66 := tao66 (.map (some b2)); unfold Ta at tx66
        have tx4 := tao4 (.map (some b2)); unfold Ta at tx4
        have tx2 := tao2 (.map (some b2)); unfold Ta at tx2
        have hz := size_zero hm2 hD2
        have hgn : gone on oe t' = (oe && (Maps.size D2 == 0)) := by
          have : t'.keys.isEmpty = (Maps.size D2 == 0) := by
            rw [Bool.eq_iff_iff, beq_iff_eq, hz]
            simp
          simp [gone, hk, this]
        have hlen := fun ty => hm2.len (ty := ty) Tryz.underlying66
        clear hz
        clear hk hb2 hm2 hn2 hD2 hkl2 hr2
        obtain ⟨q, hqq⟩ : ∃ q, q = Maps.size D2 := ⟨_, rfl⟩
        rw [← hqq] at hlen hgn
        clear hqq
        by_cases hq : q = 0
        · have t0 : ((q : Int) == 0) = true := by rw [beq_iff_eq]; omega
          have t1 : (q == 0) = true := by rw [beq_iff_eq]; omega
          rw [t1] at hgn
          clear hq
          cases on <;> cases oe
          all_goals
            have HGN := hid hgn
            clear hgn
            try simp only [Bool.or_self, Bool.or_true, Bool.true_or, Bool.or_false, Bool.and_true, Bool.and_self, Bool.and_false, Bool.false_and] at HGN
            go_wp2_with (first
              | (at_delete; go_loud (refine wpList_delete_ranges _ rfl _ _ 66 9 rfl 20 K9 Tryz.underlying66 heldElem b w.heap.size nD D _ cnt1 rfl MID.out.rg (.string x) (keyLit x) rfl HKX.out ?_); intro w3 cnt2 hrg2 hle hturn; have RG3 := hid hrg2; have TU3 := hid hturn; have LE3 := hid hle; clear hrg2 hturn hle; go_frame))
            first
              | (have DN := hid (MID.out.drop HGN.out HBB.out HIN.out RG3.out TU3.out)
                 go_roundw
                 case rel => exact ⟨_, _, _, _, DN⟩
                 case measure => rw [DN.out.rg.left_eq, GG.out.rg.left_eq]; have := HC.out; have := LE3.out; omega)
              | (have DN := hid (MID.out.stay HGN.out)
                 go_roundw
                 case rel => exact ⟨_, _, _, _, DN⟩
                 case measure => rw [DN.out.rg.left_eq, GG.out.rg.left_eq]; exact HC.out)
        · have t0 : ((q : Int) == 0) = false := by rw [beq_eq_false_iff_ne]; omega
          have t1 : (q == 0) = false := by rw [beq_eq_false_iff_ne]; omega
          rw [t1] at hgn
          clear hq
          cases on <;> cases oe
          all_goals
            have HGN := hid hgn
            clear hgn
            try simp only [Bool.or_self, Bool.or_true, Bool.true_or, Bool.or_false, Bool.and_true, Bool.and_self, Bool.and_false, Bool.false_and] at HGN
            go_wp2_with (first
              | (at_delete; go_loud (refine wpList_delete_ranges _ rfl _ _ 66 9 rfl 20 K9 Tryz.underlying66 heldElem b w.heap.size nD D _ cnt1 rfl MID.out.rg (.string x) (keyLit x) rfl HKX.out ?_); intro w3 cnt2 hrg2 hle hturn; have RG3 := hid hrg2; have TU3 := hid hturn; have LE3 := hid hle; clear hrg2 hturn hle; go_frame))
            first
              | (have DN := hid (MID.out.drop HGN.out HBB.out HIN.out RG3.out TU3.out)
                 go_roundw
                 case rel => exact ⟨_, _, _, _, DN⟩
                 case measure => rw [DN.out.rg.left_eq, GG.out.rg.left_eq]; have := HC.out; have := LE3.out; omega)
              | (have DN := hid (MID.out.stay HGN.out)
                 go_roundw
                 case rel => exact ⟨_, _, _, _, DN⟩
                 case measure => rw [DN.out.rg.left_eq, GG.out.rg.left_eq]; exact HC.out)
end Go.Proofs.YtclnpjelgdoloaaGreat
