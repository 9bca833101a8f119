/- alt.diff at two arrays. -/
import Derived.Test.YtclnpjelgdoloaaOuter2
namespace Go.Proofs.Ytclnpjelgdoloaa
open Go.RowKit Go.Maps
set_option linter.unusedVariables false

theorem PathsAt.of {w : World} {B : Nat} : ∀ {vs : List Value} {ps : List (List Step)}, vs.length = ps.length → (∀ j (h : j < vs.length) (h' : j < ps.length), w.ownsRow B 20 1 vs[j] (pathCells ps[j]).length (pathCells ps[j])) → vs.Pairwise (fun x y => x.ownBlock ≠ y.ownBlock) → PathsAt w B vs ps
  | [], [], _, _, _ => .nil
  | [], _ :: _, h, _, _ => by simp at h
  | _ :: _, [], h, _, _ => by simp at h
  | v :: vs, p :: ps, hl, h, hp => by
    rw [List.pairwise_cons] at hp
    exact .cons v p vs ps (h 0 (by simp) (by simp)) hp.1 (PathsAt.of (by simpa using hl) (fun j h1 h2 => h (j + 1) (by simpa using h1) (by simpa using h2)) hp.2)

theorem Paths.at_ {w : World} {B : Nat} {v : Value} {vs : List Value} {ps : List (List Step)} (h : Paths w B v vs ps) : PathsAt w B vs ps := .of h.len h.path h.apart

theorem PathsAt.paths {w : World} {B : Nat} {v : Value} {vs : List Value} {ps : List (List Step)} (h : PathsAt w B vs ps) (ho : w.ownsRow B 53 1 v vs.length vs) : Paths w B v vs ps := by
  refine ⟨ho, h.len, ?_, ?_⟩
  · clear ho
    induction h with
    | nil => intro j h; simp at h
    | cons v p vs ps h hn hs ih =>
      intro j h1 h2
      cases j with
      | zero => exact h
      | succ j => exact ih j (by simpa using h1) (by simpa using h2)
  · clear ho
    induction h with
    | nil => exact .nil
    | cons v p vs ps h hn hs ih => exact .cons hn ih

noncomputable def preArr (n : Nat) (a b : V) (i : Nat) : List (List Step) := (List.range i).flatMap (fun i => (Df n (a.l.getD i nullV) (b.l.getD i nullV)).map (.idx i :: ·))

/-- The outer loop: the first i elements are done. -/
structure Outer (n0 : Nat) (n : Nat) (a b : V) (w wr : World) (d : Value) (i : Nat) (vs : List Value) (ps : List (List Step)) : Prop where
  perm : ps.Perm (preArr n a b i)
  small : ps.length ≤ i * 300
  at_ : PathsAt wr n0 vs ps
  own : wr.ownsRow n0 53 1 d vs.length vs
  bel : Below n0 w wr

theorem Outer.inner {n0 n i : Nat} {a b : V} {w wr w2 : World} {d dsv : Value} {vs us : List Value} {ps qs : List (List Step)} (h : Outer n0 n a b w wr d i vs ps) (s : Step) (hn : n0 ≤ wr.heap.size) (hb : Below wr.heap.size wr w2) (hp : PathsAt w2 wr.heap.size us qs) (ho : w2.ownsRow wr.heap.size 53 1 dsv us.length us) :
    Inner n0 w w2 s us qs dsv d ps 0 vs := by
  refine ⟨?_, by simpa using h.at_.len, own_turn h.own (fun k _ hk => hb.block k hk), ?_, ?_, h.bel.trans (hb.mono hn), Nat.le_trans hn hb.size⟩
  · simp only [List.drop_zero, List.take_zero, List.map_nil, List.append_nil]
    refine (PathsAt.split h.at_.len).2 ⟨h.at_.kept ?_, hp.mono hn, ?_⟩
    · rintro k ⟨v, hv, e⟩
      obtain ⟨g, _, e', _, hl, _⟩ := h.at_.mem v hv
      have e3 : k = g := by rw [e] at e'; exact Option.some.inj e'
      subst e3
      exact hb.block k hl
    · intro v hv u hu e
      obtain ⟨g, _, e', _, hl, _⟩ := h.at_.mem v hv
      obtain ⟨g', _, e2, hl2, _, _⟩ := hp.mem u hu
      rw [e', e2] at e
      injection e with e
      omega
  · refine ⟨ho.1, ?_⟩
    rcases ho.2 with h2 | ⟨g, cap, cur, hv, hb', hr⟩
    · exact .inl h2
    · exact .inr ⟨g, cap, cur, hv, Nat.le_trans hn hb', hr⟩
  · rcases h.own.2 with ⟨hv, _⟩ | ⟨g, cap, cur, hv, _, hg, _⟩
    · exact .inl (by rw [hv]; rfl)
    · rcases ho.2 with ⟨hv', _⟩ | ⟨g', cap', cur', hv', hb', _⟩
      · exact .inr (by rw [hv, hv']; simp [Value.ownBlock])
      · refine .inr fun e => ?_
        rw [hv, hv'] at e
        simp only [Value.ownBlock, Option.some.injEq] at e
        have : g < wr.heap.size := by
          rcases Nat.lt_or_ge g wr.heap.size with h' | h'
          · exact h'
          · simp [Array.getElem?_eq_none h'] at hg
        omega

theorem Inner.outer {n0 n i : Nat} {a b : V} {w wq : World} {d dsv : Value} {vs us : List Value} {ps qs : List (List Step)} (h : Inner n0 w wq (.idx i) us qs dsv d ps us.length vs) (hl : us.length = qs.length) (hp : ps.Perm (preArr n a b i)) (hs : ps.length ≤ i * 300)
    (hq : qs.Perm (Df n (a.l.getD i nullV) (b.l.getD i nullV))) (hq' : qs.length ≤ 300) : Outer n0 n a b w wq d (i + 1) vs (ps ++ qs.map (.idx i :: ·)) := by
  have hat := h.at_
  rw [hl] at hat
  simp only [← hl, List.drop_length, List.take_length, List.append_nil] at hat
  rw [hl] at hat
  simp only [List.drop_length, List.take_length, List.append_nil] at hat
  refine ⟨?_, by simp; omega, hat, h.own, h.bel⟩
  unfold preArr at hp ⊢
  rw [List.range_succ, List.flatMap_append]
  refine hp.append ?_
  simp only [List.flatMap_cons, List.flatMap_nil, List.append_nil]
  exact hq.map _

theorem own_ge {w : World} {base : Nat} {e : TypeId} {s n : Nat} {v : Value} {xs : List Value} (h : w.ownsRow base e s v n xs) : ∀ k, v.ownBlock = some k → base ≤ k := by
  intro k hk
  rcases h.2 with ⟨hv, _⟩ | ⟨g, cap, cur, hv, hb, _⟩
  · rw [hv] at hk; cases hk
  · rw [hv] at hk
    simp only [Value.ownBlock, Option.some.injEq] at hk
    omega

theorem slice_one (p : Option Addr) (n c : Nat) : ∀ u ∈ [Value.slice p n c], u.oneCell' = true := by
  intro u hu
  simp at hu
  subst hu
  rfl

theorem le_maxLen {n : Nat} (h : n ≤ 1000000) : n ≤ maxLen := by unfold maxLen; omega

theorem own_new20 (w : World) (x : Value) : (w.alloc (.cells #[x] 20)).ownsRow w.heap.size 20 1 (.slice (some ⟨w.heap.size, 0, none⟩) 1 1) 1 [x] :=
  ⟨rfl, .inr ⟨w.heap.size, 1, #[x], rfl, Nat.le_refl _, heap_alloc_new w _, Nat.le_refl _, by unfold maxLen; omega, rfl, rfl⟩⟩

theorem row20 {w : World} {base n : Nat} {v : Value} {xs : List Value} (h : w.ownsRow base 20 1 v n xs) (hn : 0 < n) : ∃ g cap, v = .slice (some ⟨g, 0, none⟩) n cap := by
  rcases h.2 with ⟨_, h0⟩ | ⟨g, cap, cur, hv, _⟩
  · omega
  · exact ⟨g, cap, hv⟩

theorem steps_one (p : List Step) : ∀ u ∈ p.map stepVal, u.oneCell' = true := by
  intro u hu
  obtain ⟨s, _, rfl⟩ := List.mem_map.1 hu
  exact stepVal_one s

theorem row53 {w : World} {base n : Nat} {v : Value} {xs : List Value} (h : w.ownsRow base 53 1 v n xs) : ∃ ad cap, v = .slice ad n cap ∧ (n = 0 ∨ ∃ g, ad = some ⟨g, 0, none⟩) := by
  rcases h.2 with ⟨rfl, rfl⟩ | ⟨g, cap, cur, rfl, _⟩
  · exact ⟨none, 0, rfl, .inl rfl⟩
  · exact ⟨_, cap, rfl, .inr ⟨g, rfl⟩⟩

set_option maxRecDepth 100000 in
set_option maxHeartbeats 4000000 in
theorem diff_arr (n : Nat) (a b : V) (g g' cap cap' : Nat) (xs ys : Nat → Value) (w : World) (ha : a.l.length ≤ 150) (hb : b.l.length ≤ 150) (hac : a.l.length ≤ cap) (hbc : b.l.length ≤ cap') (hcm : cap ≤ 1000000) (hcm' : cap' ≤ 1000000)
    (hx : ∀ j, j < a.l.length → w.cell? ⟨g, j, none⟩ = some (xs j)) (hy : ∀ j, j < b.l.length → w.cell? ⟨g', j, none⟩ = some (ys j))
    (ih : ∀ j (h1 : j < a.l.length) (h2 : j < b.l.length) (w' : World), Below w.heap.size w w' → Calls Try.prog 44 #[xs j, ys j, .bool false, .slice none 0 0] w' (PathsPost (Df n a.l[j] b.l[j]) w'))
    (hlen : ∀ j (h1 : j < a.l.length) (h2 : j < b.l.length), (Df n a.l[j] b.l[j]).length ≤ 300)
    (hpl : ∀ j (h1 : j < a.l.length) (h2 : j < b.l.length), ∀ p ∈ Df n a.l[j] b.l[j], p.length ≤ 300)
    (R : List (List Step)) (hR : Hid (R = preArr n a b (min a.l.length b.l.length) ++ (if a.l.length = b.l.length then [] else [[.idx (min a.l.length b.l.length)]]))) :
    Calls Try.prog 44 #[.iface 52 (.slice (some ⟨g, 0, none⟩) a.l.length cap), .iface 52 (.slice (some ⟨g', 0, none⟩) b.l.length cap'), .bool false, .slice none 0 0] w
      (PathsPost R w) := by
  obtain ⟨i0, hi, hz0, hz1, hz2⟩ := info_parts info53
  obtain ⟨k0, hk, kz0, kz1, kz2⟩ := info_parts info20
  have HX := hid hx
  have HY := hid hy
  clear hx hy
  have tx4 := taa4 (.slice (some ⟨g, 0, none⟩) a.l.length cap); unfold Ta at tx4
  have tx3 := taa3 (.slice (some ⟨g, 0, none⟩) a.l.length cap); unfold Ta at tx3
  have tx74 := taa74 (.slice (some ⟨g, 0, none⟩) a.l.length cap); unfold Ta at tx74
  have tx75 := taa75 (.slice (some ⟨g, 0, none⟩) a.l.length cap); unfold Ta at tx75
  have tx21 := taa21 (.slice (some ⟨g, 0, none⟩) a.l.length cap); unfold Ta at tx21
  have tx2 := taa2 (.slice (some ⟨g, 0, none⟩) a.l.length cap); unfold Ta at tx2
  have tx76 := taa76 (.slice (some ⟨g, 0, none⟩) a.l.length cap); unfold Ta at tx76
  have tx5 := taa5 (.slice (some ⟨g, 0, none⟩) a.l.length cap); unfold Ta at tx5
  have tx77 := taa77 (.slice (some ⟨g, 0, none⟩) a.l.length cap); unfold Ta at tx77
  have tx78 := taa78 (.slice (some ⟨g, 0, none⟩) a.l.length cap); unfold Ta at tx78
  have tx79 := taa79 (.slice (some ⟨g, 0, none⟩) a.l.length cap); unfold Ta at tx79
  have tx82 := taa82 (.slice (some ⟨g, 0, none⟩) a.l.length cap); unfold Ta at tx82
  have tx22 := taa22 (.slice (some ⟨g, 0, none⟩) a.l.length cap); unfold Ta at tx22
  have tx9 := taa9 (.slice (some ⟨g, 0, none⟩) a.l.length cap); unfold Ta at tx9
  have tx52 := taa52 (.slice (some ⟨g, 0, none⟩) a.l.length cap); unfold Ta at tx52
  have tx72 := taa72 (.slice (some ⟨g, 0, none⟩) a.l.length cap); unfold Ta at tx72
  have ty52 := taa52 (.slice (some ⟨g', 0, none⟩) b.l.length cap'); unfold Ta at ty52
  go_enter Try.func44, Try.ntmps44
  go_wp2_with (fail)
  go_loopw [29, 30, 210] (fun c ii k wr => c = .slice none 0 0 ∧ ii = .int .i64 (-1) ∧ k = .int .i64 0 ∧ w = wr) (fun _ _ k _ => 0)
  case atStart => exact ⟨rfl, rfl, rfl, rfl⟩
  case round =>
    obtain ⟨rfl, rfl, rfl, rfl⟩ := hrel
    go_wp2_with (fail)
    go_loopw [8, 238] (fun d k wr => ∃ (i : Nat) (vs : List Value) (ps : List (List Step)), k = .int .i64 (i : Int) ∧ i ≤ a.l.length ∧ i ≤ b.l.length ∧ Hid (Outer w.heap.size n a b w wr d i vs ps)) (fun _ k _ => a.l.length - (intOf k).toNat)
    case atStart => exact ⟨0, [], [], rfl, Nat.zero_le _, Nat.zero_le _, hid ⟨by simp [preArr], by simp, .nil, ⟨rfl, .inl ⟨rfl, rfl⟩⟩, Below.refl _ _⟩⟩
    case round =>
      obtain ⟨i, vs, ps, rfl, hia, hib, OO⟩ := hrel
      by_cases hlt : i < a.l.length
      · have cx := (OO.out.bel.cell (p := ⟨g, i, none⟩) (World.block_lt_of_cell? w _ (HX.out i hlt))).trans (HX.out i hlt)
        by_cases hlt' : i < b.l.length
        · have cy := (OO.out.bel.cell (p := ⟨g', i, none⟩) (World.block_lt_of_cell? w _ (HY.out i hlt'))).trans (HY.out i hlt')
          have IH := hid (ih i hlt hlt' wr OO.out.bel)
          clear ih
          go_wp2_with (first
            | (go_at_call 54; refine (ignoreIndex_none _ _).mono ?_; rintro e w2 ⟨rfl, hw⟩; rw [hw]; clear hw w2)
            | (go_at_call 44; refine IH.out.mono ?_; rintro e w2 ⟨dsv, us, qs, rfl, hperm, hpaths, hb2⟩; have QP := hid hperm; have PA := hid hpaths.at_; have BB := hid hb2; have OD := hid hpaths.own; obtain ⟨ad, dcap, rfl, had⟩ := row53 hpaths.own; have AD := hid had; clear hperm hpaths hb2 had))
          have hui := hid PA.out.len
          have hn0 : Hid (w.heap.size ≤ wr.heap.size) := hid OO.out.bel.size
          have IN0 := hid (OO.out.inner (.idx i) hn0.out BB.out PA.out OD.out)
          go_loopw [8, 280] (fun d8 k wq => ∃ (j : Nat) (vs' : List Value), k = .int .i64 (j : Int) ∧ j ≤ us.length ∧ Hid (Inner w.heap.size w wq (.idx i) us qs (.slice ad us.length dcap) d8 ps j vs')) (fun _ k _ => us.length - (intOf k).toNat)
          case atStart => exact ⟨0, vs, rfl, Nat.zero_le _, IN0⟩
          case round =>
            obtain ⟨j, vs', rfl, hju, IN⟩ := hrel
            by_cases hjl : j < us.length
            · have hjq : j < qs.length := by rw [← hui.out]; exact hjl
              have hu3 : us.length ≤ 300 := by rw [hui.out, QP.out.length_eq]; exact hlen i hlt hlt'
              have hvl : Hid (vs'.length + 1 ≤ 100000) := hid (by have := IN.out.len; have := OO.out.small; omega)
              obtain ⟨gd, rfl⟩ : ∃ gd, ad = some ⟨gd, 0, none⟩ := by
                rcases AD.out with h0 | h0
                · omega
                · exact h0
              have hcd : wr.cell? ⟨gd, j, none⟩ = some us[j] := (IN.out.src.cellAt j (by omega)).trans (List.getElem?_eq_getElem hjl)
              by_cases hq : qs[j] = []
              · obtain ⟨gj, capj, hv, c0, f0, hM⟩ := IN.out.wild hjq hjl hq
                have MM := hid hM
                have HV := hid hv
                have HQ := hid hq
                rw [hv] at hcd
                clear hM hv hq
                go_wp2_with (first
                  | (at_builtin; go_loud (refine wpList_append_own_at _ rfl (.tmp 302) (.tmp 304) 51 rfl w.heap.size 53 i0 (.slice none 0 0) 1 24 Try.underlying51 hi hz0 hz1 hz2 rfl (by decide) u8 vs'.length vs' rfl (MM.out.own.alloc _) _ 1 1 [.slice (some ⟨gj, 0, none⟩) 1 capj] rfl rfl (by have := cell_one_new (wr.setCell ⟨gj, 0, none⟩ (.iface 3 (.int .i64 (i : Int)))) (.slice (some ⟨gj, 0, none⟩) 1 capj) 53; simpa using this) (slice_one _ _ _) (le_maxLen (by have := hvl.out; omega)) (by have := hvl.out; omega) (by have := MM.out.low; simp at this ⊢; omega) ?_); intro v' w3 hown hgrow hnil hat; have OW := hid hown; have GR := hid hgrow; have AT := hid hat; clear hown hgrow hnil hat))
                go_roundw
                have bel : Below w.heap.size (wr.setCell ⟨gj, 0, none⟩ (.iface 3 (.int .i64 (i : Int)))) w3 := ((Below.refl _ _).alloc (by have := MM.out.low; exact this) _).grown GR.out (by have := MM.out.low; simp at this ⊢; omega) (own_ge MM.out.own)
                have OW' : w3.ownsRow w.heap.size 53 1 v' (vs'.length + 1) (vs' ++ [us[j]]) := by rw [HV.out]; exact OW.out
                refine ⟨j + 1, vs' ++ [us[j]], by simp, by omega, hid (MM.out.next hjq HQ.out.symm hjl (.cells #[.slice (some ⟨gj, 0, none⟩) 1 capj] 53) OW' GR.out (by simpa using AT.out) bel)⟩
                simp only [intOf]; omega
              · obtain ⟨gj, capj, hv, hgl, hcells⟩ := IN.out.steps hjq hjl hq
                have HQ := hid hq
                have HP : Hid ((qs[j]).length ≤ 300) := hid (hpl i hlt hlt' _ (QP.out.mem_iff.1 (List.getElem_mem hjq)))
                have HC : Hid (∀ t u, ((qs[j]).map stepVal)[t]? = some u → (wr.alloc (.cells #[.iface 3 (.int .i64 (i : Int))] 20)).cell? ((⟨gj, 0, none⟩ : Addr).add t) = some u) := hid (fun t u htu => by
                  have hadd : (⟨gj, 0, none⟩ : Addr).add t = ⟨gj, t, none⟩ := by unfold Addr.add; split <;> simp_all
                  rw [hadd]
                  exact cell_move (hcells t u htu) (Below.heap_alloc _ _ _ hgl))
                rw [hv] at hcd
                by_cases h1 : (qs[j]).length = 1
                · obtain ⟨s1, hs1⟩ : ∃ s1, qs[j] = [s1] := List.length_eq_one_iff.1 h1
                  have c0 : wr.cell? ⟨gj, 0, none⟩ = some (stepVal s1) := hcells 0 _ (by rw [hs1]; rfl)
                  have HN := hid h1
                  rw [h1] at hcd
                  clear hv hcells hq hs1 h1
                  cases s1 <;> unfold stepVal at c0
                  all_goals
                    go_wp2_with (first
                      | (at_builtin; go_loud (refine wpList_append_own_at _ rfl (.tmp 299) (.tmp 300) 53 rfl wr.heap.size 20 k0 .nilIface 1 16 Try.underlying53 hk kz0 kz1 kz2 rfl (by decide) (.slice (some ⟨wr.heap.size, 0, none⟩) 1 1) 1 [.iface 3 (.int .i64 (i : Int))] rfl (own_new20 _ _) ⟨gj, 0, none⟩ 1 capj ((qs[j]).map stepVal) rfl (by simp; exact HN.out) HC.out (steps_one _) (le_maxLen (by have := HP.out; omega)) (by have := HP.out; omega) (by simp) ?_); intro v1 w3 hown hgrow hnil hat; obtain ⟨g1, cap1, rfl⟩ := row20 hown (by omega); have MM := hid (IN.out.longer hjq hjl HQ.out (by rw [HN.out]; exact hown) hgrow); clear hown hgrow hnil hat)
                      | (at_builtin; go_loud (refine wpList_append_own_at _ rfl (.tmp 302) (.tmp 304) 51 rfl w.heap.size 53 i0 (.slice none 0 0) 1 24 Try.underlying51 hi hz0 hz1 hz2 rfl (by decide) u8 vs'.length vs' rfl (MM.out.own.alloc _) _ 1 1 [.slice (some ⟨g1, 0, none⟩) (1 + 1) cap1] rfl rfl (cell_one_new w3 _ 53) (slice_one _ _ _) (le_maxLen (by have := hvl.out; omega)) (by have := hvl.out; omega) (by have := MM.out.low; simp; omega) ?_); intro v2 w4 hown hgrow hnil hat; have OW := hid hown; have GR := hid hgrow; have AT := hid hat; clear hown hgrow hnil hat))
                    go_roundw
                    have bel : Below w.heap.size w3 w4 := ((Below.refl _ _).alloc MM.out.low _).grown GR.out (by have := MM.out.low; simp; omega) (own_ge MM.out.own)
                    refine ⟨j + 1, vs' ++ [.slice (some ⟨g1, 0, none⟩) (1 + 1) cap1], by simp, by omega, hid (MM.out.next hjq rfl hjl (.cells #[.slice (some ⟨g1, 0, none⟩) (1 + 1) cap1] 53) OW.out GR.out (by simpa using AT.out) bel)⟩
                    simp only [intOf]; omega

                · have t1 : ((((qs[j]).length : Nat) : Int) == 1) = false := by rw [beq_eq_false_iff_ne]; omega
                  have HN : Hid ((qs[j]).length = (qs[j]).length) := hid rfl
                  clear hv hcells hq h1
                  go_wp2_with (first
                    | (at_builtin; go_loud (refine wpList_append_own_at _ rfl (.tmp 299) (.tmp 300) 53 rfl wr.heap.size 20 k0 .nilIface 1 16 Try.underlying53 hk kz0 kz1 kz2 rfl (by decide) (.slice (some ⟨wr.heap.size, 0, none⟩) 1 1) 1 [.iface 3 (.int .i64 (i : Int))] rfl (own_new20 _ _) ⟨gj, 0, none⟩ (qs[j]).length capj ((qs[j]).map stepVal) rfl (by simp) HC.out (steps_one _) (le_maxLen (by have := HP.out; omega)) (by have := HP.out; omega) (by simp) ?_); intro v1 w3 hown hgrow hnil hat; obtain ⟨g1, cap1, rfl⟩ := row20 hown (by omega); have MM := hid (IN.out.longer hjq hjl HQ.out hown hgrow); clear hown hgrow hnil hat)
                    | (at_builtin; go_loud (refine wpList_append_own_at _ rfl (.tmp 302) (.tmp 304) 51 rfl w.heap.size 53 i0 (.slice none 0 0) 1 24 Try.underlying51 hi hz0 hz1 hz2 rfl (by decide) u8 vs'.length vs' rfl (MM.out.own.alloc _) _ 1 1 [.slice (some ⟨g1, 0, none⟩) (1 + (qs[j]).length) cap1] rfl rfl (cell_one_new w3 _ 53) (slice_one _ _ _) (le_maxLen (by have := hvl.out; omega)) (by have := hvl.out; omega) (by have := MM.out.low; simp; omega) ?_); intro v2 w4 hown hgrow hnil hat; have OW := hid hown; have GR := hid hgrow; have AT := hid hat; clear hown hgrow hnil hat))
                  go_roundw
                  have bel : Below w.heap.size w3 w4 := ((Below.refl _ _).alloc MM.out.low _).grown GR.out (by have := MM.out.low; simp; omega) (own_ge MM.out.own)
                  refine ⟨j + 1, vs' ++ [.slice (some ⟨g1, 0, none⟩) (1 + (qs[j]).length) cap1], by simp, by omega, hid (MM.out.next hjq rfl hjl (.cells #[.slice (some ⟨g1, 0, none⟩) (1 + (qs[j]).length) cap1] 53) OW.out GR.out (by simpa using AT.out) bel)⟩
                  simp only [intOf]; omega

            · go_wp2_with (fail)
              go_roundw
              have ej : j = us.length := by omega
              have hIN := IN.out
              rw [ej] at hIN
              have hqp : qs.Perm (Df n (a.l.getD i nullV) (b.l.getD i nullV)) := by
                rw [getD_len _ _ _ hlt, getD_len _ _ _ hlt']
                exact QP.out
              refine ⟨i + 1, vs', ps ++ qs.map (.idx i :: ·), by simp, by omega, by omega, hid (hIN.outer hui.out OO.out.perm OO.out.small hqp (by rw [QP.out.length_eq]; exact hlen i hlt hlt'))⟩
              simp only [intOf]; omega
        · go_wp2_with (first
            | (go_at_call 54; refine (ignoreIndex_none _ _).mono ?_; rintro e w2 ⟨rfl, hw⟩; rw [hw]; clear hw w2)
            | (at_builtin; go_loud (refine wpList_append_own_at _ rfl (.tmp 250) (.tmp 254) 51 rfl w.heap.size 53 i0 (.slice none 0 0) 1 24 Try.underlying51 hi hz0 hz1 hz2 rfl (by decide) u8 vs.length vs rfl ((OO.out.own.alloc _).alloc _) _ 1 1 [.slice (some ⟨wr.heap.size, 0, none⟩) 1 1] rfl rfl (by have := cell_one_new (wr.alloc (.cells #[.iface 3 (.int .i64 (i : Int))] 20)) (.slice (some ⟨wr.heap.size, 0, none⟩) 1 1) 53; simpa using this) (slice_one _ _ _) (le_maxLen (by have := OO.out.at_.len; have := OO.out.small; omega)) (by have := OO.out.at_.len; have := OO.out.small; omega) (by have := OO.out.bel.size; simp; omega) ?_); intro v' w3 hown hgrow hnil hat; have OW := hid hown; have GR := hid hgrow; clear hown hgrow hnil hat))
          go_ret
          have bel : Below w.heap.size w w3 := ((OO.out.bel.alloc OO.out.bel.size _).alloc (by have := OO.out.bel.size; simp; omega) _).grown GR.out (by have := OO.out.bel.size; simp; omega) (own_ge OO.out.own)
          have em : min a.l.length b.l.length = i := by omega
          have en : ¬ a.l.length = b.l.length := by omega
          refine ⟨_, vs ++ [.slice (some ⟨wr.heap.size, 0, none⟩) 1 1], ps ++ [[.idx i]], rfl, ?_, PathsAt.paths (OO.out.at_.add (d8' := u8) (.idx i) _ OO.out.own OO.out.bel.size GR.out) (by simpa using OW.out), bel⟩
          rw [hR.out, em, if_neg en]
          exact OO.out.perm.append (List.Perm.refl _)
      · by_cases he : a.l.length = b.l.length
        · have t1 : ((a.l.length : Int) == (b.l.length : Int)) = true := by rw [beq_iff_eq]; omega
          have t2 : (a.l.length == b.l.length) = true := by rw [beq_iff_eq]; omega
          have t3 : decide (a.l.length = b.l.length) = true := by simpa using he
          have t4 : ((a.l.length : Int) != (b.l.length : Int)) = false := by rw [bne, t1]; rfl
          have HE := hid he
          clear he
          go_wp2_with (fail)
          go_ret
          have em : min a.l.length b.l.length = i := by have := HE.out; omega
          refine ⟨_, vs, ps, rfl, ?_, PathsAt.paths OO.out.at_ OO.out.own, OO.out.bel⟩
          rw [hR.out, em, if_pos HE.out, List.append_nil]
          exact OO.out.perm
        · have t1 : ((a.l.length : Int) == (b.l.length : Int)) = false := by rw [beq_eq_false_iff_ne]; omega
          have t2 : (a.l.length == b.l.length) = false := by rw [beq_eq_false_iff_ne]; omega
          have t3 : decide (a.l.length = b.l.length) = false := by simpa using he
          have t4 : ((a.l.length : Int) != (b.l.length : Int)) = true := by rw [bne, t1]; rfl
          have HE := hid he
          clear he
          go_wp2_with (first
            | (go_at_call 54; refine (ignoreIndex_none _ _).mono ?_; rintro e w2 ⟨rfl, hw⟩; rw [hw]; clear hw w2)
            | (at_builtin; go_loud (refine wpList_append_own_at _ rfl (.tmp 321) (.tmp 326) 51 rfl w.heap.size 53 i0 (.slice none 0 0) 1 24 Try.underlying51 hi hz0 hz1 hz2 rfl (by decide) u8 vs.length vs rfl ((OO.out.own.alloc _).alloc _) _ 1 1 [.slice (some ⟨wr.heap.size, 0, none⟩) 1 1] rfl rfl (by have := cell_one_new (wr.alloc (.cells #[.iface 3 (.int .i64 (a.l.length : Int))] 20)) (.slice (some ⟨wr.heap.size, 0, none⟩) 1 1) 53; simpa using this) (slice_one _ _ _) (le_maxLen (by have := OO.out.at_.len; have := OO.out.small; omega)) (by have := OO.out.at_.len; have := OO.out.small; omega) (by have := OO.out.bel.size; simp; omega) ?_); intro v' w3 hown hgrow hnil hat; have OW := hid hown; have GR := hid hgrow; clear hown hgrow hnil hat))
          go_ret
          have bel : Below w.heap.size w w3 := ((OO.out.bel.alloc OO.out.bel.size _).alloc (by have := OO.out.bel.size; simp; omega) _).grown GR.out (by have := OO.out.bel.size; simp; omega) (own_ge OO.out.own)
          have em : min a.l.length b.l.length = a.l.length := by omega
          have ei : i = a.l.length := by omega
          refine ⟨_, vs ++ [.slice (some ⟨wr.heap.size, 0, none⟩) 1 1], ps ++ [[.idx a.l.length]], rfl, ?_, PathsAt.paths (OO.out.at_.add (d8' := u8) (.idx a.l.length) _ OO.out.own OO.out.bel.size GR.out) (by simpa using OW.out), bel⟩
          rw [hR.out, em, if_neg HE.out, ← ei]
          exact OO.out.perm.append (List.Perm.refl _)
end Go.Proofs.Ytclnpjelgdoloaa
