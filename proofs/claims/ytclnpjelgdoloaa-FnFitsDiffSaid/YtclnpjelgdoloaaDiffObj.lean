/- alt.diff at two objects. -/
import Derived.Test.YtclnpjelgdoloaaColl
import Derived.Test.YtclnpjelgdoloaaDiffArr
namespace Go.Proofs.Ytclnpjelgdoloaa
open Go.RowKit Go.Maps
set_option linter.unusedVariables false

theorem underlying93 : Try.prog.underlying 93 = some (.map 9 4) := by kernel_rfl

set_option maxRecDepth 100000 in
set_option maxHeartbeats 4000000 in
theorem diff_obj (n : Nat) (a b : V) (m1 m2 n1 n2 : Nat) (D1 D2 : DataW Value) (xs ys : Nat → Value) (w : World) (hm1 : w.ownsMap Try.prog 9 heldElem m1 n1 D1) (hm2 : w.ownsMap Try.prog 9 heldElem m2 n2 D2) (hn1 : n1 ≤ 150) (hn2 : n2 ≤ 150)
    (hD1 : MapIs D1 a.keys xs) (hD2 : MapIs D2 b.keys ys) (hda : a.keys.Nodup) (hdb : b.keys.Nodup)
    (ih : ∀ k, k ∈ bothKeys a b → ∀ x y, D1.atKey (keyLit k) (.held .nilIface) = .held x → D2.atKey (keyLit k) (.held .nilIface) = .held y → ∀ (w' : World), Below w.heap.size w w' → Calls Try.prog 44 #[x, y, .bool false, .slice none 0 0] w' (PathsPost (Df n (a.look k) (b.look k)) w'))
    (hlen : ∀ k, k ∈ bothKeys a b → (Df n (a.look k) (b.look k)).length ≤ 300)
    (hpl : ∀ k, k ∈ bothKeys a b → ∀ p ∈ Df n (a.look k) (b.look k), p.length ≤ 300)
    (R : List (List Step)) (hR : Hid (R = (bothKeys a b).flatMap (fun k => (Df n (a.look k) (b.look k)).map (.key k :: ·)))) :
    Calls Try.prog 44 #[.iface 72 (.map (some m1)), .iface 72 (.map (some m2)), .bool false, .slice none 0 0] w (PathsPost R w) := by
  obtain ⟨i0, hi, hz0, hz1, hz2⟩ := info_parts info53
  obtain ⟨k0, hk, kz0, kz1, kz2⟩ := info_parts info20
  have H1 := hid hm1
  have H2 := hid hm2
  have L1 := hid hm1.lt
  have L2 := hid hm2.lt
  have P1 := hid hD1
  have P2 := hid hD2
  have N1 := hid hda
  have N2 := hid hdb
  have IH := hid ih
  have HL := hid hlen
  have HPL := hid hpl
  clear hm1 hm2 hD1 hD2 hda hdb ih hlen hpl
  have hmm := @run_makeMap Try.prog
  have e1 : (w.alloc (.map #[] 0)).heap.size = w.heap.size + 1 := by simp
  have tx4 := tao4 (.map (some m1)); unfold Ta at tx4
  have tx3 := tao3 (.map (some m1)); unfold Ta at tx3
  have tx74 := tao74 (.map (some m1)); unfold Ta at tx74
  have tx75 := tao75 (.map (some m1)); unfold Ta at tx75
  have tx21 := tao21 (.map (some m1)); unfold Ta at tx21
  have tx2 := tao2 (.map (some m1)); unfold Ta at tx2
  have tx76 := tao76 (.map (some m1)); unfold Ta at tx76
  have tx5 := tao5 (.map (some m1)); unfold Ta at tx5
  have tx77 := tao77 (.map (some m1)); unfold Ta at tx77
  have tx78 := tao78 (.map (some m1)); unfold Ta at tx78
  have tx79 := tao79 (.map (some m1)); unfold Ta at tx79
  have tx82 := tao82 (.map (some m1)); unfold Ta at tx82
  have tx22 := tao22 (.map (some m1)); unfold Ta at tx22
  have tx9 := tao9 (.map (some m1)); unfold Ta at tx9
  have tx52 := tao52 (.map (some m1)); unfold Ta at tx52
  have tx72 := tao72 (.map (some m1)); unfold Ta at tx72
  have ty72 := tao72 (.map (some m2)); unfold Ta at ty72
  go_enter Try.func44, Try.ntmps44
  go_wp2_with (first
    | (at_range; go_loud (refine wpList_range_own _ rfl _ 72 rfl 9 20 K9 Try.underlying72 heldElem m1 n1 D1 rfl (H1.out.alloc _) ?_); intro w0 hrg0 hg0 hs0))
  go_frame
  rw [e1] at hrg0 hs0 ⊢
  have G0 : Hid (Gather (fun _ => False) a.keys 150 m1 (w.heap.size + 1) n1 D1 w w0 w.heap.size (has D1) (Maps.size D1) 0 (.map [])) :=
    hid ⟨hrg0, (World.ownsMap_made _ _ _ _).kept hg0 (by simp), by have := H1.out.size_le; omega, Coll.start tidy_empty (fun k => by simp [has]) P1.out, ((Below.refl _ _).alloc (Nat.le_refl _) _).grown hg0 (by simp) (fun j hj => by cases hj)⟩
  clear hrg0 hg0 hs0 e1
  go_loopw [44] (fun _ wr => ∃ (left : Lit → Bool) (cnt nk : Nat) (DK : DataW Value), Hid (Gather (fun _ => False) a.keys 150 m1 (w.heap.size + 1) n1 D1 w wr w.heap.size left cnt nk DK)) (fun _ wr => wr.rangeLeft m1 (w.heap.size + 1))
  case atStart => exact ⟨_, _, _, _, G0⟩
  case round =>
    obtain ⟨left, cnt, nk, DK, GG⟩ := hrel
    go_wp2_with (first
      | (at_next; go_loud (refine wpList_next_ranges _ rfl _ rfl 9 K9 heldElem Value.string id (fun key kl h => by obtain ⟨x, h1, _⟩ := keyOf9_inv h; exact ⟨x, h1⟩) (fun v y _ => ⟨v, rfl⟩) m1 (w.heap.size + 1) n1 D1 left cnt rfl GG.out.rg ?_ ?_)))
    · intro hc0 hl0
      have C1 := hid (GG.out.coll.fin hl0)
      have B1 := hid GG.out.bel
      have O1 := hid GG.out.own
      have T1 := hid GG.out.coll.1
      have K1 := hid GG.out.le
      obtain ⟨wo, rfl⟩ : ∃ wo : World, wo = wr := ⟨_, rfl⟩
      have Z1 := hid GG.out.rg.lt
      clear hl0 hc0
      go_wp2_with (first
        | (at_range; go_loud (refine wpList_range_own _ rfl _ 72 rfl 9 20 K9 Try.underlying72 heldElem m2 n2 D2 rfl (ownsMap_below H2.out B1.out) ?_); intro w0 hrg0 hg0 hs0))
      go_frame
      have G1 : Hid (Gather (fun k => k ∈ a.keys) b.keys 300 m2 wo.heap.size n2 D2 w w0 w.heap.size (has D2) (Maps.size D2) nk DK) :=
        hid ⟨hrg0, O1.out.kept hg0 (by simp), by have := H2.out.size_le; have := K1.out; omega, Coll.start T1.out (fun k => by have := C1.out k; simpa using this) P2.out, B1.out.grown hg0 B1.out.size (fun j hj => by cases hj)⟩
      clear hrg0 hg0 hs0
      have ZB := hid B1.out.size
      go_loopw [45] (fun _ wr => ∃ (left : Lit → Bool) (cnt nk : Nat) (DK : DataW Value), Hid (Gather (fun k => k ∈ a.keys) b.keys 300 m2 wo.heap.size n2 D2 w wr w.heap.size left cnt nk DK)) (fun _ wr => wr.rangeLeft m2 wo.heap.size)
      case atStart => exact ⟨_, _, _, _, G1⟩
      case round =>
        clear G1 K1 T1 O1 C1 DK nk GG cnt left
        obtain ⟨left, cnt, nk, DK, GG⟩ := hrel
        go_wp2_with (first
          | (at_next; go_loud (refine wpList_next_ranges _ rfl _ rfl 9 K9 heldElem Value.string id (fun key kl h => by obtain ⟨x, h1, _⟩ := keyOf9_inv h; exact ⟨x, h1⟩) (fun v y _ => ⟨v, rfl⟩) m2 wo.heap.size n2 D2 left cnt rfl GG.out.rg ?_ ?_)))
        · intro hc0 hl0
          have C2 := hid (GG.out.coll.fin hl0)
          have B2 := hid GG.out.bel
          have O2 := hid GG.out.own
          have K2 : Hid (nk ≤ 300) := hid (by have := GG.out.le; omega)
          obtain ⟨wp, rfl⟩ : ∃ wp : World, wp = wr := ⟨_, rfl⟩
          clear hl0 hc0 GG cnt
          go_wp2_with (first
            | (at_range; go_loud (refine wpList_range_own _ rfl _ 93 rfl 9 4 K9 underlying93 heldElem w.heap.size nk DK rfl O2.out ?_); intro w3 hrg0 hg0 hs0))
          go_frame
          obtain ⟨N0, hN0⟩ : ∃ N0, N0 = w3.heap.size := ⟨_, rfl⟩
          have HN0 := hid hN0
          have S3 : Hid (N0 = wp.heap.size + 1) := hid (by rw [hN0, hs0])
          have SZ : Hid (w.heap.size < wp.heap.size) := hid (by have := O2.out.lt; exact this)
          have OO0 : Hid (OuterO N0 n a b w.heap.size wp.heap.size nk DK w w3 (.slice none 0 0) (has DK) (Maps.size DK) [] [] []) := hid ⟨hrg0, .nil, fun k => by
              have h1 := C2.out k
              rw [← mem_bothKeys] at h1
              simp only [List.not_mem_nil, false_iff, not_and, Bool.not_eq_false]
              exact h1.2, by simpa using O2.out.size_le, by simp, by simp, .nil, ⟨rfl, .inl ⟨rfl, rfl⟩⟩, B2.out.grown hg0 B2.out.size (fun j hj => by cases hj), by rw [hN0]; exact Nat.le_refl _⟩
          clear hrg0 hg0 hs0 hN0
          go_loopw [8] (fun d wr => ∃ (left : Lit → Bool) (cnt : Nat) (vs : List Value) (ps : List (List Step)) (done : List ByteArray), Hid (OuterO N0 n a b w.heap.size wp.heap.size nk DK w wr d left cnt vs ps done)) (fun _ wr => wr.rangeLeft w.heap.size wp.heap.size)
          case atStart => exact ⟨_, _, _, _, _, OO0⟩
          case round =>
            clear OO0
            obtain ⟨left, cnt, vs, ps, done, OO⟩ := hrel
            obtain ⟨wr', rfl⟩ : ∃ wr' : World, wr' = wr := ⟨_, rfl⟩
            go_wp2_with (first
              | (at_next; go_loud (refine wpList_next_ranges _ rfl _ rfl 9 K9 heldElem Value.string id (fun key kl h => by obtain ⟨x, h1, _⟩ := keyOf9_inv h; exact ⟨x, h1⟩) (fun v y _ => ⟨v, rfl⟩) w.heap.size wp.heap.size nk DK left cnt rfl OO.out.rg ?_ ?_)))
            · intro hc0 hl0
              have HP := hid (OO.out.fin hl0 N1.out N2.out)
              clear hl0 hc0
              go_wp2_with (fail)
              go_ret
              have hle : w.heap.size ≤ N0 := by have := S3.out; have := SZ.out; omega
              refine ⟨_, vs, ps, rfl, ?_, PathsAt.paths (OO.out.at_.mono hle) (own_mono OO.out.own hle), OO.out.bel⟩
              rw [hR.out]
              exact HP.out
            · intro x c kl y1 y2 w1 cnt1 hkey hlk hv hat hrg1 hlt hg1 hs1 hen
              obtain ⟨x', hx', rfl⟩ := keyOf9_inv hkey
              cases hx'
              have HXB : Hid (x ∈ bothKeys a b) := hid ((mem_bothKeys a b x).2 ((C2.out x).1 (has_true_of_atKey hat)))
              have ST := hid (OO.out.stepped hg1 (by have := S3.out; omega) (by have := SZ.out; omega))
              obtain ⟨v1, p1, hl1, he1⟩ := (ownsMap_below H1.out ST.out.2.2.1).lookup K9 Try.underlying72 (z := .nilIface) (by kernel_rfl) (zd := .held .nilIface) (zp := []) rfl hkey
              obtain ⟨v2, p2, hl2, he2⟩ := (ownsMap_below H2.out ST.out.2.2.1).lookup K9 Try.underlying72 (z := .nilIface) (by kernel_rfl) (zd := .held .nilIface) (zp := []) rfl hkey
              have E1 : Hid (D1.atKey (keyLit x) (.held .nilIface) = .held v1) := hid (by simp only [heldElem, Option.some.injEq, Prod.mk.injEq] at he1; exact he1.1.symm)
              have E2 : Hid (D2.atKey (keyLit x) (.held .nilIface) = .held v2) := hid (by simp only [heldElem, Option.some.injEq, Prod.mk.injEq] at he2; exact he2.1.symm)
              have HK := hid hkey
              have HR1 := hid hrg1
              have HC := hid hlt
              have HLK := hid hlk
              have IHx := hid (IH.out x HXB.out v1 v2 E1.out E2.out w1 ST.out.2.2.1)
              clear hkey hrg1 hg1 hlt hlk hv hat hs1 he1 he2
              go_wp2_with (first
                | (go_at_call 55; refine (ignoreKey_none _ _).mono ?_; rintro e w2 ⟨rfl, hw⟩; rw [hw]; clear hw w2)
                | (go_at_call 44; go_loud (refine IHx.out.mono ?_); rintro e w2 ⟨dsv, us, qs, rfl, hperm, hpaths, hb2⟩; have QP := hid hperm; have PA := hid hpaths.at_; have BB := hid hb2; have OD := hid hpaths.own; obtain ⟨ad, dcap, rfl, had⟩ := row53 hpaths.own; have AD := hid had; clear hperm hpaths hb2 had))
              have hui := hid PA.out.len
              have SM : Hid (ps.length ≤ 90000) := hid (by have h1 := OO.out.small; have h2 := OO.out.cn; have h3 := K2.out; have : done.length * 300 ≤ 300 * 300 := Nat.mul_le_mul_right _ (by omega); omega)
              have IN0 := hid (inner_start (n0 := N0) (w := w1) ST.out.1 ST.out.2.1 (Below.refl _ w1) (.key x) ST.out.2.2.2 BB.out PA.out OD.out)
              go_loopw [8, 420] (fun d8 k wq => ∃ (j : Nat) (vs' : List Value), k = .int .i64 (j : Int) ∧ j ≤ us.length ∧ Hid (Inner N0 w1 wq (.key x) us qs (.slice ad us.length dcap) d8 ps j vs')) (fun _ k _ => us.length - (intOf k).toNat)
              case atStart => exact ⟨0, vs, rfl, Nat.zero_le _, IN0⟩
              case round =>
                obtain ⟨j, vs', rfl, hju, IN⟩ := hrel
                by_cases hjl : j < us.length
                · have hjq : j < qs.length := by rw [← hui.out]; exact hjl
                  have hu3 : us.length ≤ 300 := by rw [hui.out, QP.out.length_eq]; exact HL.out x HXB.out
                  have hvl : Hid (vs'.length + 1 ≤ 100000) := hid (by have := IN.out.len; have := SM.out; omega)
                  obtain ⟨gd, rfl⟩ : ∃ gd, ad = some ⟨gd, 0, none⟩ := by
                    rcases AD.out with h0 | h0
                    · omega
                    · exact h0
                  have hcd : wr.cell? ⟨gd, j, none⟩ = some us[j] := (IN.out.src.cellAt j (by omega)).trans (List.getElem?_eq_getElem hjl)
                  by_cases hq : qs[j] = []
                  · obtain ⟨gj, capj, hv, c0, f0, hM⟩ := IN.out.wild hjq hjl hq
                    have MM := hid hM
                    have HV := hid hv
                    have HQ := hid hq
                    rw [hv] at hcd
                    clear hM hv hq
                    go_wp2_with (first
                      | (at_builtin; go_loud (refine wpList_append_own_at _ rfl (.tmp 442) (.tmp 444) 51 rfl N0 53 i0 (.slice none 0 0) 1 24 Try.underlying51 hi hz0 hz1 hz2 rfl (by decide) u8 vs'.length vs' rfl (MM.out.own.alloc _) _ 1 1 [.slice (some ⟨gj, 0, none⟩) 1 capj] rfl rfl (by have := cell_one_new (wr.setCell ⟨gj, 0, none⟩ (.iface 9 (.string x))) (.slice (some ⟨gj, 0, none⟩) 1 capj) 53; simpa using this) (slice_one _ _ _) (le_maxLen (by have := hvl.out; omega)) (by have := hvl.out; omega) (by have := MM.out.low; simp at this ⊢; omega) ?_); intro v' wA hown hgrow hnil hat; have OW := hid hown; have GR := hid hgrow; have AT := hid hat; clear hown hgrow hnil hat))
                    go_roundw
                    have bel : Below N0 (wr.setCell ⟨gj, 0, none⟩ (.iface 9 (.string x))) wA := ((Below.refl _ _).alloc (by have := MM.out.low; exact this) _).grown GR.out (by have := MM.out.low; simp at this ⊢; omega) (own_ge MM.out.own)
                    have OW' : wA.ownsRow N0 53 1 v' (vs'.length + 1) (vs' ++ [us[j]]) := by rw [HV.out]; exact OW.out
                    refine ⟨j + 1, vs' ++ [us[j]], by simp, by omega, hid (MM.out.next hjq HQ.out.symm hjl (.cells #[.slice (some ⟨gj, 0, none⟩) 1 capj] 53) OW' GR.out (by simpa using AT.out) bel)⟩
                    simp only [intOf]; omega
                  · obtain ⟨gj, capj, hv, hgl, hcells⟩ := IN.out.steps hjq hjl hq
                    have HQ := hid hq
                    have HP : Hid ((qs[j]).length ≤ 300) := hid (HPL.out x HXB.out _ (QP.out.mem_iff.1 (List.getElem_mem hjq)))
                    have HC : Hid (∀ t u, ((qs[j]).map stepVal)[t]? = some u → (wr.alloc (.cells #[.iface 9 (.string x)] 20)).cell? ((⟨gj, 0, none⟩ : Addr).add t) = some u) := hid (fun t u htu => by
                      have hadd : (⟨gj, 0, none⟩ : Addr).add t = ⟨gj, t, none⟩ := by unfold Addr.add; split <;> simp_all
                      rw [hadd]
                      exact cell_move (hcells t u htu) (Below.heap_alloc _ _ _ hgl))
                    rw [hv] at hcd
                    by_cases h1 : (qs[j]).length = 1
                    · obtain ⟨s1, hs1⟩ : ∃ s1, qs[j] = [s1] := List.length_eq_one_iff.1 h1
                      have c0 : wr.cell? ⟨gj, 0, none⟩ = some (stepVal s1) := hcells 0 _ (by rw [hs1]; rfl)
                      have HN := hid h1
                      rw [h1] at hcd
                      clear hv hcells hq hs1 h1
                      cases s1 <;> unfold stepVal at c0
                      all_goals
                        go_wp2_with (first
                          | (at_builtin; go_loud (refine wpList_append_own_at _ rfl (.tmp 439) (.tmp 440) 53 rfl wr.heap.size 20 k0 .nilIface 1 16 Try.underlying53 hk kz0 kz1 kz2 rfl (by decide) (.slice (some ⟨wr.heap.size, 0, none⟩) 1 1) 1 [.iface 9 (.string x)] rfl (own_new20 _ _) ⟨gj, 0, none⟩ 1 capj ((qs[j]).map stepVal) rfl (by simp; exact HN.out) HC.out (steps_one _) (le_maxLen (by have := HP.out; omega)) (by have := HP.out; omega) (by simp) ?_); intro v1 wA hown hgrow hnil hat; obtain ⟨g1, cap1, rfl⟩ := row20 hown (by omega); have MM := hid (IN.out.longer hjq hjl HQ.out (by rw [HN.out]; exact hown) hgrow); clear hown hgrow hnil hat)
                          | (at_builtin; go_loud (refine wpList_append_own_at _ rfl (.tmp 442) (.tmp 444) 51 rfl N0 53 i0 (.slice none 0 0) 1 24 Try.underlying51 hi hz0 hz1 hz2 rfl (by decide) u8 vs'.length vs' rfl (MM.out.own.alloc _) _ 1 1 [.slice (some ⟨g1, 0, none⟩) (1 + 1) cap1] rfl rfl (cell_one_new wA _ 53) (slice_one _ _ _) (le_maxLen (by have := hvl.out; omega)) (by have := hvl.out; omega) (by have := MM.out.low; simp; omega) ?_); intro v2 wB hown hgrow hnil hat; have OW := hid hown; have GR := hid hgrow; have AT := hid hat; clear hown hgrow hnil hat))
                        go_roundw
                        have bel : Below N0 wA wB := ((Below.refl _ _).alloc MM.out.low _).grown GR.out (by have := MM.out.low; simp; omega) (own_ge MM.out.own)
                        refine ⟨j + 1, vs' ++ [.slice (some ⟨g1, 0, none⟩) (1 + 1) cap1], by simp, by omega, hid (MM.out.next hjq rfl hjl (.cells #[.slice (some ⟨g1, 0, none⟩) (1 + 1) cap1] 53) OW.out GR.out (by simpa using AT.out) bel)⟩
                        simp only [intOf]; omega

                    · have t1 : ((((qs[j]).length : Nat) : Int) == 1) = false := by rw [beq_eq_false_iff_ne]; omega
                      have HN : Hid ((qs[j]).length = (qs[j]).length) := hid rfl
                      clear hv hcells hq h1
                      go_wp2_with (first
                        | (at_builtin; go_loud (refine wpList_append_own_at _ rfl (.tmp 439) (.tmp 440) 53 rfl wr.heap.size 20 k0 .nilIface 1 16 Try.underlying53 hk kz0 kz1 kz2 rfl (by decide) (.slice (some ⟨wr.heap.size, 0, none⟩) 1 1) 1 [.iface 9 (.string x)] rfl (own_new20 _ _) ⟨gj, 0, none⟩ (qs[j]).length capj ((qs[j]).map stepVal) rfl (by simp) HC.out (steps_one _) (le_maxLen (by have := HP.out; omega)) (by have := HP.out; omega) (by simp) ?_); intro v1 wA hown hgrow hnil hat; obtain ⟨g1, cap1, rfl⟩ := row20 hown (by omega); have MM := hid (IN.out.longer hjq hjl HQ.out hown hgrow); clear hown hgrow hnil hat)
                        | (at_builtin; go_loud (refine wpList_append_own_at _ rfl (.tmp 442) (.tmp 444) 51 rfl N0 53 i0 (.slice none 0 0) 1 24 Try.underlying51 hi hz0 hz1 hz2 rfl (by decide) u8 vs'.length vs' rfl (MM.out.own.alloc _) _ 1 1 [.slice (some ⟨g1, 0, none⟩) (1 + (qs[j]).length) cap1] rfl rfl (cell_one_new wA _ 53) (slice_one _ _ _) (le_maxLen (by have := hvl.out; omega)) (by have := hvl.out; omega) (by have := MM.out.low; simp; omega) ?_); intro v2 wB hown hgrow hnil hat; have OW := hid hown; have GR := hid hgrow; have AT := hid hat; clear hown hgrow hnil hat))
                      go_roundw
                      have bel : Below N0 wA wB := ((Below.refl _ _).alloc MM.out.low _).grown GR.out (by have := MM.out.low; simp; omega) (own_ge MM.out.own)
                      refine ⟨j + 1, vs' ++ [.slice (some ⟨g1, 0, none⟩) (1 + (qs[j]).length) cap1], by simp, by omega, hid (MM.out.next hjq rfl hjl (.cells #[.slice (some ⟨g1, 0, none⟩) (1 + (qs[j]).length) cap1] 53) OW.out GR.out (by simpa using AT.out) bel)⟩
                      simp only [intOf]; omega

                · go_wp2_with (fail)
                  have ej : j = us.length := by omega
                  have hIN := IN.out
                  rw [ej] at hIN
                  have hqp : qs.Perm (Df n (a.look x) (b.look x)) := QP.out
                  have OF := hid (Inner.outerO hIN OO.out hui.out HXB.out HLK.out HR1.out HC.out ST.out.2.2.1 (by have := S3.out; have := SZ.out; omega) (by have := S3.out; have := SZ.out; omega) (by have := S3.out; omega) hqp (by rw [QP.out.length_eq]; exact HL.out x HXB.out))
                  go_roundw
                  refine ⟨_, cnt1, vs', _, _, OF⟩
                  rw [OF.out.rg.left_eq, OO.out.rg.left_eq]; exact HC.out
        · intro x c kl y1 y2 w1 cnt1 hkey hlk hv hat hrg1 hlt hg1 hs1 hen
          obtain ⟨x', hx', rfl⟩ := keyOf9_inv hkey
          cases hx'
          have hxk : x ∈ b.keys := (P2.out.has_iff x).1 (has_true_of_atKey hat)
          have HK := hid hkey
          have HXK := hid hxk
          have HR1 := hid hrg1
          have HG1 := hid hg1
          have HC := hid hlt
          clear hkey hxk hrg1 hg1 hlt hlk hv hat hs1
          go_wp2_with (first
            | (at_mapUpdate; go_loud (refine wpList_mapUpdate_own _ rfl _ _ _ 93 rfl 9 4 K9 underlying93 heldElem w.heap.size nk DK rfl (GG.out.own.kept HG1.out (by have := ZB.out; have := Z1.out; simp; omega)) (lt_maxLen (by have := GG.out.le; omega)) _ _ (keyLit x) rfl rfl HK.out (.held (.bool true)) [] rfl ?_); intro w2 hown2 hg2; have OW := hid hown2; have GR := hid hg2; clear hown2 hg2; go_frame))
          have rg2 : w2.ranges Try.prog 9 heldElem m2 wo.heap.size n2 D2 _ cnt1 := HR1.out.kept GR.out (by have := L2.out; simp; omega) (by have := ZB.out; have := Z1.out; simp; omega)
          go_roundw
          case rel => exact ⟨_, cnt1, nk + 1, _, hid ⟨rg2, OW.out, by have := HC.out; have := GG.out.le; omega, GG.out.coll.step HXK.out _, (GG.out.bel.grown HG1.out GG.out.bel.size (fun j hj => by cases hj; exact ZB.out)).grown GR.out (by have := HG1.out.size; have := GG.out.bel.size; omega) (fun j hj => by cases hj; exact Nat.le_refl _)⟩⟩
          case measure => rw [rg2.left_eq, GG.out.rg.left_eq]; exact HC.out
    · intro x c kl y1 y2 w1 cnt1 hkey hlk hv hat hrg1 hlt hg1 hs1 hen
      obtain ⟨x', hx', rfl⟩ := keyOf9_inv hkey
      cases hx'
      have hxk : x ∈ a.keys := (P1.out.has_iff x).1 (has_true_of_atKey hat)
      have HK := hid hkey
      have HXK := hid hxk
      have HR1 := hid hrg1
      have HG1 := hid hg1
      have HC := hid hlt
      clear hkey hxk hrg1 hg1 hlt hlk hv hat hs1
      go_wp2_with (first
        | (at_mapUpdate; go_loud (refine wpList_mapUpdate_own _ rfl _ _ _ 93 rfl 9 4 K9 underlying93 heldElem w.heap.size nk DK rfl (GG.out.own.kept HG1.out (by simp)) (lt_maxLen (by have := GG.out.le; omega)) _ _ (keyLit x) rfl rfl HK.out (.held (.bool true)) [] rfl ?_); intro w2 hown2 hg2; have OW := hid hown2; have GR := hid hg2; clear hown2 hg2; go_frame))
      have rg2 : w2.ranges Try.prog 9 heldElem m1 (w.heap.size + 1) n1 D1 _ cnt1 := HR1.out.kept GR.out (by have := L1.out; simp; omega) (by simp)
      go_roundw
      case rel => exact ⟨_, cnt1, nk + 1, _, hid ⟨rg2, OW.out, by have := HC.out; have := GG.out.le; omega, GG.out.coll.step HXK.out _, (GG.out.bel.grown HG1.out GG.out.bel.size (fun j hj => by cases hj; exact Nat.le_succ _)).grown GR.out (by have := HG1.out.size; have := GG.out.bel.size; omega) (fun j hj => by cases hj; exact Nat.le_refl _)⟩⟩
      case measure => rw [rg2.left_eq, GG.out.rg.left_eq]; exact HC.out
end Go.Proofs.Ytclnpjelgdoloaa
