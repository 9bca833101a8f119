/- laws.alike at arrays, at objects, at any plain data. -/
import Derived.Test.YtclnpjelgdoloaaGreatAlike2
import Derived.Deep.RegionHeld3
namespace Go.Proofs.YtclnpjelgdoloaaGreat
open Go.RowKit Go.Maps Go.Sort
set_option linter.unusedVariables false
set_option linter.unusedSimpArgs false

set_option maxRecDepth 100000 in
set_option maxHeartbeats 1000000 in
theorem alike_arr (a b : V) (va vb : Value) (w : World) (ha : Rep w va a) (hb : Rep w vb b) (hk : a.k = 7) (hk' : b.k = 7) (hl : b.l.length = a.l.length) (hn : a.l.length ≤ 300)
    (ih : ∀ j (hj : j < a.l.length) (hj' : j < b.l.length) (ua ub : Value) (w' : World), Rep w' ua a.l[j] → Rep w' ub b.l[j] → Calls Tryz.prog 8 #[ua, ub] w' (BoolPost true w')) :
    Calls Tryz.prog 8 #[va, vb] w (BoolPost true w) := by
  obtain ⟨la, ka, lc, kc, cs, ho⟩ := ha.open_
  obtain rfl := ho.eq
  obtain ⟨la', ka', lc', kc', cs', ho'⟩ := hb.open_
  obtain rfl := ho'.eq
  have B2 : Hid (Below w.heap.size w ((w.alloc (.cells #[.int .i64 a.k, .int .i64 a.n, .float .f64 a.f, .string a.s, .slice la a.l.length lc, .slice ka a.keys.length kc] 26)).alloc (.cells #[.int .i64 b.k, .int .i64 b.n, .float .f64 b.f, .string b.s, .slice la' b.l.length lc', .slice ka' b.keys.length kc'] 26))) := hid (two_new _ _ _).2.2
  have LA := hid (ho.kept B2.out)
  have LB := hid (ho'.kept B2.out)
  have EQ := hid (equal_any LA.out.toLst LB.out.toLst hl hn (fun j hj w' hb' => ih j hj (by omega) _ _ w' ((LA.out.hr j hj).kept hb') ((LB.out.hr j (by omega)).kept hb')))
  rw [hk, hk'] at B2 EQ ⊢
  clear ha hb ho ho' ih LA LB hl hk hk' hn
  go_enter Tryz.func8, Tryz.ntmps8
  go_wp2_with (go_at_call 22; refine EQ.out.mono ?_; rintro e w3 ⟨rfl, hb3⟩; have B3 : Hid (Below w.heap.size w w3) := hid (B2.out.trans (hb3.mono (by simp; omega))); clear hb3)
  go_ret
  exact ⟨rfl, B3.out⟩

/-- The cells of a list hold what it says. -/
def Reads (L : List (Addr × Value)) (w : World) : Prop := ∀ p ∈ L, w.cell? p.1 = some p.2

theorem Reads.below {L : List (Addr × Value)} {w w' : World} (h : Reads L w) (hb : Below w.heap.size w w') : Reads L w' := fun p hp => (hb.cell (World.block_lt_of_cell? w _ (h p hp))).trans (h p hp)

set_option maxRecDepth 100000 in
set_option maxHeartbeats 4000000 in
theorem alike_obj (a b : V) (va vb : Value) (w : World) (ha : Rep w va a) (hb : Rep w vb b) (hk : a.k = 8) (hk' : b.k = 8) (hl : a.l.length = a.keys.length) (hkb : b.keys.length = a.keys.length) (hlb : b.l.length = a.keys.length) (hmem : ∀ k ∈ a.keys, k ∈ b.keys) (hn : a.keys.length ≤ 300)
    (ih : ∀ j m (hj : j < a.l.length) (hm : m < b.l.length) (hj' : j < a.keys.length) (hm' : m < b.keys.length), b.keys[m] = a.keys[j] → ∀ (ua ub : Value) (w' : World), Rep w' ua a.l[j] → Rep w' ub b.l[m] → Calls Tryz.prog 8 #[ua, ub] w' (BoolPost true w')) :
    Calls Tryz.prog 8 #[va, vb] w (BoolPost true w) := by
  obtain ⟨la, ka, lc, kc, cs, ho⟩ := ha.open_
  obtain rfl := ho.eq
  obtain ⟨la', ka', lc', kc', cs', ho'⟩ := hb.open_
  obtain rfl := ho'.eq
  have s1 := ho.hl
  have s2 := ho.hlc
  have s3 := ho.hkl
  have s4 := ho.hkc
  have r1 := ho'.hl
  have r2 := ho'.hlc
  have r3 := ho'.hkl
  have r4 := ho'.hkc
  have B2 : Hid (Below w.heap.size w ((w.alloc (.cells #[.int .i64 a.k, .int .i64 a.n, .float .f64 a.f, .string a.s, .slice la a.l.length lc, .slice ka a.keys.length kc] 26)).alloc (.cells #[.int .i64 b.k, .int .i64 b.n, .float .f64 b.f, .string b.s, .slice la' b.l.length lc', .slice ka' b.keys.length kc'] 26))) := hid (two_new _ _ _).2.2
  have N2 := hid (And.intro (two_new w (.cells #[.int .i64 a.k, .int .i64 a.n, .float .f64 a.f, .string a.s, .slice la a.l.length lc, .slice ka a.keys.length kc] 26) (.cells #[.int .i64 b.k, .int .i64 b.n, .float .f64 b.f, .string b.s, .slice la' b.l.length lc', .slice ka' b.keys.length kc'] 26)).1 (two_new w (.cells #[.int .i64 a.k, .int .i64 a.n, .float .f64 a.f, .string a.s, .slice la a.l.length lc, .slice ka a.keys.length kc] 26) (.cells #[.int .i64 b.k, .int .i64 b.n, .float .f64 b.f, .string b.s, .slice la' b.l.length lc', .slice ka' b.keys.length kc'] 26)).2.1)
  have HA := hid ho
  have HB := hid ho'
  have HM := hid hmem
  have IH := hid ih
  have EL := hid hl
  have EK := hid hkb
  have EM := hid hlb
  rw [hk, hk', hl, hkb, hlb] at B2 N2 ⊢
  rw [hl] at s1 s2
  rw [hkb] at r3 r4
  rw [hlb] at r1 r2
  clear ha hb ho ho' ih hk hk' hmem hl hkb hlb
  go_enter Tryz.func8, Tryz.ntmps8
  go_wp2_with (fail)
  go_loopw [5] (fun i wr => ∃ j : Nat, i = .int .i64 (j : Int) ∧ j ≤ a.keys.length ∧ wr.cell? ⟨w.heap.size, 5, none⟩ = some (.slice ka a.keys.length kc) ∧ Hid (Below (w.heap.size + 2) ((w.alloc (.cells #[.int .i64 8, .int .i64 a.n, .float .f64 a.f, .string a.s, .slice la a.keys.length lc, .slice ka a.keys.length kc] 26)).alloc (.cells #[.int .i64 8, .int .i64 b.n, .float .f64 b.f, .string b.s, .slice la' a.keys.length lc', .slice ka' a.keys.length kc'] 26)) wr)) (fun i _ => a.keys.length - (intOf i).toNat)
  case atStart => exact ⟨0, rfl, Nat.zero_le _, (cell_of_row _ _ 5 _ 26 (0, 0) N2.out.1).trans rfl, hid (Below.refl _ _)⟩
  case round =>
    obtain ⟨j, rfl, hj, c5, BW⟩ := hrel
    have BX : Hid (Below w.heap.size w wr) := hid (B2.out.trans (BW.out.mono (by omega)))
    by_cases hlt : j < a.keys.length
    · have G0 : Hid (wr.heap[w.heap.size]? = _) := hid ((BW.out.block w.heap.size (by omega)).trans N2.out.1)
      have G1 : Hid (wr.heap[w.heap.size + 1]? = _) := hid ((BW.out.block (w.heap.size + 1) (by omega)).trans N2.out.2)
      obtain ⟨hks, kb, ko, rfl, hkc⟩ := (HA.out.kept BX.out).hka j hlt
      generalize hkey : a.keys[j] = key at hkc
      have EKEY : Hid (∀ h : j < a.keys.length, a.keys[j]'h = key) := hid fun _ => hkey
      have KIN : Hid (key ∈ b.keys) := hid (HM.out key (by rw [← hkey]; exact List.getElem_mem hlt))
      have S0 := hid (And.intro ((cell_of_row _ _ 5 _ 26 (0, 0) G0.out).trans rfl : wr.cell? ⟨w.heap.size, 5, none⟩ = some (.slice (some ⟨kb, ko, none⟩) a.keys.length kc)) (And.intro ((cell_of_row _ _ 5 _ 26 (0, 0) G1.out).trans rfl : wr.cell? ⟨w.heap.size + 1, 5, none⟩ = some (.slice ka' a.keys.length kc')) hkc))
      have KB : Hid (Keys wr.drew ka' kc' b.keys) := hid (((HB.out.kept BX.out).kept (Below.refl _ wr).drew).toKeys)
      clear hkey hkc hks
      have i0 : (0 : Int) ≤ (j : Int) := by omega
      have i1 : (j : Int) < (a.keys.length : Int) := by omega
      have IX := hid (index_any KB.out key KIN.out)
      rw [EK.out] at IX
      go_wp2_with (fail)
      go_region_held3 (fun w' => w'.cell? ⟨w.heap.size, 5, none⟩ = some (.slice (some ⟨kb, ko, none⟩) a.keys.length kc) ∧ w'.cell? ⟨w.heap.size + 1, 5, none⟩ = some (.slice ka' a.keys.length kc') ∧ w'.cell? ⟨kb, ko + j, none⟩ = some (.string key))
        (exact S0.out)
        (first
          | (go_at_call 23; refine IX.out.mono ?_; rintro e w3 ⟨m, hm, rfl, hkm, rfl⟩; have HKM : Hid (∀ h : m < b.keys.length, b.keys[m]'h = key) := hid fun _ => hkm; have HMM := hid hm; clear hkm hm))
      have hlj : j < a.l.length := by rw [EL.out]; exact hlt
      have hlm : m < b.l.length := by rw [EM.out, ← EK.out]; exact HMM.out
      have hlmk : m < a.keys.length := by rw [← EK.out]; exact HMM.out
      obtain ⟨b1, o1, rfl, hc1⟩ := (HA.out.kept BX.out).hla j hlj
      obtain ⟨b2, o2, rfl, hc2⟩ := (HB.out.kept BX.out).hla m hlm
      have RA := hid (((HA.out.kept BX.out).hr j hlj).kept ((Below.refl _ wr).drew.drew))
      have RB := hid (((HB.out.kept BX.out).hr m hlm).kept ((Below.refl _ wr).drew.drew))
      have T0 : Hid (Reads [(⟨w.heap.size, 4, none⟩, .slice (some ⟨b1, o1, none⟩) a.keys.length lc), (⟨w.heap.size + 1, 4, none⟩, .slice (some ⟨b2, o2, none⟩) a.keys.length lc'), (⟨b1, o1 + j * 6, none⟩, cs j 0), (⟨b1, o1 + j * 6 + 1, none⟩, cs j 1), (⟨b1, o1 + j * 6 + 2, none⟩, cs j 2), (⟨b1, o1 + j * 6 + 3, none⟩, cs j 3), (⟨b1, o1 + j * 6 + 4, none⟩, cs j 4), (⟨b1, o1 + j * 6 + 5, none⟩, cs j 5), (⟨b2, o2 + m * 6, none⟩, cs' m 0), (⟨b2, o2 + m * 6 + 1, none⟩, cs' m 1), (⟨b2, o2 + m * 6 + 2, none⟩, cs' m 2), (⟨b2, o2 + m * 6 + 3, none⟩, cs' m 3), (⟨b2, o2 + m * 6 + 4, none⟩, cs' m 4), (⟨b2, o2 + m * 6 + 5, none⟩, cs' m 5)] wr) := hid (by
        intro p hp
        simp only [List.mem_cons, List.mem_nil_iff, or_false] at hp
        rcases hp with rfl | rfl | rfl | rfl | rfl | rfl | rfl | rfl | rfl | rfl | rfl | rfl | rfl | rfl
        · exact (cell_of_row _ _ 4 _ 26 (0, 0) G0.out).trans rfl
        · exact (cell_of_row _ _ 4 _ 26 (0, 0) G1.out).trans rfl
        · exact hc1 0 (by omega)
        · exact hc1 1 (by omega)
        · exact hc1 2 (by omega)
        · exact hc1 3 (by omega)
        · exact hc1 4 (by omega)
        · exact hc1 5 (by omega)
        · exact hc2 0 (by omega)
        · exact hc2 1 (by omega)
        · exact hc2 2 (by omega)
        · exact hc2 3 (by omega)
        · exact hc2 4 (by omega)
        · exact hc2 5 (by omega))
      have T1 : Hid (Reads _ wr.drew.drew) := hid (T0.out.below (Below.refl _ wr).drew.drew)
      have IHx := hid (fun (ua ub : Value) (w' : World) => IH.out j m hlj hlm hlt HMM.out ((HKM.out HMM.out).trans (EKEY.out hlt).symm) ua ub w')
      have i2 : (0 : Int) ≤ (m : Int) := by omega
      have i3 : (m : Int) < (a.keys.length : Int) := by omega
      have hg : decide ((m : Int) < 0) = false := by simp
      clear hc1 hc2
      go_wp2_with (fail)
      go_region_held3 (fun w' => w'.cell? ⟨w.heap.size, 4, none⟩ = some (.slice (some ⟨b1, o1, none⟩) a.keys.length lc) ∧ w'.cell? ⟨w.heap.size + 1, 4, none⟩ = some (.slice (some ⟨b2, o2, none⟩) a.keys.length lc') ∧ w'.cell? ⟨b1, o1 + j * 6, none⟩ = some (cs j 0) ∧ w'.cell? ⟨b1, o1 + j * 6 + 1, none⟩ = some (cs j 1) ∧ w'.cell? ⟨b1, o1 + j * 6 + 2, none⟩ = some (cs j 2) ∧ w'.cell? ⟨b1, o1 + j * 6 + 3, none⟩ = some (cs j 3) ∧ w'.cell? ⟨b1, o1 + j * 6 + 4, none⟩ = some (cs j 4) ∧ w'.cell? ⟨b1, o1 + j * 6 + 5, none⟩ = some (cs j 5) ∧ w'.cell? ⟨b2, o2 + m * 6, none⟩ = some (cs' m 0) ∧ w'.cell? ⟨b2, o2 + m * 6 + 1, none⟩ = some (cs' m 1) ∧ w'.cell? ⟨b2, o2 + m * 6 + 2, none⟩ = some (cs' m 2) ∧ w'.cell? ⟨b2, o2 + m * 6 + 3, none⟩ = some (cs' m 3) ∧ w'.cell? ⟨b2, o2 + m * 6 + 4, none⟩ = some (cs' m 4) ∧ w'.cell? ⟨b2, o2 + m * 6 + 5, none⟩ = some (cs' m 5))
        (first | (simpa [Reads] using T1.out) | (simpa [Reads] using T4.out))
        (first
          | (go_at_call 8; refine (IHx.out _ _ _ RA.out RB.out).mono ?_; rintro e w4 ⟨rfl, hb4⟩; have T4 := hid (T1.out.below hb4); have B4 : Hid (Below wr.heap.size wr w4) := hid ((Below.refl _ wr).drew.drew.trans hb4); clear hb4))
      go_wp2_with (fail)
      go_roundw
      case rel => exact ⟨j + 1, by go_num, by omega, (B4.out.cell (p := ⟨w.heap.size, 5, none⟩) (World.block_lt_of_cell? wr _ c5)).trans c5, hid (BW.out.trans (B4.out.mono (by have := BW.out.size; simpa using this)))⟩
      case measure => simp only [intOf]; omega
    · go_wp2_with (fail)
      go_ret
      exact ⟨rfl, BX.out⟩
end Go.Proofs.YtclnpjelgdoloaaGreat
