/- internal/strconv.rightShift. -/
import Derived.Test.YtonnmongipaheaaGreatDoorLeft
import Derived.Laws.Bits64b
namespace Go.Proofs.YtonnmongipaheaaGreatDoor
open Go.RowKit
set_option linter.unusedVariables false
set_option linter.unusedSimpArgs false

def RightPost (b : Nat) (c : Nat → Nat) (dp : Int) (ng : Bool) (w : World) (x : Ending) (w' : World) : Prop :=
  x = .returned (.tuple #[]) ∧ ∃ c' nd' dp' tr', DecG w' b c' nd' dp' ng tr' ∧ dp' ≤ dp ∧ dp - 900 ≤ dp' ∧ (dp' = dp → c' 0 < c 0) ∧ Only b w w'

theorem DigTo.put {c : Nat → Nat} {W Q : Nat} (h : DigTo c W) (hQ : Q ≤ 9) : DigTo (upd c W (Q + 48)) (W + 1) := fun i hi => by
  unfold upd
  split
  · omega
  · exact h i (by omega)

theorem mask_nat {N K k M R : Nat} (hK : K = 2 ^ k) (hk : k ≤ 60) (hM : M = K - 1) (hR : R = N % K) (hN : N ≤ 18000000000000000000) : bits .and .u64 (N : Int) (M : Int) = (R : Int) := by
  have h4 : (2 : Nat) ^ k ≤ 2 ^ 60 := Nat.pow_le_pow_right (by omega) hk
  have h5 : (2 : Nat) ^ 60 = 1152921504606846976 := by decide
  rw [bits_and_u64_nat N M (by omega) (by omega), hM, hR, hK, Nat.and_two_pow_sub_one_eq_mod]

theorem div_facts {N K Q R : Nat} (hK0 : 0 < K) (hKb : K ≤ 1152921504606846976) (hN : N < 10 * K) (hQ : Q = N / K) (hR : R = N % K) : (N : Int) / (K : Int) = (Q : Int) ∧ Q ≤ 9 ∧ R < K := by
  refine ⟨by rw [hQ]; exact (Int.natCast_ediv N K).symm, ?_, by rw [hR]; exact Nat.mod_lt _ hK0⟩
  have : Q < 10 := by rw [hQ]; exact Nat.div_lt_of_lt_mul (by rw [Nat.mul_comm]; exact hN)
  omega

/-- How many rounds are left to the last loop. -/
def Rounds (k N g : Nat) : Prop := (∃ j, j ≤ k ∧ 2 ^ j ∣ N ∧ g = k - j + 1) ∨ (N = 0 ∧ g = 0)
theorem Rounds.step {k N g K : Nat} (hK : K = 2 ^ k) (h : Rounds k N g) (hN : 0 < N) : ∃ g', g' < g ∧ Rounds k (N % K * 10) g' := by
  rcases h with ⟨j, h1, h2, h3⟩ | ⟨h1, _⟩
  · have hd : 2 ^ j ∣ N % K := by
      rw [hK]
      exact (Nat.dvd_mod_iff (Nat.pow_dvd_pow 2 h1)).2 h2
    by_cases hj : j = k
    · refine ⟨0, by omega, .inr ⟨?_, rfl⟩⟩
      rw [hK, ← hj, Nat.mod_eq_zero_of_dvd h2, Nat.zero_mul]
    · refine ⟨k - j, by omega, .inl ⟨j + 1, by omega, ?_, by omega⟩⟩
      rw [Nat.pow_succ]
      exact Nat.mul_dvd_mul hd (by decide)
  · omega

set_option maxRecDepth 100000 in
set_option maxHeartbeats 4000000 in
theorem right_any (w : World) (b nd k : Nat) (c : Nat → Nat) (dp : Int) (ng tr : Bool) (h : DecG w b c nd dp ng tr) (h1 : 1 ≤ k) (h2 : k ≤ 60) (hdp : -1000000000 ≤ dp ∧ dp ≤ 1000000000) :
    Calls Tryz.prog 111 #[.pointer (some ⟨b, 0, none⟩), .int .u64 k] w (RightPost b c dp ng w) := by
  obtain ⟨hd, n1, n2, hdig, h0⟩ := h
  have DG := hide hdig
  have H0 := hide h0
  have D := hide hd
  have hnd := hd.nd_
  have i1 : (0 : Int) ≤ (nd : Int) := by omega
  have i2 : (nd : Int) ≤ 800 := by omega
  have i3 : (0 : Int) ≤ (k : Int) := by omega
  have i4 : (k : Int) < 61 := by omega
  obtain ⟨j1, j2⟩ := hdp
  have hDD : ∀ j, j < nd → dOf c j ≤ 9 := fun j hj => by
    have := DG.out j hj
    unfold dOf; omega
  have hD0 : 1 ≤ dOf c 0 := by
    have := H0.out
    unfold dOf; omega
  have HDD := hide hDD
  have HD0 := hide hD0
  clear hDD hD0 hdig h0 hd
  obtain ⟨K, hK⟩ : ∃ K, K = 2 ^ k := ⟨_, rfl⟩
  have hKb : K ≤ 1152921504606846976 := by
    have h4 : (2 : Nat) ^ k ≤ 2 ^ 60 := Nat.pow_le_pow_right (by omega) h2
    have h5 : (2 : Nat) ^ 60 = 1152921504606846976 := by decide
    omega
  have hK2 : 2 ≤ K := by
    rw [hK]
    have : (2 : Nat) ^ 1 ≤ 2 ^ k := Nat.pow_le_pow_right (by omega) h1
    simpa using this
  have hpow : (2 : Int) ^ k = (K : Int) := by rw [hK]; simp
  have HK := hide hK
  clear hK
  go_enter Tryz.func111, Tryz.ntmps111
  go_wp2_with (fail)
  go_loopg [4, 6] (nd + 1) (fun g r n wr => ∃ (R N : Nat), R + g = nd + 1 ∧ R ≤ nd ∧ r = .int .i64 (R : Int) ∧ n = .int .u64 (N : Int) ∧ N ≤ 11529215046068469759 ∧ Hid (N < 10 * K) ∧ Hid (R = 0 → N = 0) ∧ Hid (1 ≤ R → 1 ≤ N) ∧ Hid (R = 1 → N = dOf c 0) ∧ w = wr)
  case atStart => exact ⟨0, 0, by omega, by omega, rfl, rfl, by omega, hide (by omega), hide (fun _ => rfl), hide (by omega), hide (by omega), rfl⟩
  case round =>
    obtain ⟨R, N, hg, hR, rfl, rfl, hNb, hN10, hR0, hR1, hRd, rfl⟩ := hrel
    have HR : Hid ((R = 0 → N = 0) ∧ (1 ≤ R → 1 ≤ N) ∧ (R = 1 → N = dOf c 0)) := hide ⟨hR0.out, hR1.out, hRd.out⟩
    clear hR0 hR1 hRd
    obtain ⟨Q, hQ⟩ : ∃ Q, Q = N / K := ⟨_, rfl⟩
    obtain ⟨Rm, hRm⟩ : ∃ Rm, Rm = N % K := ⟨_, rfl⟩
    obtain ⟨f1, f2, f3⟩ := div_facts (by omega) hKb hN10.out hQ hRm
    by_cases hQ0 : Q = 0
    · have hNK : N < K := by
        rcases Nat.lt_or_ge N K with h | h
        · exact h
        · have := Nat.div_pos h (by omega)
          omega
      clear hQ hRm f2 f3
      subst hQ0
      by_cases hRn : R < nd
      · have x1 : w.cell? ⟨b, R, none⟩ = some (.int .u8 (c R)) := D.out.dig (by omega)
        have x2 := (DG.out R (by omega)).1
        have x3 := (DG.out R (by omega)).2
        obtain ⟨N', hN'⟩ : ∃ N', N' = N * 10 + (c R - 48) := ⟨_, rfl⟩
        have f4 : (N : Int) * 10 + (c R : Int) - 48 = (N' : Int) := by omega
        have HN : Hid (N' ≤ 11529215046068469759 ∧ N' < 10 * K ∧ 1 ≤ N' ∧ (R = 0 → N' = dOf c 0)) := hide (by
          refine ⟨by omega, by omega, ?_, ?_⟩
          · rcases R with _ | r
            · have := H0.out; omega
            · have := HR.out.2.1 (by omega); omega
          · intro h
            have := HR.out.1 h
            subst h
            unfold dOf; omega)
        clear hN'
        go_wp2_with (fail)
        go_roundg (nd - R)
        case measure => omega
        case rel => exact ⟨R + 1, N', by omega, by omega, by go_num, rfl, HN.out.1, hide HN.out.2.1, hide (by omega), hide (fun _ => HN.out.2.2.1), hide (fun h => HN.out.2.2.2 (by omega)), rfl⟩
      · have hN1 : 1 ≤ N := HR.out.2.1 (by omega)
        obtain rfl : R = nd := by omega
        have hN1' : (((N : Nat) : Int) == 0) = false := by rw [beq_eq_false_iff_ne]; omega
        go_wp2_with (fail)
        go_loopg [4, 6] 60 (fun g r n wr2 => ∃ (S M : Nat), S + g = R + 60 ∧ R ≤ S ∧ r = .int .i64 (S : Int) ∧ n = .int .u64 (M : Int) ∧ M ≤ 11529215046068469759 ∧ 1 ≤ M ∧ Hid (M < 10 * K) ∧ Hid (2 ^ (S - R) ≤ M) ∧ Hid (S = R → M = N) ∧ w = wr2)
        case atStart => exact ⟨R, N, by omega, by omega, rfl, rfl, by omega, hN1, hide (by omega), hide (by rw [Nat.sub_self]; omega), hide (fun _ => rfl), rfl⟩
        case round =>
          obtain ⟨S, M, hg2, hS, rfl, rfl, hMb, hM1, hM10, hMS, hSM, rfl⟩ := hrel
          clear f1
          obtain ⟨Q, hQ⟩ : ∃ Q, Q = M / K := ⟨_, rfl⟩
          obtain ⟨Rm, hRm⟩ : ∃ Rm, Rm = M % K := ⟨_, rfl⟩
          obtain ⟨f1, f2, f3⟩ := div_facts (by omega) hKb hM10.out hQ hRm
          by_cases hQ0 : Q = 0
          · have hMK : M < K := by
              rcases Nat.lt_or_ge M K with h | h
              · exact h
              · have := Nat.div_pos h (by omega)
                omega
            have hlt : S - R < k := by
              have := hMS.out
              rw [HK.out] at hMK
              exact (Nat.pow_lt_pow_iff_right (by decide : 1 < 2)).1 (Nat.lt_of_le_of_lt this hMK)
            clear hQ hRm f2 f3
            subst hQ0
            go_wp2_with (fail)
            go_roundg (R + 60 - (S + 1))
            case measure => omega
            case rel =>
              refine ⟨S + 1, M * 10, by omega, by omega, by go_num, by go_num, by omega, by omega, hide (by omega), hide ?_, hide (by omega), rfl⟩
              have := hMS.out
              rw [show S + 1 - R = (S - R) + 1 by omega, Nat.pow_succ]
              omega
          · have hQ1 : (((Q : Nat) : Int) == 0) = false := by rw [beq_eq_false_iff_ne]; omega
            have hQK : Hid (1 ≤ M / K) := hide (by omega)
            have HT : Hid (1 ≤ S ∧ (S = 1 → M = dOf c 0) ∧ S ≤ R + 60) := hide ⟨by omega, fun h => by
              have := hSM.out (by omega)
              rw [this, Nat.div_eq_of_lt hNK] at hQ
              omega, by omega⟩
            clear hQ hRm f2 f3 hQ0 hSM hMS hS hg2 hg hNK hN1 HR hN10 hNb hN1' hRn
            have hS1 : 1 ≤ S := HT.out.1
            have hS2 : S ≤ R + 60 := HT.out.2.2
            have y0 := D.out.dp_
            have fr0 := D.out.free 801
            obtain ⟨Mk, hMk⟩ : ∃ Mk, Mk = K - 1 := ⟨_, rfl⟩
            have f5 : (K : Int) - 1 = (Mk : Int) := by omega
            have HMk := hide hMk
            clear hMk
            have D2 := hide (D.out.set_dp (dp - ((S : Int) - 1)))
            have O2 := hide ((Only.refl b w).set 801 (.int .i64 (dp - ((S : Int) - 1))))
            go_wp2_with (fail)
            clear f1 hQ1
            go_loopg [4, 5, 6] (R - S) (fun g r ww n wr2 => ∃ (R2 W N2 : Nat) (c1 : Nat → Nat), g = R - R2 ∧ r = .int .i64 (R2 : Int) ∧ ww = .int .i64 (W : Int) ∧ n = .int .u64 (N2 : Int) ∧ R2 ≤ 870 ∧ W ≤ 800 ∧ Hid (R2 = S + W) ∧ N2 ≤ 11529215046068469759 ∧ Hid (N2 < 10 * K) ∧ Hid (Dec wr2 b c1 R (dp - ((S : Int) - 1)) ng tr) ∧ Hid (∀ i, R2 ≤ i → i < R → c1 i = c i) ∧
                Hid (DigTo c1 W) ∧ Hid (W = 0 → N2 = M) ∧ Hid (1 ≤ W → c1 0 = M / K + 48) ∧ Hid (Only b w wr2))
            case atStart => exact ⟨S, 0, M, c, rfl, by first | rfl | (congr 1; omega), rfl, rfl, by omega, by omega, hide rfl, hMb, hM10, D2, hide (fun _ _ _ => rfl), hide (fun i hi => by omega), hide (fun _ => rfl), hide (fun h => by omega), O2⟩
            case round =>
              obtain ⟨R2, W, N2, c1, hg2, rfl, rfl, rfl, hR2, hW8, hRW, hNb, hN10, hDe, hsame, hdg, hz, htop, hOn⟩ := hrel
              have q1 := hDe.out.nd_
              by_cases hlt : R2 < R
              · have hw : W < R2 := by have := hRW.out; omega
                have x1 : wr.cell? ⟨b, R2, none⟩ = some (.int .u8 (c R2)) := by rw [hDe.out.dig (by omega), hsame.out R2 (by omega) hlt]
                have x2 := (DG.out R2 (by omega)).1
                have x3 := (DG.out R2 (by omega)).2
                obtain ⟨Q, hQ⟩ : ∃ Q, Q = N2 / K := ⟨_, rfl⟩
                obtain ⟨Rm, hRm⟩ : ∃ Rm, Rm = N2 % K := ⟨_, rfl⟩
                obtain ⟨f1, f2, f3⟩ := div_facts (by omega) hKb hN10.out hQ hRm
                have f4 := mask_nat HK.out h2 HMk.out hRm (by omega)
                obtain ⟨N', hN'⟩ : ∃ N', N' = Rm * 10 + (c R2 - 48) := ⟨_, rfl⟩
                have f6 : (Rm : Int) * 10 + (c R2 : Int) - 48 = (N' : Int) := by omega
                have y1 := hDe.out.dig (i := W) (by omega)
                have fr1 := hDe.out.free W
                have HN : Hid (N' ≤ 11529215046068469759 ∧ N' < 10 * K ∧ (W = 0 → Q = M / K)) := hide ⟨by omega, by omega, fun h => by rw [hQ, hz.out h]⟩
                have hRW' : Hid (R2 + 1 = S + (W + 1)) := hide (by have := hRW.out; omega)
                clear hN' hQ hRm hRW hz
                go_wp2_with (fail)
                go_roundg (R - (R2 + 1))
                case measure => omega
                case rel =>
                  refine ⟨R2 + 1, W + 1, N', upd c1 W (Q + 48), rfl, by go_num, by go_num, rfl, by omega, by omega, hRW', HN.out.1, hide HN.out.2.1, hide (hDe.out.set_dig (by omega) (Q + 48)), hide (fun i h3 h4 => ?_), hide (DigTo.put hdg.out f2), hide (fun h => by omega), hide (fun _ => ?_), hide (hOn.out.set _ _)⟩
                  · unfold upd
                    rw [if_neg (by omega)]
                    exact hsame.out i (by omega) h4
                  · unfold upd
                    split
                    · rename_i h; rw [HN.out.2.2 h.symm]
                    · exact htop.out (by omega)
              · clear hg2 hRW hsame
                go_wp2_with (fail)
                go_loopg [5, 6] (k + 1) (fun g ww n wr3 => ∃ (W N2 : Nat) (c1 : Nat → Nat) (tr1 : Bool), ww = .int .i64 (W : Int) ∧ n = .int .u64 (N2 : Int) ∧ W ≤ 800 ∧ N2 ≤ 11529215046068469759 ∧ Hid (Rounds k N2 g) ∧ Hid (N2 < 10 * K) ∧ Hid (Dec wr3 b c1 R (dp - ((S : Int) - 1)) ng tr1) ∧
                    Hid (DigTo c1 W) ∧ Hid (W = 0 → N2 = M) ∧ Hid (1 ≤ W → c1 0 = M / K + 48) ∧ Hid (Only b w wr3))
                case atStart => exact ⟨W, N2, c1, tr, rfl, rfl, hW8, hNb, hide (.inl ⟨0, by omega, by rw [Nat.pow_zero]; exact Nat.one_dvd _, by omega⟩), hN10, hDe, hdg, hz, htop, hOn⟩
                case round =>
                  clear hW8 hNb hN10 hDe hdg hz htop hOn q1
                  obtain ⟨W, N2, c1, tr1, rfl, rfl, hW8, hNb, hro, hN10, hDe, hdg, hz, htop, hOn⟩ := hrel
                  by_cases hN0 : 0 < N2
                  · obtain ⟨Q, hQ⟩ : ∃ Q, Q = N2 / K := ⟨_, rfl⟩
                    obtain ⟨Rm, hRm⟩ : ∃ Rm, Rm = N2 % K := ⟨_, rfl⟩
                    obtain ⟨f1, f2, f3⟩ := div_facts (by omega) hKb hN10.out hQ hRm
                    have f4 := mask_nat HK.out h2 HMk.out hRm (by omega)
                    obtain ⟨g', hg', hro'⟩ := hro.out.step HK.out hN0
                    rw [← hRm] at hro'
                    have HR' := hide hro'
                    have HN : Hid (W = 0 → Q = M / K) := hide (fun h => by rw [hQ, hz.out h])
                    clear hQ hRm hro hz hro'
                    have fr3 := hDe.out.free 803
                    have y3 := hDe.out.tr_
                    by_cases hW : W < 800
                    · have y1 := hDe.out.dig (i := W) hW
                      have fr1 := hDe.out.free W
                      go_wp2_with (fail)
                      go_roundg g'
                      case measure => exact hg'
                      case rel =>
                        refine ⟨W + 1, Rm * 10, upd c1 W (Q + 48), tr1, by go_num, by go_num, by omega, by omega, HR', hide (by omega), hide (hDe.out.set_dig hW (Q + 48)), hide (DigTo.put hdg.out f2), hide (fun h => by omega), hide (fun _ => ?_), hide (hOn.out.set _ _)⟩
                        unfold upd
                        split
                        · rename_i h; rw [HN.out h.symm]
                        · exact htop.out (by omega)
                    · by_cases hQ0 : 0 < Q
                      · go_wp2_with (fail)
                        go_roundg g'
                        case measure => exact hg'
                        case rel => exact ⟨W, Rm * 10, c1, true, by go_num, by go_num, by omega, by omega, HR', hide (by omega), hide (hDe.out.set_tr true), hdg, hide (fun h => by omega), htop, hide (hOn.out.set _ _)⟩
                      · go_wp2_with (fail)
                        go_roundg g'
                        case measure => exact hg'
                        case rel => exact ⟨W, Rm * 10, c1, tr1, by go_num, by go_num, by omega, by omega, HR', hide (by omega), hDe, hdg, hide (fun h => by omega), htop, hOn⟩
                  · have hWp : 1 ≤ W := by
                      rcases W with _ | v
                      · have e1 := hz.out rfl
                        have e2 := hQK.out
                        rw [← e1, show N2 = 0 by omega, Nat.zero_div] at e2
                        omega
                      · omega
                    have hc0 : Hid (49 ≤ c1 0) := hide (by have := htop.out hWp; have := hQK.out; omega)
                    have hfin : Hid (S = 1 → c1 0 < c 0) := hide (fun h => by
                      have e1 := htop.out hWp
                      have e2 := HT.out.2.1 h
                      have e3 : M / K < M := Nat.div_lt_self (by have := HD0.out; omega) (by omega)
                      have e4 : dOf c 0 = c 0 - 48 := rfl
                      have e5 := H0.out
                      omega)
                    have y1 := hDe.out.nd_
                    have fr1 := hDe.out.free 800
                    have D3 := hide (hDe.out.set_nd (W : Int))
                    clear hz
                    go_wp2_with (go_at_call 118; refine (trim_any _ b W c1 (dp - ((S : Int) - 1)) ng tr1 hW8 hWp hdg.out (by have := hc0.out; omega) D3.out).mono ?_; rintro x w' ⟨rfl, nd', m1, m2, hde, hon⟩; have HDE := hide hde; have HON := hide hon; clear hde hon)
                    go_end0
                    exact ⟨rfl, c1, nd', dp - ((S : Int) - 1), tr1, ⟨HDE.out, m1, by omega, fun i hi => hdg.out i (by omega), hc0.out⟩, by omega, by omega, fun h => hfin.out (by omega), (hOn.out.set _ _).trans HON.out⟩
    · have hQ1 : (((Q : Nat) : Int) == 0) = false := by rw [beq_eq_false_iff_ne]; omega
      obtain ⟨S, hS⟩ : ∃ S, S = R := ⟨_, rfl⟩
      obtain ⟨M, hM⟩ : ∃ M, M = N := ⟨_, rfl⟩
      have hQK : Hid (1 ≤ M / K) := hide (by rw [hM]; omega)
      have HT : Hid (1 ≤ S ∧ (S = 1 → M = dOf c 0) ∧ S ≤ nd + 60) := hide ⟨by
        rcases R with _ | r
        · have := HR.out.1 rfl
          subst this
          rw [Nat.zero_div] at hQ
          omega
        · omega, fun h => by rw [hM]; exact HR.out.2.2 (by omega), by omega⟩
      subst hS hM
      have hMb := hNb
      have hM10 := hN10
      clear hQ hRm f2 f3 hQ0 hg HR hN10 hNb
      have hS1 : 1 ≤ S := HT.out.1
      have hS2 : S ≤ nd + 60 := HT.out.2.2
      have y0 := D.out.dp_
      have fr0 := D.out.free 801
      obtain ⟨Mk, hMk⟩ : ∃ Mk, Mk = K - 1 := ⟨_, rfl⟩
      have f5 : (K : Int) - 1 = (Mk : Int) := by omega
      have HMk := hide hMk
      clear hMk
      have D2 := hide (D.out.set_dp (dp - ((S : Int) - 1)))
      have O2 := hide ((Only.refl b w).set 801 (.int .i64 (dp - ((S : Int) - 1))))
      go_wp2_with (fail)
      clear f1 hQ1
      go_loopg [4, 5, 6] (nd - S) (fun g r ww n wr2 => ∃ (R2 W N2 : Nat) (c1 : Nat → Nat), g = nd - R2 ∧ r = .int .i64 (R2 : Int) ∧ ww = .int .i64 (W : Int) ∧ n = .int .u64 (N2 : Int) ∧ R2 ≤ 870 ∧ W ≤ 800 ∧ Hid (R2 = S + W) ∧ N2 ≤ 11529215046068469759 ∧ Hid (N2 < 10 * K) ∧ Hid (Dec wr2 b c1 nd (dp - ((S : Int) - 1)) ng tr) ∧ Hid (∀ i, R2 ≤ i → i < nd → c1 i = c i) ∧
          Hid (DigTo c1 W) ∧ Hid (W = 0 → N2 = M) ∧ Hid (1 ≤ W → c1 0 = M / K + 48) ∧ Hid (Only b w wr2))
      case atStart => exact ⟨S, 0, M, c, rfl, by first | rfl | (congr 1; omega), rfl, rfl, by omega, by omega, hide rfl, hMb, hM10, D2, hide (fun _ _ _ => rfl), hide (fun i hi => by omega), hide (fun _ => rfl), hide (fun h => by omega), O2⟩
      case round =>
        obtain ⟨R2, W, N2, c1, hg2, rfl, rfl, rfl, hR2, hW8, hRW, hNb, hN10, hDe, hsame, hdg, hz, htop, hOn⟩ := hrel
        have q1 := hDe.out.nd_
        by_cases hlt : R2 < nd
        · have hw : W < R2 := by have := hRW.out; omega
          have x1 : wr.cell? ⟨b, R2, none⟩ = some (.int .u8 (c R2)) := by rw [hDe.out.dig (by omega), hsame.out R2 (by omega) hlt]
          have x2 := (DG.out R2 (by omega)).1
          have x3 := (DG.out R2 (by omega)).2
          obtain ⟨Q, hQ⟩ : ∃ Q, Q = N2 / K := ⟨_, rfl⟩
          obtain ⟨Rm, hRm⟩ : ∃ Rm, Rm = N2 % K := ⟨_, rfl⟩
          obtain ⟨f1, f2, f3⟩ := div_facts (by omega) hKb hN10.out hQ hRm
          have f4 := mask_nat HK.out h2 HMk.out hRm (by omega)
          obtain ⟨N', hN'⟩ : ∃ N', N' = Rm * 10 + (c R2 - 48) := ⟨_, rfl⟩
          have f6 : (Rm : Int) * 10 + (c R2 : Int) - 48 = (N' : Int) := by omega
          have y1 := hDe.out.dig (i := W) (by omega)
          have fr1 := hDe.out.free W
          have HN : Hid (N' ≤ 11529215046068469759 ∧ N' < 10 * K ∧ (W = 0 → Q = M / K)) := hide ⟨by omega, by omega, fun h => by rw [hQ, hz.out h]⟩
          have hRW' : Hid (R2 + 1 = S + (W + 1)) := hide (by have := hRW.out; omega)
          clear hN' hQ hRm hRW hz
          go_wp2_with (fail)
          go_roundg (nd - (R2 + 1))
          case measure => omega
          case rel =>
            refine ⟨R2 + 1, W + 1, N', upd c1 W (Q + 48), rfl, by go_num, by go_num, rfl, by omega, by omega, hRW', HN.out.1, hide HN.out.2.1, hide (hDe.out.set_dig (by omega) (Q + 48)), hide (fun i h3 h4 => ?_), hide (DigTo.put hdg.out f2), hide (fun h => by omega), hide (fun _ => ?_), hide (hOn.out.set _ _)⟩
            · unfold upd
              rw [if_neg (by omega)]
              exact hsame.out i (by omega) h4
            · unfold upd
              split
              · rename_i h; rw [HN.out.2.2 h.symm]
              · exact htop.out (by omega)
        · clear hg2 hRW hsame
          go_wp2_with (fail)
          go_loopg [5, 6] (k + 1) (fun g ww n wr3 => ∃ (W N2 : Nat) (c1 : Nat → Nat) (tr1 : Bool), ww = .int .i64 (W : Int) ∧ n = .int .u64 (N2 : Int) ∧ W ≤ 800 ∧ N2 ≤ 11529215046068469759 ∧ Hid (Rounds k N2 g) ∧ Hid (N2 < 10 * K) ∧ Hid (Dec wr3 b c1 nd (dp - ((S : Int) - 1)) ng tr1) ∧
              Hid (DigTo c1 W) ∧ Hid (W = 0 → N2 = M) ∧ Hid (1 ≤ W → c1 0 = M / K + 48) ∧ Hid (Only b w wr3))
          case atStart => exact ⟨W, N2, c1, tr, rfl, rfl, hW8, hNb, hide (.inl ⟨0, by omega, by rw [Nat.pow_zero]; exact Nat.one_dvd _, by omega⟩), hN10, hDe, hdg, hz, htop, hOn⟩
          case round =>
            clear hW8 hNb hN10 hDe hdg hz htop hOn q1
            obtain ⟨W, N2, c1, tr1, rfl, rfl, hW8, hNb, hro, hN10, hDe, hdg, hz, htop, hOn⟩ := hrel
            by_cases hN0 : 0 < N2
            · obtain ⟨Q, hQ⟩ : ∃ Q, Q = N2 / K := ⟨_, rfl⟩
              obtain ⟨Rm, hRm⟩ : ∃ Rm, Rm = N2 % K := ⟨_, rfl⟩
              obtain ⟨f1, f2, f3⟩ := div_facts (by omega) hKb hN10.out hQ hRm
              have f4 := mask_nat HK.out h2 HMk.out hRm (by omega)
              obtain ⟨g', hg', hro'⟩ := hro.out.step HK.out hN0
              rw [← hRm] at hro'
              have HR' := hide hro'
              have HN : Hid (W = 0 → Q = M / K) := hide (fun h => by rw [hQ, hz.out h])
              clear hQ hRm hro hz hro'
              have fr3 := hDe.out.free 803
              have y3 := hDe.out.tr_
              by_cases hW : W < 800
              · have y1 := hDe.out.dig (i := W) hW
                have fr1 := hDe.out.free W
                go_wp2_with (fail)
                go_roundg g'
                case measure => exact hg'
                case rel =>
                  refine ⟨W + 1, Rm * 10, upd c1 W (Q + 48), tr1, by go_num, by go_num, by omega, by omega, HR', hide (by omega), hide (hDe.out.set_dig hW (Q + 48)), hide (DigTo.put hdg.out f2), hide (fun h => by omega), hide (fun _ => ?_), hide (hOn.out.set _ _)⟩
                  unfold upd
                  split
                  · rename_i h; rw [HN.out h.symm]
                  · exact htop.out (by omega)
              · by_cases hQ0 : 0 < Q
                · go_wp2_with (fail)
                  go_roundg g'
                  case measure => exact hg'
                  case rel => exact ⟨W, Rm * 10, c1, true, by go_num, by go_num, by omega, by omega, HR', hide (by omega), hide (hDe.out.set_tr true), hdg, hide (fun h => by omega), htop, hide (hOn.out.set _ _)⟩
                · go_wp2_with (fail)
                  go_roundg g'
                  case measure => exact hg'
                  case rel => exact ⟨W, Rm * 10, c1, tr1, by go_num, by go_num, by omega, by omega, HR', hide (by omega), hDe, hdg, hide (fun h => by omega), htop, hOn⟩
            · have hWp : 1 ≤ W := by
                rcases W with _ | v
                · have e1 := hz.out rfl
                  have e2 := hQK.out
                  rw [← e1, show N2 = 0 by omega, Nat.zero_div] at e2
                  omega
                · omega
              have hc0 : Hid (49 ≤ c1 0) := hide (by have := htop.out hWp; have := hQK.out; omega)
              have hfin : Hid (S = 1 → c1 0 < c 0) := hide (fun h => by
                have e1 := htop.out hWp
                have e2 := HT.out.2.1 h
                have e3 : M / K < M := Nat.div_lt_self (by have := HD0.out; omega) (by omega)
                have e4 : dOf c 0 = c 0 - 48 := rfl
                have e5 := H0.out
                omega)
              have y1 := hDe.out.nd_
              have fr1 := hDe.out.free 800
              have D3 := hide (hDe.out.set_nd (W : Int))
              clear hz
              go_wp2_with (go_at_call 118; refine (trim_any _ b W c1 (dp - ((S : Int) - 1)) ng tr1 hW8 hWp hdg.out (by have := hc0.out; omega) D3.out).mono ?_; rintro x w' ⟨rfl, nd', m1, m2, hde, hon⟩; have HDE := hide hde; have HON := hide hon; clear hde hon)
              go_end0
              exact ⟨rfl, c1, nd', dp - ((S : Int) - 1), tr1, ⟨HDE.out, m1, by omega, fun i hi => hdg.out i (by omega), hc0.out⟩, by omega, by omega, fun h => hfin.out (by omega), (hOn.out.set _ _).trans HON.out⟩
end Go.Proofs.YtonnmongipaheaaGreatDoor
