/- internal/strconv.leftShift. -/
import Derived.Test.YtonnmongipaheaaGreatDoorTab
namespace Go.Proofs.YtonnmongipaheaaGreatDoor
open Go.RowKit
set_option linter.unusedVariables false
set_option linter.unusedSimpArgs false

def LeftPost (b : Nat) (c : Nat → Nat) (dp : Int) (ng : Bool) (w : World) (x : Ending) (w' : World) : Prop :=
  x = .returned (.tuple #[]) ∧ ∃ c' nd' dp' tr', DecG w' b c' nd' dp' ng tr' ∧ dp ≤ dp' ∧ dp' ≤ dp + 60 ∧ (dp' = dp → c 0 < c' 0) ∧ Only b w w'

/-- The arithmetic of one digit of the first loop. -/
theorem left_nums {x k cc : Nat} (hx : x ≤ 9) (hk : k ≤ 60) (hc : cc < 2 ^ k) : x * 2 ^ k + cc ≤ 11529215046068469760 := by
  have h1 : (2 : Nat) ^ k ≤ 2 ^ 60 := Nat.pow_le_pow_right (by omega) hk
  have h2 : x * 2 ^ k ≤ 9 * 2 ^ k := Nat.mul_le_mul_right _ hx
  have h3 : (2 : Nat) ^ 60 = 1152921504606846976 := by decide
  omega

theorem wrap_nat (n : Nat) (h : n ≤ 18000000000000000000) : IntKind.u64.wrap (n : Int) = (n : Int) := by rw [IntKind.wrap_u64]; omega

theorem sh_nat (c x k : Nat) (h : c = 48 + x) (hs : x * 2 ^ k ≤ 18000000000000000000) : IntKind.u64.wrap (((c : Nat) : Int) - 48) = (x : Int) ∧ IntKind.u64.wrap ((((c : Nat) : Int) - 48) * 2 ^ k) = ((x * 2 ^ k : Nat) : Int) ∧ IntKind.u64.wrap ((x : Int) * 2 ^ k) = ((x * 2 ^ k : Nat) : Int) := by
  have e : ((c : Nat) : Int) - 48 = (x : Int) := by omega
  have e2 : (x : Int) * 2 ^ k = ((x * 2 ^ k : Nat) : Int) := by simp
  refine ⟨?_, ?_, ?_⟩
  · rw [e]; rw [IntKind.wrap_u64]
    have h1 : 0 < (2 : Nat) ^ k := Nat.two_pow_pos k
    have h2 : x * 1 ≤ x * 2 ^ k := Nat.mul_le_mul_left _ h1
    omega
  · rw [e, e2, wrap_nat _ hs]
  · rw [e2, wrap_nat _ hs]

theorem quo_nat {n q r : Nat} (h : n ≤ 18000000000000000000) (hq : q = n / 10) (hr : r = n % 10) : (n : Int) / 10 = (q : Int) ∧ (n : Int) - 10 * (q : Int) = (r : Int) ∧ q ≤ 1800000000000000000 ∧ r ≤ 9 := by
  omega

/-- The bytes above w are digits again. -/
def HiDig (c1 : Nat → Nat) (W top : Nat) : Prop := ∀ i, W ≤ i → i < top → i < 800 → 48 ≤ c1 i ∧ c1 i ≤ 57
def LoSame (c1 c : Nat → Nat) (p : Nat) : Prop := ∀ i, i < p → c1 i = c i
theorem HiDig.put {c1 : Nat → Nat} {W top x : Nat} (h : HiDig c1 (W + 1) top) (hx : x ≤ 9) : HiDig (upd c1 W (x + 48)) W top := fun i h1 h2 h3 => by
  unfold upd
  split
  · omega
  · exact h i (by omega) h2 h3
theorem HiDig.skip {c1 : Nat → Nat} {W top : Nat} (h : HiDig c1 (W + 1) top) (hW : 800 ≤ W) : HiDig c1 W top := fun i h1 h2 h3 => h i (by omega) h2 h3
theorem LoSame.put {c1 c : Nat → Nat} {p W x : Nat} (h : LoSame c1 c (p + 1)) (hW : p ≤ W) : LoSame (upd c1 W x) c p := fun i hi => by
  unfold upd
  rw [if_neg (by omega)]
  exact h i (by omega)
theorem LoSame.less {c1 c : Nat → Nat} {p : Nat} (h : LoSame c1 c (p + 1)) : LoSame c1 c p := fun i hi => h i (by omega)

/-- What the first loop leaves at the top where no digit comes on. -/
theorem top_digit {c : Nat → Nat} {nd k cc : Nat} (hn : 1 ≤ nd) (hd : DigTo c nd) (h0 : 49 ≤ c 0) (h1 : 1 ≤ k) (hc : Carry (dOf c) nd k (nd - 1) cc) (hz : (dOf c 0 * 2 ^ k + cc) / 10 = 0) : c 0 < (dOf c 0 * 2 ^ k + cc) % 10 + 48 := by
  have h2 : 2 ≤ 2 ^ k := by
    have : (2 : Nat) ^ 1 ≤ 2 ^ k := Nat.pow_le_pow_right (by omega) h1
    simpa using this
  have h3 : dOf c 0 * 2 ≤ dOf c 0 * 2 ^ k := Nat.mul_le_mul_left _ h2
  have h4 : dOf c 0 = c 0 - 48 := rfl
  omega

set_option maxRecDepth 100000 in
set_option maxHeartbeats 4000000 in
theorem left_any (B : Nat) (w : World) (b nd k : Nat) (c : Nat → Nat) (dp : Int) (ng tr : Bool) (hT : Tab B w) (hB : B ≤ b) (h : DecG w b c nd dp ng tr) (h1 : 1 ≤ k) (h2 : k ≤ 60) (hdp : -1000000000 ≤ dp ∧ dp ≤ 1000000000) :
    Calls Tryz.prog 110 #[.pointer (some ⟨b, 0, none⟩), .int .u64 k] w (LeftPost b c dp ng w) := by
  obtain ⟨hd, n1, n2, hdig, h0⟩ := h
  have DG := hide hdig
  have H0 := hide h0
  have D := hide hd
  obtain ⟨q, o, hq, hc1, hc2⟩ := hT.cheat
  have hc3 := (hc2 k (by omega)).1
  have hc4 := (hc2 k (by omega)).2
  have hnd := hd.nd_
  clear hc2
  have HB := hide hB
  have HT := hide hT
  have hdl := (cheat_len h1 h2).2
  have hdl1 := (cheat_is h1 h2).one
  have i1 : (0 : Int) ≤ (nd : Int) := by omega
  have i2 : (nd : Int) ≤ 800 := by omega
  have i3 : (0 : Int) ≤ (k : Int) := by omega
  have i4 : (k : Int) < 61 := by omega
  clear hdig h0 hd hT hB
  go_enter Tryz.func110, Tryz.ntmps110
  go_wp2_with (fail)
  go_quiet ((go_at_call 117; exact Calls.quiet_of (less_quiet _ _ _ _ _ _ n2 h1 h2 (fun i hi => D.out.dig (by omega)) DG.out)))
  have hLs := hide (lessB_less (dOf c) (cheatE k) nd (cheatL k).length)
  have hDD : ∀ j, j < nd → dOf c j ≤ 9 := fun j hj => by
    have := DG.out j hj
    unfold dOf; omega
  have hD0 : 1 ≤ dOf c 0 := by
    have := H0.out
    unfold dOf; omega
  have HDD := hide hDD
  have HD0 := hide hD0
  clear hDD hD0
  rcases hbb : lessB (dOf c) nd (cheatE k) (cheatL k).length with _ | _
  · rw [hbb] at hLs
    obtain ⟨δ, hδ⟩ : ∃ δ, δ = cheatD k := ⟨_, rfl⟩
    have DGS : Hid (∀ cc, Carry (dOf c) nd k nd cc → Digits cc δ) := hide (fun cc hcc => by
      have := carry_digits (cheat_is h1 h2) HDD.out HD0.out n1 hLs.out hcc
      rw [hδ]
      simpa using this)
    have hδ2 : ((cheatD k : Nat) : Int) = (δ : Int) := by omega
    have dl1 : δ ≤ 60 := by omega
    clear hδ hdl hdl1 hLs hbb
    go_wp2_with (fail)
    go_loopg [5, 6, 7] nd (fun g r ww n wr => ∃ (p W cc : Nat) (c1 : Nat → Nat) (tr1 : Bool), p = g ∧ p ≤ nd ∧ r = .int .i64 ((p : Int) - 1) ∧ ww = .int .i64 (W : Int) ∧ n = .int .u64 cc ∧ Hid (W = p + δ) ∧ Hid (Carry (dOf c) nd k (nd - p) cc) ∧ Hid (Dec wr b c1 nd dp ng tr1) ∧
        Hid (LoSame c1 c p) ∧ Hid (HiDig c1 W (nd + δ)) ∧ Hid (Only b w wr) ∧ Hid (p = 0 → cc = 0 → δ = 0 → 49 ≤ c1 0 ∧ c 0 < c1 0))
    case atStart =>
      exact ⟨nd, nd + δ, 0, c, tr, rfl, Nat.le_refl _, by first | rfl | (congr 1; omega), by first | rfl | (congr 1; omega), rfl, hide rfl, hide (by rw [Nat.sub_self]; exact Carry.zero _ _ _), hide (D.out.drewN _), hide (fun i hi => rfl), hide (fun i h1 h2 => by omega), hide ((Only.refl _ _).drewN _), hide (fun h => by omega)⟩
    case round =>
      obtain ⟨p, W, cc, c1, tr1, rfl, hp, rfl, rfl, rfl, hW, hCa, hDe, hlo, hhi, hOn, htop⟩ := hrel
      rcases p with _ | p
      · have hcar : Hid (Carry (dOf c) nd k nd cc) := hCa
        have hW0 : W = δ := by have := hW.out; omega
        have DGT := hide (DGS.out cc hcar.out)
        have hcc0 : Hid (cc < 2 ^ k) := hide (hcar.out.lt HDD.out (Nat.le_refl _))
        clear hcar
        subst hW0
        rw [show (((0 : Nat) : Int) - 1) = -1 from rfl]
        have hnd1 := hDe.out.nd_
        go_wp2_with (fail)
        go_loopg [6, 7] W (fun g ww n wr => ∃ (V cc : Nat) (c1 : Nat → Nat) (tr1 : Bool), V = g ∧ V ≤ W ∧ ww = .int .i64 (V : Int) ∧ n = .int .u64 cc ∧ cc ≤ 18000000000000000000 ∧ Hid (Digits cc V) ∧ Hid (Dec wr b c1 nd dp ng tr1) ∧ Hid (HiDig c1 V (nd + W)) ∧ Hid (Only b w wr) ∧
            Hid (V = 0 → 49 ≤ c1 0 ∧ (W = 0 → c 0 < c1 0)))
        case atStart =>
          refine ⟨W, cc, c1, tr1, rfl, Nat.le_refl _, rfl, rfl, ?_, DGT, hDe, hhi, hOn, hide (fun h => ?_)⟩
          · have h3 := hcc0.out
            have h4 : (2 : Nat) ^ k ≤ 2 ^ 60 := Nat.pow_le_pow_right (by omega) h2
            have h5 : (2 : Nat) ^ 60 = 1152921504606846976 := by decide
            omega
          · have h3 := DGT.out
            rw [h] at h3
            have := htop.out (by simp) h3.zero h
            exact ⟨this.1, fun _ => this.2⟩
        case round =>
          obtain ⟨V, cc, c1, tr1, rfl, hV, rfl, rfl, hcb, hDi, hDe, hhi, hOn, htop⟩ := hrel
          by_cases hcc : 0 < cc
          · obtain ⟨V, rfl⟩ : ∃ v, V = v + 1 := ⟨V - 1, by have := hDi.out.pos hcc; omega⟩
            have hst := hide (hDi.out.step hcc)
            have hz : Hid (V = 0 → cc / 10 = 0) := hide (fun h => by have := hst.out; rw [h] at this; exact this.zero)
            obtain ⟨qq, hqq⟩ : ∃ qq, qq = cc / 10 := ⟨_, rfl⟩
            obtain ⟨rr, hrr⟩ : ∃ rr, rr = cc % 10 := ⟨_, rfl⟩
            obtain ⟨f1, f2, f3, hr9⟩ := quo_nat hcb hqq hrr
            have HN : Hid (qq ≤ 18000000000000000000 ∧ (V = 0 → 1 ≤ rr)) := hide ⟨by omega, fun h => by have := hz.out h; omega⟩
            have HS : Hid (Digits qq V) := hide (by have := hst.out; rw [← hqq] at this; exact this)
            clear hqq hrr hz hst
            have ex : (((V + 1 : Nat) : Int)) = (V : Int) + 1 := by omega
            rw [ex]
            clear ex
            have fr3 := hDe.out.free 803
            have y3 := hDe.out.tr_
            by_cases hV8 : V < 800
            · have y1 := hDe.out.dig (i := V) hV8
              have fr1 := hDe.out.free V
              go_wp2_with (fail)
              go_roundg V
              case measure => omega
              case rel =>
                refine ⟨V, qq, upd c1 V (rr + 48), tr1, rfl, by omega, by go_num, rfl, HN.out.1, HS, hide (hDe.out.set_dig hV8 (rr + 48)), hide (HiDig.put hhi.out hr9), hide (hOn.out.set _ _), hide (fun h => ?_)⟩
                have := HN.out.2 h
                subst h
                refine ⟨by unfold upd; simp; omega, fun h => by omega⟩
            · exact absurd (show V < 800 by omega) hV8
          · obtain rfl : cc = 0 := by omega
            have hV0 : V = 0 := by
              rcases V with _ | v
              · rfl
              · have := hDi.out.2 (by omega)
                have h3 : 0 < (10 : Nat) ^ (v + 1 - 1) := Nat.pow_pos (by omega)
                omega
            have htop0 : Hid (49 ≤ c1 0 ∧ (W = 0 → c 0 < c1 0)) := hide (htop.out hV0)
            subst hV0
            have y1 := hDe.out.nd_
            have y2 := hDe.out.dp_
            have fr1 := hDe.out.free 800
            have fr2 := hDe.out.free 801
            have j1 : dp ≤ 1000000000 := hdp.2
            have j2 : -1000000000 ≤ dp := hdp.1
            have hset := hide (((hDe.out.set_nd ((nd : Int) + (W : Int))).set_dp (dp + (W : Int))))
            have hset8 := hide ((((hDe.out.set_nd ((nd : Int) + (W : Int))).set_nd (800 : Int)).set_dp (dp + (W : Int))))
            by_cases h8 : 800 ≤ nd + W
            · have h8' : decide ((800 : Int) ≤ (nd : Int) + (W : Int)) = true := by simp; omega
              have hdg : Hid (DigTo c1 800) := hide (fun i hi => hhi.out i (by omega) (by omega) hi)
              have htp := hide (htop0.out.1)
              go_wp2_with (go_at_call 118; refine (trim_any _ b 800 c1 (dp + (W : Int)) ng tr1 (by omega) (by omega) hdg.out (by have := htp.out; omega) hset8.out).mono ?_; rintro x w' ⟨rfl, nd', m1, m2, hde, hon⟩; have HDE := hide hde; have HON := hide hon; clear hde hon)
              go_end0
              exact ⟨rfl, c1, nd', dp + (W : Int), tr1, ⟨HDE.out, m1, by omega, fun i hi => hdg.out i (by omega), htp.out⟩, by omega, by omega, fun h => htop0.out.2 (by omega), ((((hOn.out.set _ _).set _ _).set _ _).trans HON.out)⟩
            · have h8' : decide ((800 : Int) ≤ (nd : Int) + (W : Int)) = false := by simp; omega
              have hdg : Hid (DigTo c1 (nd + W)) := hide (fun i hi => hhi.out i (by omega) (by omega) (by omega))
              have htp := hide (htop0.out.1)
              have hset' : Hid (Dec ((wr.setCell ⟨b, 800, none⟩ (.int .i64 ((nd : Int) + (W : Int)))).setCell ⟨b, 801, none⟩ (.int .i64 (dp + (W : Int)))) b c1 ((nd + W : Nat) : Int) (dp + (W : Int)) ng tr1) := hide (hset.out.congr (by omega) rfl)
              go_wp2_with (go_at_call 118; refine (trim_any _ b (nd + W) c1 (dp + (W : Int)) ng tr1 (by omega) (by omega) hdg.out (by have := htp.out; omega) hset'.out).mono ?_; rintro x w' ⟨rfl, nd', m1, m2, hde, hon⟩; have HDE := hide hde; have HON := hide hon; clear hde hon)
              go_end0
              exact ⟨rfl, c1, nd', dp + (W : Int), tr1, ⟨HDE.out, m1, by omega, fun i hi => hdg.out i (by omega), htp.out⟩, by omega, by omega, fun h => htop0.out.2 (by omega), (((hOn.out.set _ _).set _ _).trans HON.out)⟩
      · have x1 : wr.cell? ⟨b, p, none⟩ = some (.int .u8 (c p)) := by rw [hDe.out.dig (by omega), hlo.out p (by omega)]
        have x2 := (DG.out p (by omega)).1
        have x3 := (DG.out p (by omega)).2
        obtain ⟨W, rfl⟩ : ∃ v, W = v + 1 := ⟨W - 1, by have := hW.out; omega⟩
        have hW2 : Hid (W = p + δ) := hide (by have := hW.out; omega)
        have hWp : p ≤ W := by have := hW2.out; omega
        have hWb : W ≤ 860 := by have := hW2.out; omega
        have hlt : cc < 2 ^ k := hCa.out.lt HDD.out (by omega)
        have hst := hide hCa.out.step
        have em : nd - 1 - (nd - (p + 1)) = p := by omega
        have em2 : nd - (p + 1) + 1 = nd - p := by omega
        rw [em, em2] at hst
        obtain ⟨xx, hxx⟩ : ∃ x, x = dOf c p := ⟨_, rfl⟩
        have hx9 : xx ≤ 9 := by rw [hxx]; exact HDD.out p (by omega)
        have hsum := left_nums hx9 h2 hlt
        have hcx : c p = 48 + xx := by rw [hxx]; unfold dOf; omega
        obtain ⟨f0, f1, f1'⟩ := sh_nat (c p) xx k hcx (by omega)
        obtain ⟨sh, hsh⟩ : ∃ s, s = xx * 2 ^ k := ⟨_, rfl⟩
        rw [← hsh] at f1 f1' hsum
        obtain ⟨nn, hnn⟩ : ∃ s, s = sh + cc := ⟨_, rfl⟩
        have f2 : IntKind.u64.wrap ((cc : Int) + (sh : Int)) = (nn : Int) := by
          rw [← Int.natCast_add, wrap_nat _ (by omega), hnn, Nat.add_comm]
        have hnb : nn ≤ 18000000000000000000 := by omega
        have htd : Hid (p = 0 → nn / 10 = 0 → c 0 < nn % 10 + 48) := hide (by
          intro h hz
          subst h
          have := top_digit n1 DG.out H0.out h1 hCa.out (by rw [← hxx, ← hsh, ← hnn]; exact hz)
          rw [← hxx, ← hsh, ← hnn] at this
          exact this)
        rw [← hxx, ← hsh, ← hnn] at hst
        obtain ⟨qq, hqq⟩ : ∃ qq, qq = nn / 10 := ⟨_, rfl⟩
        obtain ⟨rr, hrr⟩ : ∃ rr, rr = nn % 10 := ⟨_, rfl⟩
        obtain ⟨f3, f4, f5, hr9⟩ := quo_nat hnb hqq hrr
        rw [← hqq] at hst htd
        rw [← hrr] at htd
        have hcx' := hide hcx
        clear hcx em em2 hxx hsh hnn hqq hrr hsum hlt
        have ex : (((p + 1 : Nat) : Int) - 1) = (p : Int) := by omega
        have ex2 : (((W + 1 : Nat) : Int)) = (W : Int) + 1 := by omega
        rw [ex, ex2]
        clear ex ex2
        have fr3 := hDe.out.free 803
        have y3 := hDe.out.tr_
        by_cases hV8 : W < 800
        · have y1 := hDe.out.dig (i := W) hV8
          have fr1 := hDe.out.free W
          go_wp2_with (fail)
          go_roundg p
          case measure => omega
          case rel =>
            refine ⟨p, W, qq, upd c1 W (rr + 48), tr1, rfl, by omega, by go_num, by go_num, rfl, hW2, hst, hide (hDe.out.set_dig hV8 (rr + 48)), hide (LoSame.put hlo.out hWp), hide (HiDig.put hhi.out hr9), hide (hOn.out.set _ _), hide (fun h hz hd0 => ?_)⟩
            have e1 := htd.out h hz
            have e2 := hW2.out
            have e3 := H0.out
            have e4 : W = 0 := by omega
            rw [e4]
            unfold upd
            simp only [if_true]
            omega
        · by_cases hr0 : rr = 0
          · subst hr0
            go_wp2_with (fail)
            go_roundg p
            case measure => omega
            case rel =>
              exact ⟨p, W, qq, c1, tr1, rfl, by omega, by go_num, by go_num, rfl, hW2, hst, hDe, hide (LoSame.less hlo.out), hide (HiDig.skip hhi.out (by omega)), hOn, hide (fun h hz hd0 => by have := hW2.out; omega)⟩
          · have hr1 : (((rr : Nat) : Int) != 0) = true := by rw [bne_iff_ne]; omega
            go_wp2_with (fail)
            go_roundg p
            case measure => omega
            case rel =>
              exact ⟨p, W, qq, c1, true, rfl, by omega, by go_num, by go_num, rfl, hW2, hst, hide (hDe.out.set_tr true), hide (LoSame.less hlo.out), hide (HiDig.skip hhi.out (by omega)), hide (hOn.out.set _ _), hide (fun h hz hd0 => by have := hW2.out; omega)⟩
  · rw [hbb] at hLs
    obtain ⟨δ, hδ⟩ : ∃ δ, δ = cheatD k - 1 := ⟨_, rfl⟩
    have DGS : Hid (∀ cc, Carry (dOf c) nd k nd cc → Digits cc δ) := hide (fun cc hcc => by
      have := carry_digits (cheat_is h1 h2) HDD.out HD0.out n1 hLs.out hcc
      rw [hδ]
      simpa using this)
    have hδ2 : ((cheatD k : Nat) : Int) - 1 = (δ : Int) := by omega
    have dl1 : δ ≤ 60 := by omega
    clear hδ hdl hdl1 hLs hbb
    go_wp2_with (fail)
    go_loopg [5, 6, 7] nd (fun g r ww n wr => ∃ (p W cc : Nat) (c1 : Nat → Nat) (tr1 : Bool), p = g ∧ p ≤ nd ∧ r = .int .i64 ((p : Int) - 1) ∧ ww = .int .i64 (W : Int) ∧ n = .int .u64 cc ∧ Hid (W = p + δ) ∧ Hid (Carry (dOf c) nd k (nd - p) cc) ∧ Hid (Dec wr b c1 nd dp ng tr1) ∧
        Hid (LoSame c1 c p) ∧ Hid (HiDig c1 W (nd + δ)) ∧ Hid (Only b w wr) ∧ Hid (p = 0 → cc = 0 → δ = 0 → 49 ≤ c1 0 ∧ c 0 < c1 0))
    case atStart =>
      exact ⟨nd, nd + δ, 0, c, tr, rfl, Nat.le_refl _, by first | rfl | (congr 1; omega), by first | rfl | (congr 1; omega), rfl, hide rfl, hide (by rw [Nat.sub_self]; exact Carry.zero _ _ _), hide (D.out.drewN _), hide (fun i hi => rfl), hide (fun i h1 h2 => by omega), hide ((Only.refl _ _).drewN _), hide (fun h => by omega)⟩
    case round =>
      obtain ⟨p, W, cc, c1, tr1, rfl, hp, rfl, rfl, rfl, hW, hCa, hDe, hlo, hhi, hOn, htop⟩ := hrel
      rcases p with _ | p
      · have hcar : Hid (Carry (dOf c) nd k nd cc) := hCa
        have hW0 : W = δ := by have := hW.out; omega
        have DGT := hide (DGS.out cc hcar.out)
        have hcc0 : Hid (cc < 2 ^ k) := hide (hcar.out.lt HDD.out (Nat.le_refl _))
        clear hcar
        subst hW0
        rw [show (((0 : Nat) : Int) - 1) = -1 from rfl]
        have hnd1 := hDe.out.nd_
        go_wp2_with (fail)
        go_loopg [6, 7] W (fun g ww n wr => ∃ (V cc : Nat) (c1 : Nat → Nat) (tr1 : Bool), V = g ∧ V ≤ W ∧ ww = .int .i64 (V : Int) ∧ n = .int .u64 cc ∧ cc ≤ 18000000000000000000 ∧ Hid (Digits cc V) ∧ Hid (Dec wr b c1 nd dp ng tr1) ∧ Hid (HiDig c1 V (nd + W)) ∧ Hid (Only b w wr) ∧
            Hid (V = 0 → 49 ≤ c1 0 ∧ (W = 0 → c 0 < c1 0)))
        case atStart =>
          refine ⟨W, cc, c1, tr1, rfl, Nat.le_refl _, rfl, rfl, ?_, DGT, hDe, hhi, hOn, hide (fun h => ?_)⟩
          · have h3 := hcc0.out
            have h4 : (2 : Nat) ^ k ≤ 2 ^ 60 := Nat.pow_le_pow_right (by omega) h2
            have h5 : (2 : Nat) ^ 60 = 1152921504606846976 := by decide
            omega
          · have h3 := DGT.out
            rw [h] at h3
            have := htop.out (by simp) h3.zero h
            exact ⟨this.1, fun _ => this.2⟩
        case round =>
          obtain ⟨V, cc, c1, tr1, rfl, hV, rfl, rfl, hcb, hDi, hDe, hhi, hOn, htop⟩ := hrel
          by_cases hcc : 0 < cc
          · obtain ⟨V, rfl⟩ : ∃ v, V = v + 1 := ⟨V - 1, by have := hDi.out.pos hcc; omega⟩
            have hst := hide (hDi.out.step hcc)
            have hz : Hid (V = 0 → cc / 10 = 0) := hide (fun h => by have := hst.out; rw [h] at this; exact this.zero)
            obtain ⟨qq, hqq⟩ : ∃ qq, qq = cc / 10 := ⟨_, rfl⟩
            obtain ⟨rr, hrr⟩ : ∃ rr, rr = cc % 10 := ⟨_, rfl⟩
            obtain ⟨f1, f2, f3, hr9⟩ := quo_nat hcb hqq hrr
            have HN : Hid (qq ≤ 18000000000000000000 ∧ (V = 0 → 1 ≤ rr)) := hide ⟨by omega, fun h => by have := hz.out h; omega⟩
            have HS : Hid (Digits qq V) := hide (by have := hst.out; rw [← hqq] at this; exact this)
            clear hqq hrr hz hst
            have ex : (((V + 1 : Nat) : Int)) = (V : Int) + 1 := by omega
            rw [ex]
            clear ex
            have fr3 := hDe.out.free 803
            have y3 := hDe.out.tr_
            by_cases hV8 : V < 800
            · have y1 := hDe.out.dig (i := V) hV8
              have fr1 := hDe.out.free V
              go_wp2_with (fail)
              go_roundg V
              case measure => omega
              case rel =>
                refine ⟨V, qq, upd c1 V (rr + 48), tr1, rfl, by omega, by go_num, rfl, HN.out.1, HS, hide (hDe.out.set_dig hV8 (rr + 48)), hide (HiDig.put hhi.out hr9), hide (hOn.out.set _ _), hide (fun h => ?_)⟩
                have := HN.out.2 h
                subst h
                refine ⟨by unfold upd; simp; omega, fun h => by omega⟩
            · exact absurd (show V < 800 by omega) hV8
          · obtain rfl : cc = 0 := by omega
            have hV0 : V = 0 := by
              rcases V with _ | v
              · rfl
              · have := hDi.out.2 (by omega)
                have h3 : 0 < (10 : Nat) ^ (v + 1 - 1) := Nat.pow_pos (by omega)
                omega
            have htop0 : Hid (49 ≤ c1 0 ∧ (W = 0 → c 0 < c1 0)) := hide (htop.out hV0)
            subst hV0
            have y1 := hDe.out.nd_
            have y2 := hDe.out.dp_
            have fr1 := hDe.out.free 800
            have fr2 := hDe.out.free 801
            have j1 : dp ≤ 1000000000 := hdp.2
            have j2 : -1000000000 ≤ dp := hdp.1
            have hset := hide (((hDe.out.set_nd ((nd : Int) + (W : Int))).set_dp (dp + (W : Int))))
            have hset8 := hide ((((hDe.out.set_nd ((nd : Int) + (W : Int))).set_nd (800 : Int)).set_dp (dp + (W : Int))))
            by_cases h8 : 800 ≤ nd + W
            · have h8' : decide ((800 : Int) ≤ (nd : Int) + (W : Int)) = true := by simp; omega
              have hdg : Hid (DigTo c1 800) := hide (fun i hi => hhi.out i (by omega) (by omega) hi)
              have htp := hide (htop0.out.1)
              go_wp2_with (go_at_call 118; refine (trim_any _ b 800 c1 (dp + (W : Int)) ng tr1 (by omega) (by omega) hdg.out (by have := htp.out; omega) hset8.out).mono ?_; rintro x w' ⟨rfl, nd', m1, m2, hde, hon⟩; have HDE := hide hde; have HON := hide hon; clear hde hon)
              go_end0
              exact ⟨rfl, c1, nd', dp + (W : Int), tr1, ⟨HDE.out, m1, by omega, fun i hi => hdg.out i (by omega), htp.out⟩, by omega, by omega, fun h => htop0.out.2 (by omega), ((((hOn.out.set _ _).set _ _).set _ _).trans HON.out)⟩
            · have h8' : decide ((800 : Int) ≤ (nd : Int) + (W : Int)) = false := by simp; omega
              have hdg : Hid (DigTo c1 (nd + W)) := hide (fun i hi => hhi.out i (by omega) (by omega) (by omega))
              have htp := hide (htop0.out.1)
              have hset' : Hid (Dec ((wr.setCell ⟨b, 800, none⟩ (.int .i64 ((nd : Int) + (W : Int)))).setCell ⟨b, 801, none⟩ (.int .i64 (dp + (W : Int)))) b c1 ((nd + W : Nat) : Int) (dp + (W : Int)) ng tr1) := hide (hset.out.congr (by omega) rfl)
              go_wp2_with (go_at_call 118; refine (trim_any _ b (nd + W) c1 (dp + (W : Int)) ng tr1 (by omega) (by omega) hdg.out (by have := htp.out; omega) hset'.out).mono ?_; rintro x w' ⟨rfl, nd', m1, m2, hde, hon⟩; have HDE := hide hde; have HON := hide hon; clear hde hon)
              go_end0
              exact ⟨rfl, c1, nd', dp + (W : Int), tr1, ⟨HDE.out, m1, by omega, fun i hi => hdg.out i (by omega), htp.out⟩, by omega, by omega, fun h => htop0.out.2 (by omega), (((hOn.out.set _ _).set _ _).trans HON.out)⟩
      · have x1 : wr.cell? ⟨b, p, none⟩ = some (.int .u8 (c p)) := by rw [hDe.out.dig (by omega), hlo.out p (by omega)]
        have x2 := (DG.out p (by omega)).1
        have x3 := (DG.out p (by omega)).2
        obtain ⟨W, rfl⟩ : ∃ v, W = v + 1 := ⟨W - 1, by have := hW.out; omega⟩
        have hW2 : Hid (W = p + δ) := hide (by have := hW.out; omega)
        have hWp : p ≤ W := by have := hW2.out; omega
        have hWb : W ≤ 860 := by have := hW2.out; omega
        have hlt : cc < 2 ^ k := hCa.out.lt HDD.out (by omega)
        have hst := hide hCa.out.step
        have em : nd - 1 - (nd - (p + 1)) = p := by omega
        have em2 : nd - (p + 1) + 1 = nd - p := by omega
        rw [em, em2] at hst
        obtain ⟨xx, hxx⟩ : ∃ x, x = dOf c p := ⟨_, rfl⟩
        have hx9 : xx ≤ 9 := by rw [hxx]; exact HDD.out p (by omega)
        have hsum := left_nums hx9 h2 hlt
        have hcx : c p = 48 + xx := by rw [hxx]; unfold dOf; omega
        obtain ⟨f0, f1, f1'⟩ := sh_nat (c p) xx k hcx (by omega)
        obtain ⟨sh, hsh⟩ : ∃ s, s = xx * 2 ^ k := ⟨_, rfl⟩
        rw [← hsh] at f1 f1' hsum
        obtain ⟨nn, hnn⟩ : ∃ s, s = sh + cc := ⟨_, rfl⟩
        have f2 : IntKind.u64.wrap ((cc : Int) + (sh : Int)) = (nn : Int) := by
          rw [← Int.natCast_add, wrap_nat _ (by omega), hnn, Nat.add_comm]
        have hnb : nn ≤ 18000000000000000000 := by omega
        have htd : Hid (p = 0 → nn / 10 = 0 → c 0 < nn % 10 + 48) := hide (by
          intro h hz
          subst h
          have := top_digit n1 DG.out H0.out h1 hCa.out (by rw [← hxx, ← hsh, ← hnn]; exact hz)
          rw [← hxx, ← hsh, ← hnn] at this
          exact this)
        rw [← hxx, ← hsh, ← hnn] at hst
        obtain ⟨qq, hqq⟩ : ∃ qq, qq = nn / 10 := ⟨_, rfl⟩
        obtain ⟨rr, hrr⟩ : ∃ rr, rr = nn % 10 := ⟨_, rfl⟩
        obtain ⟨f3, f4, f5, hr9⟩ := quo_nat hnb hqq hrr
        rw [← hqq] at hst htd
        rw [← hrr] at htd
        have hcx' := hide hcx
        clear hcx em em2 hxx hsh hnn hqq hrr hsum hlt
        have ex : (((p + 1 : Nat) : Int) - 1) = (p : Int) := by omega
        have ex2 : (((W + 1 : Nat) : Int)) = (W : Int) + 1 := by omega
        rw [ex, ex2]
        clear ex ex2
        have fr3 := hDe.out.free 803
        have y3 := hDe.out.tr_
        by_cases hV8 : W < 800
        · have y1 := hDe.out.dig (i := W) hV8
          have fr1 := hDe.out.free W
          go_wp2_with (fail)
          go_roundg p
          case measure => omega
          case rel =>
            refine ⟨p, W, qq, upd c1 W (rr + 48), tr1, rfl, by omega, by go_num, by go_num, rfl, hW2, hst, hide (hDe.out.set_dig hV8 (rr + 48)), hide (LoSame.put hlo.out hWp), hide (HiDig.put hhi.out hr9), hide (hOn.out.set _ _), hide (fun h hz hd0 => ?_)⟩
            have e1 := htd.out h hz
            have e2 := hW2.out
            have e3 := H0.out
            have e4 : W = 0 := by omega
            rw [e4]
            unfold upd
            simp only [if_true]
            omega
        · by_cases hr0 : rr = 0
          · subst hr0
            go_wp2_with (fail)
            go_roundg p
            case measure => omega
            case rel =>
              exact ⟨p, W, qq, c1, tr1, rfl, by omega, by go_num, by go_num, rfl, hW2, hst, hDe, hide (LoSame.less hlo.out), hide (HiDig.skip hhi.out (by omega)), hOn, hide (fun h hz hd0 => by have := hW2.out; omega)⟩
          · have hr1 : (((rr : Nat) : Int) != 0) = true := by rw [bne_iff_ne]; omega
            go_wp2_with (fail)
            go_roundg p
            case measure => omega
            case rel =>
              exact ⟨p, W, qq, c1, true, rfl, by omega, by go_num, by go_num, rfl, hW2, hst, hide (hDe.out.set_tr true), hide (LoSame.less hlo.out), hide (HiDig.skip hhi.out (by omega)), hide (hOn.out.set _ _), hide (fun h hz hd0 => by have := hW2.out; omega)⟩
end Go.Proofs.YtonnmongipaheaaGreatDoor
