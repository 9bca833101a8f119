/- strconv.ParseFloat: it returns at every text; at a whole number's digits: the number; at a text without digits: nought and an error. strconv.ParseFloat: it returns at every text; at a whole number's digits: the number; at a text without digits: nought and an error. -/
import Derived.Test.YtonnmongipaheaaGreatDoorAtof
import Derived.Test.YtonnmongipaheaaGreatDoorRfNum
import Derived.Test.YtonnmongipaheaaGreatDoorRfNone
import Derived.Test.YtonnmongipaheaaGreatDoorShelf2
namespace Go.Proofs.YtonnmongipaheaaGreatDoor
open Go.RowKit
set_option linter.unusedVariables false
set_option linter.unusedSimpArgs false

theorem NumS.no_n {s : ByteArray} {ng : Bool} {j L : Nat} (h : NumS s ng j L) : ¬ ∃ k, k < s.size ∧ (byteAt s k = 110 ∨ byteAt s k = 78) := by
  rintro ⟨k, hk, hk2⟩
  by_cases hkj : k < j
  · have hj := h.jn
    have : ng = true := by
      cases ng
      · simp at hj; omega
      · rfl
    have h45 := h.sign this
    have : k = 0 := by rw [this] at hj; simp at hj; omega
    rw [this, h45] at hk2
    omega
  · have := h.dig (k - j) (by have := h.size; omega)
    rw [show j + (k - j) = k by omega] at this
    omega

/-- The whole number that a text says. -/
def numI (s : ByteArray) (ng : Bool) (j L : Nat) : Int := if ng then -((numV s j L : Nat) : Int) else ((numV s j L : Nat) : Int)

theorem numV_lt {s : ByteArray} {ng : Bool} {j L : Nat} (h : NumS s ng j L) : numV s j L < 1000000000000000 :=
  pre_lt15 h.hi (fun i hi => by have := h.dig i hi; unfold dg; omega)
theorem numV_pos {s : ByteArray} {ng : Bool} {j L : Nat} (h : NumS s ng j L) (hnz : byteAt s j ≠ 48) : 1 ≤ numV s j L := by
  have h0 := h.dig 0 (by have := h.lo; omega)
  rw [Nat.add_zero] at h0
  have h1 := (pre_pos (d := dg s j) (n := L) (by unfold dg; rw [Nat.add_zero]; omega) h.lo (fun i hi => by have := h.dig i hi; unfold dg; omega)).1
  have h2 : 0 < (10 : Nat) ^ (L - 1) := Nat.pow_pos (by omega)
  unfold numV
  omega

def AtofIs (f : Nat) (n : Nat) (w : World) (x : Ending) (w' : World) : Prop := x = .returned (.tuple #[.float .f64 f, .int .i64 (n : Int), .nilIface]) ∧ w = w'

theorem or00 : (bits .or .u64 0 0).toNat = floatOfInt .f64 0 := by decide

set_option maxRecDepth 100000 in
set_option maxHeartbeats 2000000 in
theorem atof_num (B : Nat) (w : World) (s : ByteArray) (ng : Bool) (j L : Nat) (hT : Tab B w) (h : NumS s ng j L) : Calls Tryz.prog 67 #[.string s] w (AtofIs (floatOfInt .f64 (numI s ng j L)) s.size w) := by
  have hfb := frombits64
  have o1 := hT.opt
  have HT := hide hT
  have HN := hide h
  have hsb : s.size ≤ 100 := by have := h.size; have := h.hi; have := h.jn; cases ng <;> simp at this <;> omega
  have HSB := hide hsb
  have V1 := numV_lt h
  have V2 : Hid (byteAt s j ≠ 48 → 1 ≤ numV s j L) := numV_pos h
  obtain ⟨V, hV⟩ : ∃ V, numV s j L = V := ⟨_, rfl⟩
  have hI : Hid (numI s ng j L = if ng then -(V : Int) else (V : Int)) := by show numI s ng j L = _; unfold numI; rw [hV]
  rw [hV] at V1 V2
  have HV := hide hV
  obtain ⟨Q, hQ⟩ : ∃ Q : World → Ending → World → Prop, Q = fun w => AtofIs (floatOfInt .f64 (numI s ng j L)) s.size w := ⟨_, rfl⟩
  have HQ := hide hQ
  have goal : Calls Tryz.prog 67 #[.string s] w (Q w) := by
    clear hT h hsb hV hQ
    go_enter Tryz.func67, Tryz.ntmps67
    go_wp2_with (fail)
    refine (special_any _ _ (by have := HSB.out; omega)).mono ?_
    rintro x w' ⟨f, n, ok, rfl, hn, rfl, hk⟩
    cases ok
    case true => exact absurd (hk rfl) HN.out.no_n
    case false =>
      clear hk
      go_wp2_with (fail)
      by_cases hz : byteAt s j = 48
      · have h1 := HN.out.lead hz
        have hj : j = 0 := by have := HN.out.size; have := HN.out.lo; omega
        have hng : ng = false := by
          have := HN.out.jn
          cases ng
          · rfl
          · simp at this; omega
        subst hj
        subst hng
        refine (read_zero s _ h1 hz).mono ?_
        rintro x w' ⟨rfl, rfl⟩
        have hV0 : V = 0 := by
          rw [← HV.out]
          have : HN.out.lo = HN.out.lo := rfl
          have hL : L = 1 := by have := HN.out.size; omega
          subst hL
          simp [numV, pre, dg, hz]
        have h1' := hide h1
        clear hz h1
        go_wp2_with (go_at_call 87; refine (bool64_any _ _).mono ?_; rintro x w' ⟨rfl, rfl⟩)
        go_ret3
        rw [HQ.out]
        refine ⟨?_, rfl⟩
        rw [hI.out, hV0, or00]
        rfl
      · have hVp := V2.out hz
        have hm0' : (((V : Nat) : Int) == 0) = false := by rw [beq_eq_false_iff_ne]; omega
        have key : ∀ ng', ng' = ng → Calls Tryz.prog 79 #[.string s] w (ReadIs V ng' s.size w) := by
          intro ng' hng
          have hj := HN.out.jn
          rw [← HV.out]
          cases ng
          · simp at hj; subst hj; subst hng; exact read_num_false s L w HN.out hz
          · simp at hj; subst hj; subst hng; exact read_num_true s L w HN.out hz
        refine (key ng rfl).mono ?_
        rintro x w' ⟨rfl, rfl⟩
        clear hz key
        have VB := hide V1
        have VP := hide hVp
        cases ng
        · go_wp2_with (go_at_call 87; refine (bool64_any _ _).mono ?_; rintro x w' ⟨rfl, rfl⟩)
          refine (exact_num B _ V _ HT.out (by have := VB.out; omega)).mono ?_
          rintro x w' ⟨rfl, rfl⟩
          go_wp2_with (fail)
          go_ret3
          rw [HQ.out]
          refine ⟨?_, rfl⟩
          rw [hI.out]
          rfl
        · go_wp2_with (go_at_call 87; refine (bool64_any _ _).mono ?_; rintro x w' ⟨rfl, rfl⟩)
          refine (exact_num B _ V _ HT.out (by have := VB.out; omega)).mono ?_
          rintro x w' ⟨rfl, rfl⟩
          go_wp2_with (fail)
          go_ret3
          rw [HQ.out]
          refine ⟨?_, rfl⟩
          rw [hI.out]
          simp only [if_true]
          rw [← ofInt_neg V (by have := VP.out; omega)]
          rfl
  rw [HQ.out] at goal
  exact goal
end Go.Proofs.YtonnmongipaheaaGreatDoor

namespace Go.Proofs.YtonnmongipaheaaGreatDoor
open Go.RowKit
set_option linter.unusedVariables false
set_option linter.unusedSimpArgs false

set_option maxRecDepth 100000 in
set_option maxHeartbeats 2000000 in
theorem atof_none (w : World) (s : ByteArray) (hs : s.size ≤ 100000) (h : NoDig s) : Calls Tryz.prog 67 #[.string s] w (fun x w' => (∃ n : Int, x = .returned (.tuple #[.float .f64 0, .int .i64 n, .iface 81 (.int .i64 2)])) ∧ w = w') := by
  have HN := hide2 h
  have HS := hide2 hs
  clear h hs
  go_enter Tryz.func67, Tryz.ntmps67
  go_wp2_with (fail)
  refine (special_any _ _ (by have := HS.out; omega)).mono ?_
  rintro x w' ⟨f, n, ok, rfl, hn, rfl, hk⟩
  cases ok
  case true =>
    obtain ⟨k, hk1, hk2⟩ := hk rfl
    exact absurd hk2 (by have := HN.out k hk1; omega)
  case false =>
    clear hk
    go_wp2_with (fail)
    refine (read_none s _ HS.out HN.out).mono ?_
    rintro x w' ⟨⟨m, e, ng, tr, hx, n2, rfl⟩, rfl⟩
    go_wp2_with (fail)
    go_ret3
    exact ⟨⟨_, rfl⟩, rfl⟩

/-- A float, how far it was read, an error. -/
def Three (R : Nat → Int → Value → World → Prop) (x : Ending) (w' : World) : Prop := ∃ f n e, x = .returned (.tuple #[.float .f64 f, .int .i64 n, e]) ∧ R f n e w'
def Two (R : Nat → Value → World → Prop) (x : Ending) (w' : World) : Prop := ∃ f e, x = .returned (.tuple #[.float .f64 f, e]) ∧ R f e w'

theorem prefix_of (w : World) (s : ByteArray) (R : Nat → Int → Value → World → Prop) (h : Calls Tryz.prog 67 #[.string s] w (Three R)) : Calls Tryz.prog 48 #[.string s, .int .i64 64] w (Three R) := by
  have H := hide2 h
  clear h
  go_enter Tryz.func48, Tryz.ntmps48
  go_wp2_with (fail)
  refine H.out.mono ?_
  rintro x w' ⟨f, n, e, rfl, hr⟩
  have HR := hide2 hr
  clear hr
  go_wp2_with (fail)
  go_ret3
  exact ⟨_, _, _, rfl, HR.out⟩

theorem inner_of (w : World) (s : ByteArray) (R : Nat → Int → Value → World → Prop) (S : Nat → Value → World → Prop) (h : Calls Tryz.prog 67 #[.string s] w (Three R))
    (h1 : ∀ f n e w', R f n e w' → n = (s.size : Int) → S f e w') (h2 : ∀ f n e w', R f n e w' → n ≠ (s.size : Int) → S 0 (.iface 81 (.int .i64 2)) w') : Calls Tryz.prog 41 #[.string s, .int .i64 64] w (Two S) := by
  have H := hide2 h
  have H1 := hide2 h1
  have H2 := hide2 h2
  clear h h1 h2
  go_enter Tryz.func41, Tryz.ntmps41
  go_wp2_with (fail)
  refine (prefix_of _ _ R H.out).mono ?_
  rintro x w' ⟨f, n, e, rfl, hr⟩
  by_cases hn : n = (s.size : Int)
  · have HR := hide2 (H1.out _ _ _ _ hr hn)
    have hb : (n == (s.size : Int)) = true := by rw [beq_iff_eq]; exact hn
    have hb2 : (n != (s.size : Int)) = false := by rw [bne, hb]; rfl
    clear hr hn
    go_wp2_with (fail)
    go_ret2
    exact ⟨_, _, rfl, HR.out⟩
  · have HR := hide2 (H2.out _ _ _ _ hr hn)
    have hb : (n == (s.size : Int)) = false := by rw [beq_eq_false_iff_ne]; exact hn
    have hb2 : (n != (s.size : Int)) = true := by rw [bne, hb]; rfl
    clear hr hn
    go_wp2_with (fail)
    go_ret2
    exact ⟨_, _, rfl, HR.out⟩

/-- The two errors of package strconv are there. -/
structure ErrTab (w : World) : Prop where
  size : 3 ≤ w.heap.size
  s : ∃ te pe, w.cell? ⟨1, 0, none⟩ = some (.iface te pe)
  r : ∃ te pe, w.cell? ⟨2, 0, none⟩ = some (.iface te pe)
theorem ErrTab.below {w w' : World} (h : ErrTab w) (hb : Below w.heap.size w w') : ErrTab w' := by
  have := h.size
  obtain ⟨a, b, c⟩ := h.s
  obtain ⟨d, e, f⟩ := h.r
  exact ⟨by have := hb.size; omega, ⟨a, b, (hb.cell (show 1 < w.heap.size by omega)).trans c⟩, ⟨d, e, (hb.cell (show 2 < w.heap.size by omega)).trans f⟩⟩

def ErrIs (w : World) (x : Ending) (w' : World) : Prop := (∃ N, x = .returned (.iface 82 (.pointer (some ⟨N, 0, none⟩)))) ∧ Below w.heap.size w w'

theorem err_eql22 (w : World) : (Sem.run Tryz.prog (binOp BinOp.eql 56 (.iface 81 (.int .i64 2)) (.iface 81 (.int .i64 2))) w) = .ok (.bool true) w := by kernel_rfl
theorem err_eql12 (w : World) : (Sem.run Tryz.prog (binOp BinOp.eql 56 (.iface 81 (.int .i64 1)) (.iface 81 (.int .i64 2))) w) = .ok (.bool false) w := by kernel_rfl
theorem err_eql11 (w : World) : (Sem.run Tryz.prog (binOp BinOp.eql 56 (.iface 81 (.int .i64 1)) (.iface 81 (.int .i64 1))) w) = .ok (.bool true) w := by kernel_rfl

set_option maxRecDepth 100000 in
set_option maxHeartbeats 2000000 in
theorem err_two (w : World) (a s : ByteArray) (hE : ErrTab w) (hs : s.size ≤ 100000) : Calls Tryz.prog 42 #[.string a, .string s, .int .i64 0, .int .i64 64, .iface 81 (.int .i64 2)] w (ErrIs w) := by
  obtain ⟨te, pe, hc⟩ := hE.s
  have HC := hide2 hc
  have HS := hide2 hs
  clear hE hc hs
  have q1 := err_eql22
  have q2 := err_eql12
  have q3 := err_eql11
  go_enter Tryz.func42, Tryz.ntmps42
  go_wp2_with (fail)
  refine (Tryz.strconv_syntaxError a s (.iface te pe) _ (by have := HS.out; omega) HC.out (.inr ⟨_, _, rfl⟩)).mono ?_
  rintro x w' ⟨N, rfl, hN, hv, hb⟩
  have HB := hide2 hb
  clear hv hN hb
  go_wp2_with (fail)
  go_ret
  exact ⟨⟨_, rfl⟩, HB.out⟩

set_option maxRecDepth 100000 in
set_option maxHeartbeats 2000000 in
theorem err_one (w : World) (a s : ByteArray) (hE : ErrTab w) (hs : s.size ≤ 100000) : Calls Tryz.prog 42 #[.string a, .string s, .int .i64 0, .int .i64 64, .iface 81 (.int .i64 1)] w (ErrIs w) := by
  obtain ⟨te, pe, hc⟩ := hE.r
  have HC := hide2 hc
  have HS := hide2 hs
  clear hE hc hs
  have q1 := err_eql22
  have q2 := err_eql12
  have q3 := err_eql11
  go_enter Tryz.func42, Tryz.ntmps42
  go_wp2_with (fail)
  refine (Tryz.strconv_rangeError a s (.iface te pe) _ (by have := HS.out; omega) HC.out (.inr ⟨_, _, rfl⟩)).mono ?_
  rintro x w' ⟨N, rfl, hN, hv, hb⟩
  have HB := hide2 hb
  clear hv hN hb
  go_wp2_with (fail)
  go_ret
  exact ⟨⟨_, rfl⟩, HB.out⟩

def PErr (N : Nat) : Value := .iface 82 (.pointer (some ⟨N, 0, none⟩))

set_option maxRecDepth 100000 in
set_option maxHeartbeats 2000000 in
theorem outer_of (w : World) (s : ByteArray) (S : Nat → Value → World → Prop) (T : Nat → Value → World → Prop) (hs : s.size ≤ 100000) (h : Calls Tryz.prog 41 #[.string s, .int .i64 64] w (Two S))
    (hE : ∀ f e w', S f e w' → OwnErr e) (h1 : ∀ f w', S f .nilIface w' → T f .nilIface w')
    (h2 : ∀ f e w' w'' N, S f e w' → e ≠ .nilIface → Below w'.heap.size w' w'' → T f (PErr N) w'') (h3 : ∀ f e w', S f e w' → ErrTab w') : Calls Tryz.prog 29 #[.string s, .int .i64 64] w (Two T) := by
  have H := hide2 h
  have HE := hide2 hE
  have H1 := hide2 h1
  have H2 := hide2 h2
  have H3 := hide2 h3
  have HS := hide2 hs
  clear h hE h1 h2 h3 hs
  go_enter Tryz.func29, Tryz.ntmps29
  go_wp2_with (fail)
  refine H.out.mono ?_
  rintro x w' ⟨f, e, rfl, hr⟩
  have HR := hide2 hr
  rcases HE.out _ _ _ hr with rfl | rfl | rfl
  · clear hr
    go_wp2_with (fail)
    go_ret2
    exact ⟨_, _, rfl, H1.out _ _ HR.out⟩
  · clear hr
    go_wp2_with (fail)
    refine (err_one _ _ _ (H3.out _ _ _ HR.out) HS.out).mono ?_
    rintro x w'' ⟨⟨N, rfl⟩, hb⟩
    have HB := hide2 hb
    clear hb
    go_wp2_with (fail)
    go_ret2
    exact ⟨_, _, rfl, H2.out _ _ _ _ N HR.out (by intro h; cases h) HB.out⟩
  · clear hr
    go_wp2_with (fail)
    refine (err_two _ _ _ (H3.out _ _ _ HR.out) HS.out).mono ?_
    rintro x w'' ⟨⟨N, rfl⟩, hb⟩
    have HB := hide2 hb
    clear hb
    go_wp2_with (fail)
    go_ret2
    exact ⟨_, _, rfl, H2.out _ _ _ _ N HR.out (by intro h; cases h) HB.out⟩

/-- strconv.ParseFloat returns a float and an error, or none. -/
theorem parse_any (B : Nat) (w : World) (s : ByteArray) (hT : Tab B w) (hB : B ≤ w.heap.size) (hE : ErrTab w) (hs : s.size ≤ 100000) :
    Calls Tryz.prog 29 #[.string s, .int .i64 64] w (Two fun f e w' => (e = .nilIface ∨ ∃ N, e = PErr N) ∧ Below w.heap.size w w') := by
  refine outer_of w s (fun f e w' => OwnErr e ∧ Below w.heap.size w w') _ hs ?_ (fun _ _ _ h => h.1) (fun f w' h => ⟨.inl rfl, h.2⟩)
    (fun f e w' w'' N h _ hb => ⟨.inr ⟨N, rfl⟩, h.2.trans (hb.mono h.2.size)⟩) (fun f e w' h => hE.below h.2)
  refine inner_of w s (fun f n e w' => OwnErr e ∧ Below w.heap.size w w') _ ?_ (fun _ _ _ _ h _ => h) (fun _ _ _ _ h _ => ⟨.inr (.inr rfl), h.2⟩)
  refine (atof_any B w s hT hB hs).mono ?_
  rintro x w' ⟨⟨f, n, e, rfl, h⟩, hb⟩
  exact ⟨f, n, e, rfl, h, hb⟩

theorem parse_num (B : Nat) (w : World) (s : ByteArray) (ng : Bool) (j L : Nat) (hT : Tab B w) (hE : ErrTab w) (h : NumS s ng j L) :
    Calls Tryz.prog 29 #[.string s, .int .i64 64] w (Two fun f e w' => f = floatOfInt .f64 (numI s ng j L) ∧ e = .nilIface ∧ w = w') := by
  refine outer_of w s (fun f e w' => f = floatOfInt .f64 (numI s ng j L) ∧ e = .nilIface ∧ w = w') _ (by have := h.size; have := h.hi; have := h.jn; cases ng <;> simp at this <;> omega) ?_
    (fun _ _ _ h => .inl h.2.1) (fun f w' h => h) (fun f e w' w'' N h he _ => absurd h.2.1 he) (fun f e w' h => h.2.2 ▸ hE)
  refine inner_of w s (fun f n e w' => f = floatOfInt .f64 (numI s ng j L) ∧ n = (s.size : Int) ∧ e = .nilIface ∧ w = w') _ ?_ (fun _ _ _ _ h _ => ⟨h.1, h.2.2⟩) (fun _ _ _ _ h hn => absurd h.2.1 hn)
  refine (atof_num B w s ng j L hT h).mono ?_
  rintro x w' ⟨rfl, rfl⟩
  exact ⟨_, _, _, rfl, rfl, rfl, rfl, rfl⟩

theorem parse_none (w : World) (s : ByteArray) (hE : ErrTab w) (hs : s.size ≤ 100000) (h : NoDig s) :
    Calls Tryz.prog 29 #[.string s, .int .i64 64] w (Two fun f e w' => f = 0 ∧ (∃ N, e = PErr N) ∧ Below w.heap.size w w') := by
  refine outer_of w s (fun f e w' => f = 0 ∧ e = .iface 81 (.int .i64 2) ∧ w = w') _ hs ?_
    (fun _ _ _ h => .inr (.inr h.2.1)) (fun f w' h => absurd h.2.1 (by intro h; cases h)) (fun f e w' w'' N h he hb => ⟨h.1, ⟨N, rfl⟩, by rw [h.2.2]; exact hb⟩) (fun f e w' h => h.2.2 ▸ hE)
  refine inner_of w s (fun f n e w' => f = 0 ∧ e = .iface 81 (.int .i64 2) ∧ w = w') _ ?_ (fun _ _ _ _ h _ => h) (fun _ _ _ _ h hn => ⟨rfl, rfl, h.2.2⟩)
  refine (atof_none w s hs h).mono ?_
  rintro x w' ⟨⟨n, rfl⟩, rfl⟩
  exact ⟨_, _, _, rfl, rfl, rfl, rfl⟩
end Go.Proofs.YtonnmongipaheaaGreatDoor
