/- internal/strconv: the unrounded scaling (parseFloat64) returns. -/
import Derived.Test.YtonnmongipaheaaGreatDoorFb1
import Derived.Test.YtonnmongipaheaaGreatDoorUnder
import Derived.Test.YtonnmongipaheaaGreatDoorShelf
import Derived.Laws.Bits64b
import Derived.Test.YtonnmongipaheaaGreatDoorRfRest
namespace Go.Proofs.YtonnmongipaheaaGreatDoor
open Go.RowKit
set_option linter.unusedVariables false
set_option linter.unusedSimpArgs false

theorem log2Pow10_any (p : Int) (w : World) (h : -1000 ≤ p ∧ p ≤ 1000) : Calls Tryz.prog 98 #[.int .i64 p] w (fun e w' => (∃ l : Int, e = .returned (.int .i64 l) ∧ -10000 ≤ l ∧ l ≤ 10000) ∧ w = w') := by
  obtain ⟨h1, h2⟩ := h
  go_enter Tryz.func98, Tryz.ntmps98
  go_wp2_with (fail)
  go_ret
  exact ⟨⟨_, rfl, by omega, by omega⟩, rfl⟩

theorem mul64_any (x y : Int) (w : World) : Calls Tryz.prog 109 #[.int .u64 x, .int .u64 y] w (fun e w' => (∃ hi lo : Int, e = .returned (.tuple #[.int .u64 hi, .int .u64 lo])) ∧ w = w') := by
  go_enter Tryz.func109, Tryz.ntmps109
  go_wp2_with (fail)
  go_ret2
  exact ⟨⟨_, _, rfl⟩, rfl⟩

theorem bool64_any (b : Bool) (w : World) : Calls Tryz.prog 87 #[.bool b] w (fun e w' => e = .returned (.int .u64 (if b then 1 else 0)) ∧ w = w') := by
  cases b
  all_goals
    go_enter Tryz.func87, Tryz.ntmps87
    go_wp2_with (fail)
    go_ret
    exact ⟨rfl, rfl⟩

theorem boolI_any (b : Bool) (w : World) : Calls Tryz.prog 101 #[.bool b] w (fun e w' => (∃ k : Nat, e = .returned (.int .i64 (k : Int)) ∧ k ≤ 1) ∧ w = w') := by
  cases b
  · go_enter Tryz.func101, Tryz.ntmps101
    go_wp2_with (fail)
    go_ret
    exact ⟨⟨0, rfl, by omega⟩, rfl⟩
  · go_enter Tryz.func101, Tryz.ntmps101
    go_wp2_with (fail)
    go_ret
    exact ⟨⟨1, rfl, by omega⟩, rfl⟩

theorem unmin_any (x : Int) (w : World) : Calls Tryz.prog 102 #[.int .u64 x] w (fun e w' => (∃ l : Int, e = .returned (.int .u64 l)) ∧ w = w') := by
  go_enter Tryz.func102, Tryz.ntmps102
  go_wp2_with (fail)
  go_ret
  exact ⟨⟨_, rfl⟩, rfl⟩

theorem round_any (x : Int) (w : World) : Calls Tryz.prog 104 #[.int .u64 x] w (fun e w' => (∃ l : Int, e = .returned (.int .u64 l)) ∧ w = w') := by
  go_enter Tryz.func104, Tryz.ntmps104
  go_wp2_with (fail)
  go_ret
  exact ⟨⟨_, rfl⟩, rfl⟩

/-- A float and an error (nil, or one of the library's own). -/
def FloatErr (x : Ending) : Prop := ∃ (f : Nat) (e : Value), x = .returned (.tuple #[.float .f64 f, e]) ∧ (e = .nilIface ∨ e = .iface 81 (.int .i64 1) ∨ e = .iface 81 (.int .i64 2))

theorem pack_any (m e : Int) (w : World) : Calls Tryz.prog 107 #[.int .u64 m, .int .i64 e] w (fun x w' => FloatErr x ∧ w = w') := by
  have h := frombits64
  go_enter Tryz.func107, Tryz.ntmps107
  go_wp2_with (fail)
  all_goals go_ret2
  · exact ⟨⟨_, _, rfl, .inl rfl⟩, rfl⟩
  · exact ⟨⟨_, _, rfl, .inr (.inl rfl)⟩, rfl⟩
  · exact ⟨⟨_, _, rfl, .inl rfl⟩, rfl⟩

theorem and63 (S : Int) : ∃ k : Nat, k ≤ 63 ∧ bits .and .i64 S 63 = (k : Int) := by
  refine ⟨(BitVec.ofInt 64 S &&& BitVec.ofInt 64 63).toNat, ?_, ?_⟩
  · rw [BitVec.toNat_and]
    have : (BitVec.ofInt 64 63).toNat = 63 := by decide
    rw [this]
    exact Nat.and_le_right
  · have h : (BitVec.ofInt 64 S &&& BitVec.ofInt 64 63).toNat ≤ 63 := by
      rw [BitVec.toNat_and]
      have : (BitVec.ofInt 64 63).toNat = 63 := by decide
      rw [this]
      exact Nat.and_le_right
    show IntKind.i64.wrap ((BitVec.ofInt 64 S &&& BitVec.ofInt 64 63).toNat : Int) = _
    rw [IntKind.wrap_i64]
    omega

/-- Block b holds a scaler. -/
def Pre (w : World) (b : Nat) (S : Int) : Prop := ∃ hi lo : Int, w.heap[b]? = some (.cells #[.int .u64 hi, .int .u64 lo, .int .i64 S] 149)

theorem pre_set {w : World} {b : Nat} {v0 v1 v2 : Value} (h : w.heap[b]? = some (.cells #[v0, v1, v2] 149)) (x y z : Value) :
    (((w.setCell ⟨b, 0, none⟩ x).setCell ⟨b, 1, none⟩ y).setCell ⟨b, 2, none⟩ z).heap[b]? = some (.cells #[x, y, z] 149) := by
  simp [World.setCell, Array.getElem?_modify, h]

theorem bitLenAux_le : ∀ (f x : Nat), Lib.bitLenAux f x ≤ f
  | 0, x => by simp [Lib.bitLenAux]
  | f + 1, x => by
    unfold Lib.bitLenAux
    split
    · omega
    · have := bitLenAux_le f (x / 2)
      omega
theorem bitLen_le (x : Nat) : Lib.bitLen x ≤ 64 := bitLenAux_le 64 x

set_option maxRecDepth 100000 in
theorem prescale_any (B : Nat) (w : World) (b : Nat) (e p lp : Int) (v0 v1 v2 : Value) (hT : Tab B w) (hB : B ≤ b) (h : w.heap[b]? = some (.cells #[v0, v1, v2] 149)) (hp : -348 ≤ p ∧ p ≤ 347) :
    Calls Tryz.prog 99 #[.pointer (some ⟨b, 0, none⟩), .int .i64 e, .int .i64 p, .int .i64 lp] w (fun x w' => x = .returned (.tuple #[]) ∧ (∃ S : Int, Pre w' b S) ∧ Only b w w') := by
  obtain ⟨q, hq⟩ : ∃ q : Nat, p + 348 = q := ⟨(p + 348).toNat, by omega⟩
  obtain ⟨n0, hn0⟩ := hT.p10 (q * 2) (by omega)
  obtain ⟨n1, hn1⟩ := hT.p10 (q * 2 + 1) (by omega)
  have i1 : (0 : Int) ≤ (q : Int) := by omega
  have i2 : (q : Int) < 696 := by omega
  have c0 : w.cell? ⟨b, 0, none⟩ = some v0 := by simp [World.cell?, h]
  have c1 : w.cell? ⟨b, 1, none⟩ = some v1 := by simp [World.cell?, h]
  have c2 : w.cell? ⟨b, 2, none⟩ = some v2 := by simp [World.cell?, h]
  have f0 : w.frozen? ⟨b, 0, none⟩ = false := by simp [World.frozen?, h]
  have f1 : w.frozen? ⟨b, 1, none⟩ = false := by simp [World.frozen?, h]
  have f2 : w.frozen? ⟨b, 2, none⟩ = false := by simp [World.frozen?, h]
  have hne : b ≠ 9 := by have := hT.big; omega
  have H := hide h
  clear h hT
  go_enter Tryz.func99, Tryz.ntmps99
  go_wp2_with (fail)
  go_end0
  exact ⟨rfl, ⟨_, n0, n1, pre_set H.out _ _ _⟩, (((Only.refl b w).set _ _).set _ _).set _ _⟩

set_option maxRecDepth 100000 in
theorem uscale_any (w : World) (b : Nat) (x S : Int) (h : Pre w b S) : Calls Tryz.prog 100 #[.int .u64 x, .pointer (some ⟨b, 0, none⟩)] w (fun e w' => (∃ u : Int, e = .returned (.int .u64 u)) ∧ ∃ q, w' = w.drewN q) := by
  obtain ⟨hi, lo, h⟩ := h
  have c0 : w.cell? ⟨b, 0, none⟩ = some (.int .u64 hi) := by simp [World.cell?, h]
  have c1 : w.cell? ⟨b, 1, none⟩ = some (.int .u64 lo) := by simp [World.cell?, h]
  have c2 : w.cell? ⟨b, 2, none⟩ = some (.int .i64 S) := by simp [World.cell?, h]
  obtain ⟨k, hk1, hk2⟩ := and63 S
  have hk3 : (0 : Int) ≤ (k : Int) := by omega
  have hk4 : (k : Int) ≤ 63 := by omega
  clear h
  go_enter Tryz.func100, Tryz.ntmps100
  go_wp2_with (first
    | (go_at_call 109; refine (mul64_any _ _ _).mono ?_; rintro e w' ⟨⟨hi2, lo2, rfl⟩, rfl⟩)
    | (go_at_call 87; refine (bool64_any _ _).mono ?_; rintro e w' ⟨rfl, rfl⟩))
  · go_ret
    exact ⟨⟨_, rfl⟩, 0, rfl⟩
  all_goals
    go_quiet ((go_at_call 87; exact Calls.quiet_of_same ((bool64_any _ _).mono (fun e w' h => ⟨h.1, h.2.symm⟩))))
    all_goals go_wp2_with (fail)
    all_goals go_ret
    all_goals exact ⟨⟨_, rfl⟩, _, rfl⟩

set_option maxRecDepth 100000 in
set_option maxHeartbeats 1000000 in
theorem parse64_any (B : Nat) (w : World) (d p sg : Int) (hT : Tab B w) (hB : B ≤ w.heap.size) (hd : U64 d) (hp : -345 ≤ p ∧ p ≤ 310) :
    Calls Tryz.prog 90 #[.int .u64 d, .int .i64 p, .int .u64 sg] w (fun x w' => FloatErr x ∧ Below w.heap.size w w') := by
  obtain ⟨d1, d2⟩ := hd
  obtain ⟨p1, p2⟩ := hp
  have hfb := frombits64
  have HT := hide hT
  have HB := hide hB
  have HD := hide (And.intro d1 d2)
  clear hT hB d1 d2
  go_enter Tryz.func90, Tryz.ntmps90
  go_wp2_with (first
    | (go_at_call 65; refine (Tryz.bits_Len64 _ _ HD.out.1 HD.out.2).mono ?_; rintro e w' ⟨rfl, rfl⟩; have hbl := bitLen_le d.toNat; obtain ⟨bl, hblE⟩ : ∃ bl, bl = Lib.bitLen d.toNat := ⟨_, rfl⟩; rw [← hblE] at hbl; rw [← hblE]; clear hblE)
    | (go_at_call 98; refine (log2Pow10_any _ _ ⟨by omega, by omega⟩).mono ?_; rintro e w' ⟨⟨lp, rfl, l1, l2⟩, rfl⟩))
  refine (prescale_any B _ _ _ _ _ _ _ _ (HT.out.below ((Below.refl B _).alloc HB.out _)) HB.out (heap_alloc_new _ _) ⟨by omega, by omega⟩).mono ?_
  rintro e w2 ⟨rfl, ⟨S, hpre⟩, hon⟩
  have HP := hide hpre
  have HO := hide hon
  have HBL : Hid (∀ q, Below w'.heap.size w' (w2.drewN q)) := hide (fun q => ((Below.refl _ w').alloc (Nat.le_refl _) _).trans ((HO.out.drewN q).below (Nat.le_refl _) (by simp)))
  have c2 : w2.cell? ⟨w'.heap.size, 2, none⟩ = some (.int .i64 S) := by
    obtain ⟨hi, lo, h⟩ := hpre
    simp [World.cell?, h]
  clear hpre hon
  go_wp2_with (first
    | (go_at_call 100; refine (uscale_any _ _ _ S HP.out).mono ?_; rintro e w3 ⟨⟨u, rfl⟩, q, rfl⟩)
    | (go_at_call 102; refine (unmin_any _ _).mono ?_; rintro e w3 ⟨⟨l, rfl⟩, rfl⟩)
    | (go_at_call 101; refine (boolI_any _ _).mono ?_; rintro e w3 ⟨⟨k, rfl, hk⟩, rfl⟩)
    | (go_at_call 104; refine (round_any _ _).mono ?_; rintro e w3 ⟨⟨l2, rfl⟩, rfl⟩)
    | (go_at_call 107; refine (pack_any _ _ _).mono ?_; rintro e w3 ⟨⟨f, e2, rfl, he⟩, rfl⟩; have HE := hide he; clear he))
  · go_ret2
    exact ⟨⟨_, _, rfl, .inl rfl⟩, HBL.out 0⟩
  · go_ret2
    exact ⟨⟨_, _, rfl, HE.out⟩, HBL.out _⟩
end Go.Proofs.YtonnmongipaheaaGreatDoor
